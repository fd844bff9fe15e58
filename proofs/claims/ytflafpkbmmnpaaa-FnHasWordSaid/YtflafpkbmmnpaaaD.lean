/- Words of a value, and what the reference and the program ask of them (joined by a program of mine). -/
import Derived.Lib.IndexMore
import Derived.Lib.IndexLaws
import Derived.Test.YtflafpkbmmnpaaaRows
import Derived.WalkKit
import Derived.WalkSpells
import Derived.WalkLawsBesides
import Derived.Lib.Hide
import Derived.Laws.AppendOwn
import Derived.Maps.AppendAt
import Derived.Below
import Derived.LoopTactic
import Derived.Lib.FieldsLaws
import Derived.Lib.IndexBytes
import Derived.Lib.Case
import Derived.Lib.BufferWrite
import Derived.Deep.OwnRows
import Derived.Lib.DecodeN
import Derived.Lib.OthersKept
import Derived.Lib.RuneCount
import Derived.Laws.RangeAny
import Derived.WalkSmall
import Derived.Lib.TrimU
namespace Go.Proofs.Ytflafpkbmmnpaaa
set_option linter.unusedVariables false

/-- White space of HTML. -/
def wsB (c : UInt8) : Bool := c == 32 || c == 9 || c == 10 || c == 13 || c == 12

def wds : List UInt8 → List UInt8 → List (List UInt8)
  | cur, [] => if cur = [] then [] else [cur]
  | cur, c :: l => if wsB c = true then (if cur = [] then wds [] l else cur :: wds [] l) else wds (cur ++ [c]) l
/-- The words of a text. -/
def words (l : List UInt8) : List (List UInt8) := wds [] l

theorem wds_ws {cur : List UInt8} {c : UInt8} (l : List UInt8) (h : wsB c = true) : wds cur (c :: l) = (if cur = [] then [] else [cur]) ++ wds [] l := by
  rw [wds, if_pos h]
  split <;> simp
theorem wds_no {cur : List UInt8} {c : UInt8} (l : List UInt8) (h : wsB c = false) : wds cur (c :: l) = wds (cur ++ [c]) l := by
  rw [wds, if_neg (by simp [h])]
theorem wds_cat {c : UInt8} (h : wsB c = true) (b : List UInt8) : ∀ (a cur : List UInt8), wds cur (a ++ c :: b) = wds cur a ++ wds [] b := by
  intro a
  induction a with
  | nil => intro cur; rw [List.nil_append, wds_ws _ h]; rfl
  | cons x a ih =>
    intro cur
    rw [List.cons_append]
    cases hx : wsB x
    · rw [wds_no _ hx, wds_no _ hx, ih]
    · rw [wds_ws _ hx, wds_ws _ hx, ih, List.append_assoc]
theorem words_cat {c : UInt8} (h : wsB c = true) (a b : List UInt8) : words (a ++ c :: b) = words a ++ words b := wds_cat h b a []
theorem words_front {c : UInt8} (h : wsB c = true) (b : List UInt8) : words (c :: b) = words b := by simpa [words, wds] using words_cat h [] b
theorem words_back {c : UInt8} (h : wsB c = true) (a : List UInt8) : words (a ++ [c]) = words a := by simpa [words, wds] using words_cat h a []
theorem wds_one : ∀ (l cur : List UInt8), (∀ c ∈ l, wsB c = false) → wds cur l = if cur ++ l = [] then [] else [cur ++ l] := by
  intro l
  induction l with
  | nil => intro cur _; rw [List.append_nil]; rfl
  | cons x l ih =>
    intro cur h
    rw [wds_no _ (h x (by simp)), ih _ (fun c hc => h c (by simp [hc])), List.append_assoc]
    rfl
theorem words_one {l : List UInt8} (h : ∀ c ∈ l, wsB c = false) (hne : l ≠ []) : words l = [l] := by
  unfold words
  rw [wds_one _ _ h, List.nil_append, if_neg hne]

theorem wds_mem : ∀ (l cur w : List UInt8), (∀ c ∈ cur, wsB c = false) → w ∈ wds cur l → w ≠ [] ∧ (∀ c ∈ w, wsB c = false) ∧ ∃ pre post, cur ++ l = pre ++ w ++ post ∧ (pre = [] ∨ ∃ p c, pre = p ++ [c] ∧ wsB c = true) ∧ (post = [] ∨ ∃ c p, post = c :: p ∧ wsB c = true) := by
  intro l
  induction l with
  | nil =>
    intro cur w hc hw
    rw [wds] at hw
    split at hw
    · simp at hw
    · rename_i hne
      rw [List.mem_singleton] at hw
      subst hw
      exact ⟨hne, hc, [], [], by simp, .inl rfl, .inl rfl⟩
  | cons x l ih =>
    intro cur w hc hw
    cases hx : wsB x
    · rw [wds_no _ hx] at hw
      have h := ih (cur ++ [x]) w (by intro c hm; rw [List.mem_append, List.mem_singleton] at hm; rcases hm with hm | rfl; exact hc c hm; exact hx) hw
      rwa [List.append_assoc] at h
    · rw [wds_ws _ hx, List.mem_append] at hw
      rcases hw with hw | hw
      · split at hw
        · simp at hw
        · rename_i hne
          rw [List.mem_singleton] at hw
          subst hw
          exact ⟨hne, hc, [], x :: l, by simp, .inl rfl, .inr ⟨x, l, rfl, hx⟩⟩
      · obtain ⟨h1, h2, pre, post, h3, h4, h5⟩ := ih [] w (by simp) hw
        refine ⟨h1, h2, cur ++ x :: pre, post, ?_, ?_, h5⟩
        · rw [List.nil_append] at h3; rw [h3]; simp
        · rcases h4 with rfl | ⟨p, c, rfl, hc2⟩
          · exact .inr ⟨cur, x, rfl, hx⟩
          · exact .inr ⟨cur ++ x :: p, c, by simp, hc2⟩
theorem words_mem {l w : List UInt8} (h : w ∈ words l) : w ≠ [] ∧ (∀ c ∈ w, wsB c = false) ∧ ∃ pre post, l = pre ++ w ++ post ∧ (pre = [] ∨ ∃ p c, pre = p ++ [c] ∧ wsB c = true) ∧ (post = [] ∨ ∃ c p, post = c :: p ∧ wsB c = true) :=
  wds_mem l [] w (by simp) h
theorem words_len_mem {l w : List UInt8} (h : w ∈ words l) : w.length ≤ l.length := by
  obtain ⟨_, _, pre, post, e, _⟩ := words_mem h
  rw [e]; simp; omega
theorem wds_count : ∀ (l cur : List UInt8), (wds cur l).length ≤ l.length + (if cur = [] then 0 else 1) := by
  intro l
  induction l with
  | nil => intro cur; rw [wds]; split <;> simp
  | cons x l ih =>
    intro cur
    cases hx : wsB x
    · rw [wds_no _ hx]
      have := ih (cur ++ [x])
      rw [if_neg (by simp)] at this
      rw [List.length_cons]; split <;> omega
    · rw [wds_ws _ hx, List.length_append, List.length_cons]
      have := ih []
      rw [if_pos rfl] at this
      split <;> simp <;> omega
theorem words_count (l : List UInt8) : (words l).length ≤ l.length := by
  have := wds_count l []
  rwa [if_pos rfl] at this

/-- A word is in a text, all white space of which are blanks, just if it stands there between blanks. -/
theorem words_between {l w : List UInt8} (hl : ∀ c ∈ l, wsB c = true → c = 32) (hw : ∀ c ∈ w, wsB c = false) (hne : w ≠ []) :
    w ∈ words l ↔ ∃ A B, 32 :: l ++ [32] = A ++ (32 :: w ++ [32]) ++ B := by
  constructor
  · intro h
    obtain ⟨_, _, pre, post, e, h1, h2⟩ := words_mem h
    have hp : ∃ A, 32 :: pre = A ++ [32] := by
      rcases h1 with rfl | ⟨p, c, rfl, hc⟩
      · exact ⟨[], rfl⟩
      · have : c = 32 := hl c (by rw [e]; simp) hc
        exact ⟨32 :: p, by rw [this]; simp⟩
    have hq : ∃ B, post ++ [32] = 32 :: B := by
      rcases h2 with rfl | ⟨c, p, rfl, hc⟩
      · exact ⟨[], rfl⟩
      · have : c = 32 := hl c (by rw [e]; simp) hc
        exact ⟨p ++ [32], by rw [this]; simp⟩
    obtain ⟨A, hA⟩ := hp
    obtain ⟨B, hB⟩ := hq
    refine ⟨A, B, ?_⟩
    have : 32 :: l ++ [32] = (32 :: pre) ++ w ++ (post ++ [32]) := by rw [e]; simp
    rw [this, hA, hB]; simp
  · rintro ⟨A, B, e⟩
    have e1 : words (32 :: l ++ [32]) = words l := by
      rw [words_back (by decide), words_front (by decide)]
    have e2 : words (A ++ (32 :: w ++ [32]) ++ B) = words A ++ ([w] ++ words B) := by
      have : A ++ (32 :: w ++ [32]) ++ B = A ++ 32 :: (w ++ 32 :: B) := by simp
      rw [this, words_cat (by decide), words_cat (by decide), words_one hw hne]
    rw [← e1, e, e2]; simp

theorem contains_iff (s sub : List UInt8) : Lib.contains s sub = true ↔ ∃ A B, s = A ++ sub ++ B := by
  unfold Lib.contains
  rw [decide_eq_true_eq]
  constructor
  · intro h
    rcases Lib.index_spec s sub with ⟨h1, _⟩ | ⟨i, h1, h2, h3, _⟩
    · omega
    · unfold Lib.occAt at h3
      obtain ⟨B, hB⟩ := List.isPrefixOf_iff_prefix.1 h3
      exact ⟨s.take i, B, by rw [List.append_assoc, hB, List.take_append_drop]⟩
  · rintro ⟨A, B, rfl⟩
    rcases Lib.index_spec (A ++ sub ++ B) sub with ⟨_, h2⟩ | ⟨i, h1, _⟩
    · have := h2 A.length (by simp)
      unfold Lib.occAt at this
      rw [List.append_assoc, List.drop_left] at this
      rw [List.isPrefixOf_iff_prefix.2 (List.prefix_append _ _)] at this
      cases this
    · omega
/-- Small letters. -/
def smB (c : UInt8) : UInt8 := if 65 ≤ c ∧ c ≤ 90 then c + 32 else c
theorem wsB_sm : ∀ c : UInt8, wsB (smB c) = wsB c := by
  intro c
  unfold smB
  split
  · rename_i h
    have h1 : 65 ≤ c.toNat := by simpa [UInt8.le_iff_toNat_le] using h.1
    have h2 : c.toNat ≤ 90 := by simpa [UInt8.le_iff_toNat_le] using h.2
    have e : ∀ (d : UInt8) (n : Nat), d.toNat = n → (n < 65) → (c == d) = false ∧ (c + 32 == d) = false := by
      intro d n hd hn
      have e3 : (c + 32).toNat = c.toNat + 32 := by rw [UInt8.toNat_add]; show (c.toNat + 32) % 256 = _; omega
      constructor
      · rw [beq_eq_false_iff_ne]; intro q; rw [q] at h1; omega
      · rw [beq_eq_false_iff_ne]; intro q; rw [q] at e3; omega
    unfold wsB
    simp [e 32 32 rfl (by decide), e 9 9 rfl (by decide), e 10 10 rfl (by decide), e 13 13 rfl (by decide), e 12 12 rfl (by decide)]
  · rfl
theorem wds_sm : ∀ (l cur : List UInt8), wds (cur.map smB) (l.map smB) = (wds cur l).map (List.map smB) := by
  intro l
  induction l with
  | nil => intro cur; simp only [List.map_nil, wds]; cases cur <;> simp
  | cons x l ih =>
    intro cur
    rw [List.map_cons]
    cases hx : wsB x
    · rw [wds_no _ hx, wds_no _ (by rw [wsB_sm]; exact hx), ← ih]; simp
    · rw [wds_ws _ hx, wds_ws _ (by rw [wsB_sm]; exact hx), List.map_append, ← ih]
      cases cur <;> simp
theorem words_sm (l : List UInt8) : words (l.map smB) = (words l).map (List.map smB) := wds_sm l []
end Go.Proofs.Ytflafpkbmmnpaaa

namespace Go.Proofs.Ytflafpkbmmnpaaa
open Go.RowKit
set_option linter.unusedVariables false

theorem Try.infoStr : (Try.prog.info? 9).map (fun i => (i.zero, i.size, i.bytes)) = some (some (.string ⟨#[]⟩), 1, 16) := by kernel_rfl

/-- Texts, as values. -/
def strs (l : List (List UInt8)) : List Value := l.map fun x => Value.string ⟨x.toArray⟩
theorem strs_length (l : List (List UInt8)) : (strs l).length = l.length := by simp [strs]
theorem strs_at {l : List (List UInt8)} {i : Nat} (h : i < l.length) : (strs l)[i]'(by rw [strs_length]; exact h) = .string ⟨l[i].toArray⟩ := by simp [strs]
theorem strs_snoc (l : List (List UInt8)) (x : List UInt8) : strs (l ++ [x]) = strs l ++ [.string ⟨x.toArray⟩] := by simp [strs]
theorem ext_str (s : ByteArray) (a b : Nat) : s.extract a b = ⟨((s.data.toList.drop a).take (b - a)).toArray⟩ := by
  apply ByteArray.ext
  apply Array.ext'
  rw [Lib.extract_data]
theorem wsB_iff (c : UInt8) : wsB c = true ↔ c.toNat = 32 ∨ c.toNat = 9 ∨ c.toNat = 10 ∨ c.toNat = 13 ∨ c.toNat = 12 := by
  have e : ∀ d : UInt8, (c == d) = true ↔ c.toNat = d.toNat := fun d => by rw [beq_iff_eq]; exact UInt8.toNat_inj.symm
  unfold wsB
  simp only [Bool.or_eq_true, e]
  rw [or_assoc, or_assoc, or_assoc]
  exact Iff.rfl

set_option maxRecDepth 100000 in
theorem space_any (c : UInt8) (w : World) : Calls Try.prog 15 #[.int .u8 c.toNat] w fun e w' => e = .returned (.bool (wsB c)) ∧ w = w' := by
  cases hw : wsB c
  · have h : ¬ (c.toNat = 32 ∨ c.toNat = 9 ∨ c.toNat = 10 ∨ c.toNat = 13 ∨ c.toNat = 12) := by rw [← wsB_iff, hw]; simp
    have z1 : ((c.toNat : Int) == 32) = false := beq_eq_false_iff_ne.2 (by omega)
    have z2 : ((c.toNat : Int) == 9) = false := beq_eq_false_iff_ne.2 (by omega)
    have z3 : ((c.toNat : Int) == 10) = false := beq_eq_false_iff_ne.2 (by omega)
    have z4 : ((c.toNat : Int) == 13) = false := beq_eq_false_iff_ne.2 (by omega)
    have z5 : ((c.toNat : Int) == 12) = false := beq_eq_false_iff_ne.2 (by omega)
    clear h hw
    go_enter Try.func15, Try.ntmps15
    go_wp2_with fail
    go_ret
    exact ⟨rfl, rfl⟩
  · have h := (wsB_iff c).1 hw
    clear hw
    rcases h with h | h | h | h | h
    all_goals
      rw [h]
      clear h
      go_enter Try.func15, Try.ntmps15
      go_wp2_with fail
      go_ret
      exact ⟨rfl, rfl⟩

theorem own_sl {w : World} {base e size n : Nat} {v : Value} {xs : List Value} (h : w.ownsRow base e size v n xs) : ∃ a c, v = .slice a n c := by
  rcases h.2 with ⟨hv, h0⟩ | ⟨g, cap, cur, hv, _⟩
  · exact ⟨none, 0, by rw [hv, h0]⟩
  · exact ⟨_, cap, hv⟩

def StrsPost (l : List (List UInt8)) (w : World) (e : Ending) (w' : World) : Prop :=
  ∃ a c, e = .returned (.slice a l.length c) ∧ w'.ownsRow w.heap.size 9 1 (.slice a l.length c) l.length (strs l) ∧ Below w.heap.size w w'
def WordsRel (s : ByteArray) (W : World) (v fr x : Value) (wr : World) : Prop :=
  ∃ (k f : Nat) (acc : List (List UInt8)) (a : Option Addr) (c : Nat), k ≤ s.size + 1 ∧ f ≤ k ∧ (k = s.size + 1 → f = k) ∧ x = .int .i64 (k : Nat) ∧ fr = .int .i64 (f : Nat) ∧ v = .slice a acc.length c ∧
    wr.ownsRow W.heap.size 9 1 (.slice a acc.length c) acc.length (strs acc) ∧ Hid (words s.data.toList = acc ++ wds ((s.data.toList.drop f).take (k - f)) (s.data.toList.drop k)) ∧ acc.length ≤ k ∧ Below W.heap.size W wr

theorem words_go {l : List UInt8} {k f : Nat} {acc : List (List UInt8)} {c : UInt8} (hf : f ≤ k) (hk : l[k]? = some c) (hc : wsB c = false) (h : words l = acc ++ wds ((l.drop f).take (k - f)) (l.drop k)) :
    words l = acc ++ wds ((l.drop f).take (k + 1 - f)) (l.drop (k + 1)) := by
  rw [h, Lib.drop_at hk, wds_no _ hc, Lib.piece_more hf hk]
theorem words_cut {l : List UInt8} {k f : Nat} {acc : List (List UInt8)} (hf : f ≤ k) (hkl : k ≤ l.length) (hc : ∀ c, l[k]? = some c → wsB c = true) (h : words l = acc ++ wds ((l.drop f).take (k - f)) (l.drop k)) :
    words l = (if f < k then acc ++ [(l.drop f).take (k - f)] else acc) ++ wds ((l.drop (k + 1)).take (k + 1 - (k + 1))) (l.drop (k + 1)) := by
  have h1 : wds ((l.drop f).take (k - f)) (l.drop k) = (if (l.drop f).take (k - f) = [] then [] else [(l.drop f).take (k - f)]) ++ wds [] (l.drop (k + 1)) := by
    cases hk : l[k]? with
    | none =>
      have : l.length ≤ k := List.getElem?_eq_none_iff.1 hk
      rw [List.drop_of_length_le this, List.drop_of_length_le (by omega : l.length ≤ k + 1), wds, wds]; simp
    | some c => rw [Lib.drop_at hk, wds_ws _ (hc c hk)]
  rw [h, h1, Nat.sub_self, List.take_zero]
  by_cases hlt : f < k
  · rw [if_pos hlt, if_neg (Lib.piece_ne hlt hkl), List.append_assoc]
  · obtain rfl : f = k := by omega
    simp

set_option maxRecDepth 100000 in
set_option maxHeartbeats 2000000 in
theorem wordsOf_any (s : ByteArray) (hs : s.size ≤ 2147483647) (w : World) : Calls Try.prog 10 #[.string s] w (StrsPost (words s.data.toList) w) := by
  obtain ⟨i0, hinf, hz0, hz1, hz2⟩ := info_parts Try.infoStr
  have hsl : s.data.toList.length = s.size := rfl
  have HL := Lib.hid hsl
  clear hsl
  go_enter Try.func10, Try.ntmps10
  go_wp2_with fail
  go_loopw [3, 4, 5] (fun v fr x wr => WordsRel s w v fr x wr) (fun _ _ x _ => s.size + 1 - (intOf x).toNat)
  case atStart => exact ⟨0, 0, [], none, 0, by omega, by omega, (fun h => by omega), rfl, rfl, rfl, World.ownsRow_nil _ _ _ _, (by simp [Hid, words]), by simp, Below.refl _ _⟩
  case round =>
    obtain ⟨k, f, acc, a, c, hk, hf, hfin, rfl, rfl, rfl, hown, hw, hal, hb⟩ := hrel
    have HB := Lib.hid hb
    have HW := Lib.hid hown
    have HFin := Lib.hid hfin
    have hsz := hb.size
    clear hb hown hfin
    by_cases hle : k ≤ s.size
    · have HCut := Lib.hid (fun h => words_cut (l := s.data.toList) hf (by have := HL.out; omega) h hw.out)
      have HX : Hid (s.extract f k = ⟨((s.data.toList.drop f).take (k - f)).toArray⟩) := ext_str s f k
      by_cases hlt : k < s.size
      · have hgk : s.data.toList[k]? = some s[k] := by
          rw [List.getElem?_eq_getElem (by have := HL.out; omega)]; rfl
        have HSp := Lib.hid (space_any s[k] wr)
        cases hc : wsB s[k]
        · have HN := Lib.hid (words_go hf hgk hc hw.out)
          rw [hc] at HSp
          clear hw HCut hgk hc
          go_wp2_with fail
          refine HSp.out.mono ?_
          rintro e w1 ⟨rfl, rfl⟩
          go_wp2_with fail
          go_roundw
          case rel => exact ⟨k + 1, f, acc, a, c, by omega, by omega, (fun h => by omega), by go_num, rfl, rfl, HW.out, HN.out, by omega, HB.out⟩
          case measure => simp [intOf]; omega
        · have HN := Lib.hid (HCut.out (fun d hd => by rw [hgk] at hd; cases hd; exact hc))
          rw [hc] at HSp
          clear hw HCut hgk hc
          by_cases hfk : f < k
          · rw [if_pos hfk] at HN
            go_wp2_with fail
            refine HSp.out.mono ?_
            rintro e w1 ⟨rfl, rfl⟩
            go_wp2_with (at_builtin; refine wpList_append_own _ rfl _ _ 28 rfl w.heap.size 9 i0 (.string ⟨#[]⟩) 1 16 Try.underlying28 hinf hz0 hz1 hz2 rfl (by decide) _ _ _ rfl (HW.out.alloc _) ⟨wr.heap.size, 0, none⟩ 1 1 [.string (s.extract f k)] rfl rfl (cell_one_new _ _ _) (by intro u hu; simp at hu; subst hu; rfl) (by unfold maxLen; omega) (by omega) (by simp; omega) ?_)
            intro v' w3 hown' hgrow _
            obtain ⟨a3, c3, hv2⟩ := own_sl hown'
            rw [hv2] at hown' ⊢
            have hb1 : Below w.heap.size w w3 := (HB.out.alloc hsz _).grown hgrow (by simp; omega) (fun q hq => (HW.out.lt q hq).1)
            have HO1 : Hid (w3.ownsRow w.heap.size 9 1 (.slice a3 (acc.length + 1) c3) (acc.length + 1) (strs (acc ++ [(s.data.toList.drop f).take (k - f)]))) := by
              rw [Hid, strs_snoc, ← HX.out]; exact hown'
            clear hown' hgrow hv2
            go_wp2_with fail
            go_roundw
            case rel => exact ⟨k + 1, k + 1, _, a3, c3, by omega, by omega, (fun h => by omega), by go_num, by go_num, by rw [List.length_append]; rfl, by rw [List.length_append]; exact HO1.out, HN.out, by rw [List.length_append]; simp; omega, hb1⟩
            case measure => simp [intOf]; omega
          · rw [if_neg hfk] at HN
            go_wp2_with fail
            refine HSp.out.mono ?_
            rintro e w1 ⟨rfl, rfl⟩
            go_wp2_with fail
            go_roundw
            case rel => exact ⟨k + 1, k + 1, acc, a, c, by omega, by omega, (fun h => by omega), by go_num, by go_num, rfl, HW.out, HN.out, by omega, HB.out⟩
            case measure => simp [intOf]; omega
      · have HN := Lib.hid (HCut.out (fun d hd => by rw [List.getElem?_eq_none (by have := HL.out; omega)] at hd; cases hd))
        clear hw HCut
        by_cases hfk : f < k
        · rw [if_pos hfk] at HN
          go_wp2_with (at_builtin; refine wpList_append_own _ rfl _ _ 28 rfl w.heap.size 9 i0 (.string ⟨#[]⟩) 1 16 Try.underlying28 hinf hz0 hz1 hz2 rfl (by decide) _ _ _ rfl (HW.out.alloc _) ⟨wr.heap.size, 0, none⟩ 1 1 [.string (s.extract f k)] rfl rfl (cell_one_new _ _ _) (by intro u hu; simp at hu; subst hu; rfl) (by unfold maxLen; omega) (by omega) (by simp; omega) ?_)
          intro v' w3 hown' hgrow _
          obtain ⟨a3, c3, hv2⟩ := own_sl hown'
          rw [hv2] at hown' ⊢
          have hb1 : Below w.heap.size w w3 := (HB.out.alloc hsz _).grown hgrow (by simp; omega) (fun q hq => (HW.out.lt q hq).1)
          have HO1 : Hid (w3.ownsRow w.heap.size 9 1 (.slice a3 (acc.length + 1) c3) (acc.length + 1) (strs (acc ++ [(s.data.toList.drop f).take (k - f)]))) := by
            rw [Hid, strs_snoc, ← HX.out]; exact hown'
          clear hown' hgrow hv2
          go_wp2_with fail
          go_roundw
          case rel => exact ⟨k + 1, k + 1, _, a3, c3, by omega, by omega, (fun h => by omega), by go_num, by go_num, by rw [List.length_append]; rfl, by rw [List.length_append]; exact HO1.out, HN.out, by rw [List.length_append]; simp; omega, hb1⟩
          case measure => simp [intOf]; omega
        · rw [if_neg hfk] at HN
          go_wp2_with fail
          go_roundw
          case rel => exact ⟨k + 1, k + 1, acc, a, c, by omega, by omega, (fun h => by omega), by go_num, by go_num, rfl, HW.out, HN.out, by omega, HB.out⟩
          case measure => simp [intOf]; omega
    · have e : k = s.size + 1 := by omega
      have e2 : acc = words s.data.toList := by
        have h1 := hw.out
        have h2 := HFin.out e
        rw [h2, Nat.sub_self, List.take_zero, List.drop_of_length_le (by have := HL.out; omega), wds, if_pos rfl, List.append_nil] at h1
        exact h1.symm
      clear e hw HFin
      go_wp2_with fail
      go_ret
      subst e2
      exact ⟨a, c, rfl, HW.out, HB.out⟩
end Go.Proofs.Ytflafpkbmmnpaaa

namespace Go.Proofs.Ytflafpkbmmnpaaa
open Go.RowKit
set_option linter.unusedVariables false

theorem smB_low (c : UInt8) : smB c = Lib.lowerB c := by
  unfold smB Lib.lowerB Lib.isUpperB
  by_cases h : 65 ≤ c ∧ c ≤ 90
  · rw [if_pos h]; simp [h.1, h.2]
  · rw [if_neg h]
    by_cases h1 : 65 ≤ c
    · have h2 : ¬ c ≤ 90 := fun q => h ⟨h1, q⟩
      simp [h2]
    · simp [h1]

def lowS (s : ByteArray) : ByteArray := ⟨(s.data.toList.map Lib.lowerB).toArray⟩

/-- What stands at place j when the first k bytes are turned. -/
def mixB (s : ByteArray) (k j : Nat) : UInt8 := if j < k then Lib.lowerB (s.data.toList.getD j 0) else s.data.toList.getD j 0

def MixAt (s : ByteArray) (B k : Nat) (w : World) : Prop :=
  (∀ j, j < s.size → w.cell? ⟨B, j, none⟩ = some (.int .u8 ((mixB s k j).toNat : Int))) ∧ (∀ j, j < s.size → w.frozen? ⟨B, j, none⟩ = false)

theorem mixAt_new (s : ByteArray) (w : World) (c : Nat) : MixAt s w.heap.size 0 ((w.alloc (.cells (bytesRow s c) 5 ((bytesRow s c).size, (bytesRow s c).size + 1))).drew) := by
  have hrow : ∀ j, j < s.size → j < (bytesRow s c).size := by intro j hj; simp [bytesRow]; have : s.data.size = s.size := rfl; omega
  refine ⟨fun j hj => ?_, fun j hj => ?_⟩
  · show (w.alloc _).cell? _ = _
    rw [World.cell?_alloc_mark]
    have h : j < s.data.size := hj
    simp [bytesRow, Array.getElem?_append, hj, mixB]
  · show (w.alloc _).frozen? _ = _
    rw [World.frozen?_alloc_mark]
    have := hrow j hj
    simp; omega

theorem mixB_step (s : ByteArray) (k j : Nat) : mixB s (k + 1) j = if j = k then Lib.lowerB (s.data.toList.getD j 0) else mixB s k j := by
  unfold mixB
  by_cases h : j = k
  · subst h; simp
  · rw [if_neg h]
    by_cases h2 : j < k
    · rw [if_pos h2, if_pos (by omega)]
    · rw [if_neg h2, if_neg (by omega)]

theorem mixAt_skip {s : ByteArray} {B k : Nat} {w : World} (h : MixAt s B k w) (hk : Lib.isUpperB (mixB s k k) = false) : MixAt s B (k + 1) w := by
  refine ⟨fun j hj => ?_, h.2⟩
  rw [h.1 j hj, mixB_step]
  by_cases e : j = k
  · subst e
    rw [if_pos rfl]
    have : mixB s j j = s.data.toList.getD j 0 := by simp [mixB]
    rw [this] at hk ⊢
    rw [Lib.lowerB_of_not _ hk]
  · rw [if_neg e]

theorem mixAt_put {s : ByteArray} {B k : Nat} {w : World} (h : MixAt s B k w) (hlt : k < s.size) (hk : Lib.isUpperB (mixB s k k) = true) :
    MixAt s B (k + 1) (w.setCell ⟨B, k, none⟩ (.int .u8 ((mixB s k k).toNat + 32 : Int))) := by
  refine ⟨fun j hj => ?_, fun j hj => by rw [World.frozen?_setCell]; exact h.2 j hj⟩
  rw [mixB_step]
  by_cases e : j = k
  · subst e
    rw [if_pos rfl, World.cell?_setCell_same _ _ _ (by rw [h.1 j hj])]
    have e2 : mixB s j j = s.data.toList.getD j 0 := by simp [mixB]
    rw [e2] at hk ⊢
    rw [Lib.lowerB_int _ hk]
  · rw [if_neg e, World.cell?_setCell_other _ _ _ _ (by simp)]
    exact h.1 j hj

theorem mixAt_back {P : Program} {src dst e : TypeId} {s : ByteArray} {B k : Nat} {w : World} (h : MixAt s B k w) (hk : s.size ≤ k) (cap : Nat)
    (hs : P.underlying src = some (.slice e)) (he : P.underlying e = some (.int .u8)) (hd : P.underlying dst = some .string) :
    (convert src dst (.slice (some ⟨B, 0, none⟩) s.size cap)).run P w = .ok (.string (lowS s)) w := by
  have hl : (s.data.toList.map Lib.lowerB).length = s.size := by simp
  have := run_convert_bytes_back (P := P) w src dst e ⟨B, 0, none⟩ cap (s.data.toList.map Lib.lowerB) hs he hd (by
    intro j hj
    rw [hl] at hj
    have h3 : s.data[j]? = some s.data[j] := Array.getElem?_eq_getElem hj
    rw [Addr.add_lit, Nat.zero_add]
    rw [h.1 j hj]
    simp [mixB, show j < k by omega]
    rw [h3]; rfl)
  rw [hl] at this
  exact this


theorem lowS_sm (s : ByteArray) : (lowS s).data.toList = s.data.toList.map smB := by
  unfold lowS
  show (List.toArray _).toList = _
  rw [List.toList_toArray]
  exact List.map_congr_left fun c _ => (smB_low c).symm

set_option maxRecDepth 100000 in
set_option maxHeartbeats 1000000 in
theorem zzLow_any (s : ByteArray) (w : World) (hs : s.size ≤ 2147483647) :
    Calls Try.prog 29 #[.string s] w fun e w' => e = .returned (.string (lowS s)) ∧ Below w.heap.size w w' := by
  have hconv := fun w => run_bytes_of_string (P := Try.prog) w 9 31 5 s Try.underlying9 Try.underlying31 Try.underlying5
  go_enter Try.func29, Try.ntmps29
  go_wp2
  go_loopw [10] (fun i wr => ∃ k : Nat, k ≤ s.size ∧ i = .int .i64 k ∧ MixAt s w.heap.size k wr ∧ w.heap.size < wr.heap.size ∧ Below w.heap.size w wr) (fun i _ => s.size - (intOf i).toNat)
  case atStart => exact ⟨0, Nat.zero_le _, rfl, mixAt_new s w _, by simp, ((Below.refl _ _).alloc (Nat.le_refl _) _).drew⟩
  case round =>
    obtain ⟨k, hk, rfl, hmix, hsz, hb⟩ := hrel
    by_cases hlt : k < s.size
    · have hc : wr.cell? ⟨w.heap.size, k, none⟩ = some (.int .u8 ((mixB s k k).toNat : Int)) := hmix.1 k hlt
      have hf : wr.frozen? ⟨w.heap.size, k, none⟩ = false := hmix.2 k hlt
      go_wp2
      all_goals go_roundw
      case rel =>
        refine ⟨k + 1, by omega, by go_num, ?_, by simpa using hsz, hb.setCell (Nat.le_refl _) _⟩
        have h := mixAt_put hmix hlt (by rw [Lib.isUpperB_int]; simp; omega)
        rw [show ((mixB s k k).toNat : Int) + 32 = ((mixB s k k).toNat : Int) + 97 - 65 by omega] at h
        exact h
      case measure => simp [intOf]; omega
      all_goals first
        | (refine ⟨k + 1, by omega, by go_num, mixAt_skip hmix (by rw [Lib.isUpperB_int]; simp; omega), hsz, hb⟩)
        | (simp [intOf]; omega)
    · have hback := mixAt_back hmix (by omega) (grownCap w s.size 0 5) Try.underlying31 Try.underlying5 Try.underlying9
      go_wp2
      go_ret
      exact ⟨rfl, hb⟩

set_option maxRecDepth 100000 in
set_option maxHeartbeats 1000000 in
theorem small_any (s : ByteArray) (w : World) (hs : s.size ≤ 2147483647) :
    Calls Try.prog 19 #[.string s] w fun e w' => e = .returned (.string (lowS s)) ∧ Below w.heap.size w w' := by
  have hconv := fun w => run_bytes_of_string (P := Try.prog) w 9 31 5 s Try.underlying9 Try.underlying31 Try.underlying5
  go_enter Try.func19, Try.ntmps19
  go_wp2
  go_loopw [4] (fun i wr => ∃ k : Nat, k ≤ s.size ∧ i = .int .i64 k ∧ MixAt s w.heap.size k wr ∧ w.heap.size < wr.heap.size ∧ Below w.heap.size w wr) (fun i _ => s.size - (intOf i).toNat)
  case atStart => exact ⟨0, Nat.zero_le _, rfl, mixAt_new s w _, by simp, ((Below.refl _ _).alloc (Nat.le_refl _) _).drew⟩
  case round =>
    obtain ⟨k, hk, rfl, hmix, hsz, hb⟩ := hrel
    by_cases hlt : k < s.size
    · have hc : wr.cell? ⟨w.heap.size, k, none⟩ = some (.int .u8 ((mixB s k k).toNat : Int)) := hmix.1 k hlt
      have hf : wr.frozen? ⟨w.heap.size, k, none⟩ = false := hmix.2 k hlt
      go_wp2
      all_goals go_roundw
      case rel =>
        refine ⟨k + 1, by omega, by go_num, mixAt_put hmix hlt (by rw [Lib.isUpperB_int]; simp; omega), by simpa using hsz, hb.setCell (Nat.le_refl _) _⟩
      case measure => simp [intOf]; omega
      all_goals first
        | (refine ⟨k + 1, by omega, by go_num, mixAt_skip hmix (by rw [Lib.isUpperB_int]; simp; omega), hsz, hb⟩)
        | (simp [intOf]; omega)
    · have hback := mixAt_back hmix (by omega) (grownCap w s.size 0 5) Try.underlying31 Try.underlying5 Try.underlying9
      go_wp2
      go_ret
      exact ⟨rfl, hb⟩
end Go.Proofs.Ytflafpkbmmnpaaa

namespace Go.Proofs.Ytflafpkbmmnpaaa
open Go.RowKit
set_option linter.unusedVariables false

theorem decodeN_tail (n b0 b1 b2 b3 : Nat) : (2 ≤ (Lib.decodeN n b0 b1 b2 b3).2 → 128 ≤ b1) ∧ (3 ≤ (Lib.decodeN n b0 b1 b2 b3).2 → 128 ≤ b2) ∧ (4 ≤ (Lib.decodeN n b0 b1 b2 b3).2 → 128 ≤ b3) ∧ (Lib.decodeN n b0 b1 b2 b3).2 ≤ 4 := by
  unfold Lib.decodeN
  repeat' split
  all_goals (simp only; omega)
theorem getB {s : ByteArray} {i : Nat} (h : i < s.size) : (s.get! i).toNat = s[i].toNat := by
  have := get_at s i h
  rw [Nat.add_zero] at this
  rw [this]
/-- What stands behind the first byte of a rune is no ASCII. -/
theorem decode_tail (s : ByteArray) (pos : Nat) (h : pos < s.size) (j : Nat) (h1 : pos < j) (h2 : j < pos + (Utf8.decode s pos).2) (hj : j < s.size) : 128 ≤ s[j].toNat := by
  rw [Lib.decode_at] at h2
  obtain ⟨q1, q2, q3, q4⟩ := decodeN_tail (s.size - pos) (s.get! pos).toNat (s.get! (pos + 1)).toNat (s.get! (pos + 2)).toNat (s.get! (pos + 3)).toNat
  have e : j = pos + 1 ∨ j = pos + 2 ∨ j = pos + 3 := by omega
  rcases e with rfl | rfl | rfl
  · rw [← getB hj]; exact q1 (by omega)
  · rw [← getB hj]; exact q2 (by omega)
  · rw [← getB hj]; exact q3 (by omega)
theorem wsB_lt {c : UInt8} (h : wsB c = true) : c.toNat < 128 := by
  have := (wsB_iff c).1 h; omega

/-- Up to a place there is no white space. -/
def NoWs (s : ByteArray) (k : Nat) : Prop := ∀ j (h : j < s.size), j < k → wsB s[j] = false
theorem noWs_step {s : ByteArray} {pos : Nat} (h : NoWs s pos) (hp : pos < s.size) (hn : wsB s[pos] = false) : NoWs s (pos + (Utf8.decode s pos).2) := by
  intro j hj h2
  by_cases e : j < pos
  · exact h j hj e
  · by_cases e2 : j = pos
    · subst e2; exact hn
    · have := decode_tail s pos hp j (by omega) h2 hj
      cases hw : wsB s[j]
      · rfl
      · have := wsB_lt hw; omega
def spaces : ByteArray := ⟨#[32, 9, 13, 10, 12]⟩

/-- The rune at a place is a white space just if the byte there is. -/
theorem rune_ws {s : ByteArray} {pos : Nat} (hp : pos < s.size) : (∃ d, d < 5 ∧ (Utf8.decode s pos).1 = (spaces.data.toList.getD d 0).toNat) ↔ wsB s[pos] = true := by
  rw [wsB_iff]
  have hs : ∀ d, d < 5 → (spaces.data.toList.getD d 0).toNat = 32 ∨ (spaces.data.toList.getD d 0).toNat = 9 ∨ (spaces.data.toList.getD d 0).toNat = 13 ∨ (spaces.data.toList.getD d 0).toNat = 10 ∨ (spaces.data.toList.getD d 0).toNat = 12 := by
    intro d hd
    have e : d = 0 ∨ d = 1 ∨ d = 2 ∨ d = 3 ∨ d = 4 := by omega
    rcases e with rfl | rfl | rfl | rfl | rfl <;> decide
  by_cases ha : s[pos].toNat < 128
  · rw [decode_ascii s pos hp ha]
    constructor
    · rintro ⟨d, hd, e⟩
      have := hs d hd
      simp only at e
      omega
    · rintro (h | h | h | h | h)
      · exact ⟨0, by omega, h⟩
      · exact ⟨1, by omega, h⟩
      · exact ⟨3, by omega, h⟩
      · exact ⟨2, by omega, h⟩
      · exact ⟨4, by omega, h⟩
  · have h1 := (decode_high s pos hp (by omega)).1
    constructor
    · rintro ⟨d, hd, e⟩
      have := hs d hd
      omega
    · intro h; omega

def WsPost (s : ByteArray) (w : World) (e : Ending) (w' : World) : Prop :=
  ∃ z : Int, e = .returned (.int .i64 z) ∧ ((z = -1 ∧ NoWs s s.size) ∨ ∃ (i : Nat) (h : i < s.size), z = i ∧ wsB s[i] = true ∧ NoWs s i) ∧ Below w.heap.size w w'
def WsRel (s : ByteArray) (w wr : World) : Prop :=
  ∃ pos, wr.heap[w.heap.size]? = some (.stringIter s pos) ∧ NoWs s pos ∧ Below w.heap.size w wr

set_option maxRecDepth 100000 in
set_option maxHeartbeats 2000000 in
theorem indexWs_any (s : ByteArray) (w : World) (hs : s.size ≤ 2147483647) : Calls Try.prog 26 #[.string s, .string spaces] w (WsPost s w) := by
  obtain ⟨S, hS⟩ : ∃ S, S = spaces := ⟨_, rfl⟩
  rw [← hS]
  have HS := Lib.hid hS
  clear hS
  go_enter Try.func26, Try.ntmps26
  go_wp2_with fail
  go_loopw [] (fun wr => WsRel s w wr) (fun wr => s.size - wr.iterPos w.heap.size)
  case atStart => exact ⟨0, World.iter_heap w s 0, (fun j _ h => by omega), (Below.refl _ _).alloc (Nat.le_refl _) _⟩
  case round =>
    obtain ⟨pos, hit, hno, hb⟩ := hrel
    have hpos0 := iterPos_of hit
    have HP0 := Lib.hid hpos0
    have HB := Lib.hid hb
    have hsz := hb.size
    clear hpos0 hb
    by_cases hp : pos < s.size
    · have hnx := fun ty => Lib.run_next_any_at (P := Try.prog) wr w.heap.size s pos ty hit hp
      have hd := Lib.decode_width_pos s pos hp
      have HR := Lib.hid (rune_ws hp)
      have HN := Lib.hid (fun h => noWs_step hno hp h)
      have HNo := Lib.hid hno
      have hit2 := Lib.iterAt_heap wr w.heap.size s pos (pos + (Utf8.decode s pos).2) hit
      have hb2 := Lib.below_iterAt HB.out (k := w.heap.size) (Nat.le_refl _) s (pos + (Utf8.decode s pos).2)
      obtain ⟨q, hq⟩ : ∃ q, q = (Utf8.decode s pos).2 := ⟨_, rfl⟩
      obtain ⟨r, hr⟩ : ∃ r, r = (Utf8.decode s pos).1 := ⟨_, rfl⟩
      rw [← hq] at hnx hd HN hit2 hb2
      rw [← hr] at hnx HR
      obtain ⟨W1, hW1⟩ : ∃ W1, W1 = wr.iterAt w.heap.size s (pos + q) := ⟨_, rfl⟩
      rw [← hW1] at hnx hit2 hb2
      have HIt2 := Lib.hid hit2
      have HB2 := Lib.hid hb2
      have hsz2 := hb2.size
      have HPos : Hid (∃ h : pos < s.size, True) := ⟨hp, trivial⟩
      clear hq hr hW1 hit hno hit2 hb2
      go_wp2_with fail
      go_loopw [] (fun w2 => ∃ p, p ≤ 5 ∧ w2 = W1.iter S p ∧ Hid (∀ d, d < p → r ≠ (spaces.data.toList.getD d 0).toNat)) (fun w2 => 5 - w2.iterPos W1.heap.size)
      case atStart => exact ⟨0, by omega, rfl, (fun d h => by omega)⟩
      case round =>
        clear hnx
        obtain ⟨p, hp5, rfl, hne⟩ := hrel
        have hS5 : S.size = 5 := by rw [HS.out]; rfl
        by_cases hlt : p < 5
        · have hpS : p < S.size := by omega
          have hv : (S[p]'hpS).toNat = (spaces.data.toList.getD p 0).toNat := by
            have hS := HS.out
            subst hS
            have e : p = 0 ∨ p = 1 ∨ p = 2 ∨ p = 3 ∨ p = 4 := by omega
            rcases e with rfl | rfl | rfl | rfl | rfl <;> rfl
          have ha : (S[p]'hpS).toNat < 128 := by
            rw [hv]
            have e : p = 0 ∨ p = 1 ∨ p = 2 ∨ p = 3 ∨ p = 4 := by omega
            rcases e with rfl | rfl | rfl | rfl | rfl <;> decide
          have hnx2 := fun ty => run_next_ascii (P := Try.prog) W1 S p ty hpS ha
          rw [hv] at hnx2
          obtain ⟨y, hy⟩ : ∃ y, y = (spaces.data.toList.getD p 0).toNat := ⟨_, rfl⟩
          rw [← hy] at hnx2
          by_cases he : r = y
          · have HF : Hid (wsB s[pos] = true) := HR.out.1 ⟨p, hlt, by rw [← hy]; exact he⟩
            have d1 : ((r : Int) == (y : Int)) = true := by simp [he]
            have HB3 : Hid (Below w.heap.size w (W1.iter S (p + 1))) := HB2.out.alloc (by omega) _
            clear hv ha hy he hne HR
            go_wp2_with fail
            go_ret
            exact ⟨pos, rfl, .inr ⟨pos, hp, rfl, HF.out, HNo.out⟩, HB3.out⟩
          · have d1 : ((r : Int) == (y : Int)) = false := beq_eq_false_iff_ne.2 (by omega)
            have HNe : Hid (∀ d, d < p + 1 → r ≠ (spaces.data.toList.getD d 0).toNat) := by
              intro d hd
              by_cases e : d = p
              · subst e; rw [← hy]; exact he
              · exact hne.out d (by omega)
            clear hv ha hy he hne HR hS5
            go_wp2_with fail
            go_roundw
            case rel => exact ⟨p + 1, by omega, rfl, HNe.out⟩
            case measure => simp; omega
        · have e : p = 5 := by omega
          subst e
          have hnx2 := fun ty => run_next_end (P := Try.prog) W1 S 5 ty (by omega)
          have HF : Hid (wsB s[pos] = false) := by
            cases hw : wsB s[pos]
            · rfl
            · obtain ⟨d, hd, he⟩ := HR.out.2 hw
              exact absurd he (hne.out d hd)
          have HNx := Lib.hid (HN.out HF.out)
          have HB3 : Hid (Below w.heap.size w (W1.iter S 5)) := HB2.out.alloc (by omega) _
          have HIt3 : Hid ((W1.iter S 5).heap[w.heap.size]? = some (.stringIter s (pos + q))) := by
            rw [Hid]
            show (W1.alloc _).heap[w.heap.size]? = _
            rw [Below.heap_alloc W1 _ _ (lt_of_block HIt2.out)]
            exact HIt2.out
          clear hS5 hne HR
          go_wp2_with fail
          go_roundw
          case rel => exact ⟨pos + q, HIt3.out, HNx.out, HB3.out⟩
          case measure => rw [iterPos_of HIt3.out, HP0.out]; omega
    · have hnx := fun ty => Lib.run_next_end_at (P := Try.prog) wr w.heap.size s pos ty hit hp
      have HF : Hid (NoWs s s.size) := fun j hj h => hno j hj (by omega)
      clear hno hit
      go_wp2_with fail
      go_ret
      exact ⟨-1, rfl, .inl ⟨rfl, HF.out⟩, HB.out⟩
end Go.Proofs.Ytflafpkbmmnpaaa

namespace Go.Proofs.Ytflafpkbmmnpaaa
set_option linter.unusedVariables false

/-- The same, without regard to case if that is asked for. -/
def eqB (f : Bool) (a b : List UInt8) : Bool := if f = true then a.map smB == b.map smB else a == b
/-- A text with small letters, if that is asked for. -/
def lowB (f : Bool) (a : List UInt8) : List UInt8 := if f = true then a.map smB else a
theorem eqB_low (f : Bool) (a b : List UInt8) : eqB f a b = (lowB f a == lowB f b) := by
  unfold eqB lowB; cases f <;> rfl
theorem lowB_len (f : Bool) (a : List UInt8) : (lowB f a).length = a.length := by
  unfold lowB; split <;> simp
theorem lowB_take (f : Bool) (a : List UInt8) (n : Nat) : (lowB f a).take n = lowB f (a.take n) := by
  unfold lowB; split <;> simp [List.map_take]
theorem words_low (f : Bool) (l : List UInt8) : words (lowB f l) = (words l).map (lowB f) := by
  unfold lowB
  cases f
  · simp
  · simp only [if_true]; rw [words_sm]

/-- One of the words is the same. -/
def incB (f : Bool) (s v : List UInt8) : Bool := (words s).any fun x => eqB f x v
theorem incB_low (f : Bool) (s v : List UInt8) : incB f s v = decide (lowB f v ∈ words (lowB f s)) := by
  unfold incB
  rw [words_low, Bool.eq_iff_iff, List.any_eq_true, decide_eq_true_eq, List.mem_map]
  constructor
  · rintro ⟨x, hx, e⟩
    rw [eqB_low, beq_iff_eq] at e
    exact ⟨x, hx, e⟩
  · rintro ⟨x, hx, e⟩
    exact ⟨x, hx, by rw [eqB_low, beq_iff_eq]; exact e⟩
/-- Where the first white space stands, the words part. -/
theorem incB_step {f : Bool} {a b v : List UInt8} {c : UInt8} (hc : wsB c = true) (ha : ∀ x ∈ a, wsB x = false) (hv : v ≠ []) : incB f (a ++ c :: b) v = (eqB f a v || incB f b v) := by
  unfold incB
  rw [words_cat hc, List.any_append]
  congr 1
  cases a with
  | nil =>
    have : eqB f [] v = false := by
      unfold eqB
      cases v with
      | nil => exact absurd rfl hv
      | cons y v => cases f <;> rfl
    rw [this]; rfl
  | cons x a => rw [words_one ha (by simp)]; simp
theorem incB_end {f : Bool} {a v : List UInt8} (ha : ∀ x ∈ a, wsB x = false) (hne : a ≠ []) : incB f a v = eqB f a v := by
  unfold incB
  rw [words_one ha hne]; simp
theorem incB_nil (f : Bool) (v : List UInt8) : incB f [] v = false := rfl
end Go.Proofs.Ytflafpkbmmnpaaa

namespace Go.Proofs.Ytflafpkbmmnpaaa
open Go.RowKit
set_option linter.unusedVariables false

theorem bn {a b c : World} (h : Below a.heap.size a b) (k : Below b.heap.size b c) : Below a.heap.size a c := h.trans (k.mono h.size)
def BoolPost (b : Bool) (w : World) (e : Ending) (w' : World) : Prop := e = .returned (.bool b) ∧ Below w.heap.size w w'
theorem toL (s : ByteArray) : s.toList = s.data.toList := ByteArray.toList_eq s
theorem size_low (s : ByteArray) : (lowS s).size = s.size := by
  show (List.map _ _).toArray.size = _
  simp

set_option maxRecDepth 100000 in
set_option maxHeartbeats 1000000 in
theorem fold_any (a b : ByteArray) (ha : a.size ≤ 2147483647) (hb : b.size ≤ 2147483647) (w : World) : Calls Try.prog 28 #[.string a, .string b] w (BoolPost (eqB true a.data.toList b.data.toList) w) := by
  have HE : Hid (eqB true a.data.toList b.data.toList = ((lowS a).toList == (lowS b).toList)) := by
    rw [Hid, toL, toL, lowS_sm, lowS_sm]; rfl
  go_enter Try.func28, Try.ntmps28
  go_wp2_with fail
  refine (zzLow_any a w ha).mono ?_
  rintro e w1 ⟨rfl, hb1⟩
  have HB1 := Lib.hid hb1
  clear hb1
  go_wp2_with fail
  refine (zzLow_any b w1 hb).mono ?_
  rintro e w2 ⟨rfl, hb2⟩
  have HB2 := Lib.hid hb2
  clear hb2
  go_wp2_with fail
  go_ret
  exact ⟨by rw [HE.out]; rfl, bn HB1.out HB2.out⟩

set_option maxRecDepth 100000 in
set_option maxHeartbeats 1000000 in
theorem insens_any (f : Bool) (a b : ByteArray) (ha : a.size ≤ 2147483647) (hb : b.size ≤ 2147483647) (w : World) : Calls Try.prog 27 #[.string a, .string b, .bool f] w (BoolPost (eqB f a.data.toList b.data.toList) w) := by
  cases f
  · have HE : Hid (eqB false a.data.toList b.data.toList = (a.toList == b.toList)) := by
      rw [Hid, toL, toL]; rfl
    go_enter Try.func27, Try.ntmps27
    go_wp2_with fail
    go_ret
    exact ⟨by rw [HE.out]; rfl, Below.refl _ _⟩
  · go_enter Try.func27, Try.ntmps27
    go_wp2_with fail
    refine (fold_any a b ha hb w).mono ?_
    rintro e w1 ⟨rfl, hb1⟩
    have HB1 := Lib.hid hb1
    clear hb1
    go_wp2_with fail
    go_ret
    exact ⟨rfl, HB1.out⟩

def IncPost (f : Bool) (s v : ByteArray) (w : World) (e : Ending) (w' : World) : Prop := ∃ b, e = .returned (.bool b) ∧ (v.data.toList ≠ [] → b = incB f s.data.toList v.data.toList) ∧ Below w.heap.size w w'
def strSz (v : Value) : Nat := match v with | .string s => s.size | _ => 0

theorem noWs_mem {X : ByteArray} {k : Nat} (h : NoWs X k) : ∀ c ∈ X.data.toList.take k, wsB c = false := by
  intro c hc
  obtain ⟨j, hj, rfl⟩ := List.getElem_of_mem hc
  rw [List.length_take] at hj
  have hs : X.data.toList.length = X.size := rfl
  have h2 := h j (by omega) (by omega)
  rw [List.getElem_take]
  exact h2
theorem split_at {X : ByteArray} {i : Nat} (h : i < X.size) : X.data.toList = X.data.toList.take i ++ X[i] :: X.data.toList.drop (i + 1) := by
  have hs : X.data.toList.length = X.size := rfl
  conv => lhs; rw [← List.take_append_drop i X.data.toList]
  rw [List.drop_eq_getElem_cons (by omega)]
  rfl

set_option maxRecDepth 100000 in
set_option maxHeartbeats 2000000 in
theorem include_any (f : Bool) (v s : ByteArray) (hv : v.size ≤ 2147483647) (hs : s.size ≤ 2147483647) (w : World) :
    Calls Try.prog 25 #[.string v, .string s, .bool f] w (IncPost f s v w) := by
  go_enter Try.func25, Try.ntmps25
  go_wp2_with fail
  go_loopw [1] (fun x wr => ∃ X : ByteArray, X.size ≤ s.size ∧ x = .string X ∧ Hid (v.data.toList ≠ [] → incB f s.data.toList v.data.toList = incB f X.data.toList v.data.toList) ∧ Below w.heap.size w wr) (fun x _ => strSz x)
  case atStart => exact ⟨s, Nat.le_refl _, rfl, (fun _ => rfl), Below.refl _ _⟩
  case round =>
    obtain ⟨X, hX, rfl, hinc, hb⟩ := hrel
    have HB := Lib.hid hb
    clear hb
    cases hem : X.toList.isEmpty
    · have HNe : Hid (X.data.toList ≠ []) := by
        rw [toL] at hem
        intro h; rw [h] at hem; cases hem
      have hem2 : X.toList ≠ [] := by rw [toL]; exact HNe.out
      have hem3 : (!X.toList.isEmpty) = true := by rw [hem]; rfl
      have HW := Lib.hid (indexWs_any X wr (by omega))
      have HS : Hid (spaces = ⟨#[32, 9, 13, 10, 12]⟩) := rfl
      rw [HS.out] at HW
      go_wp2_with fail
      refine HW.out.mono ?_
      rintro e w1 ⟨z, rfl, hz, hb1⟩
      have HB1 := Lib.hid (bn HB.out hb1)
      clear hb1 HW HS
      rcases hz with ⟨rfl, hno⟩ | ⟨i, hi, rfl, hws, hno⟩
      · have HF : Hid (v.data.toList ≠ [] → eqB f X.data.toList v.data.toList = incB f s.data.toList v.data.toList) := by
          intro h
          have h1 := noWs_mem hno
          rw [show X.data.toList.take X.size = X.data.toList from List.take_of_length_le (Nat.le_refl _)] at h1
          rw [hinc.out h, incB_end h1 HNe.out]
        have HI := Lib.hid (insens_any f X v (by omega) hv w1)
        clear hno hinc
        go_wp2_with fail
        refine HI.out.mono ?_
        rintro e w2 ⟨rfl, hb2⟩
        have HB2 := Lib.hid (bn HB1.out hb2)
        clear hb2
        go_wp2_with fail
        go_ret
        exact ⟨_, rfl, HF.out, HB2.out⟩
      · have e1 : (X.extract 0 i).data.toList = X.data.toList.take i := by rw [Lib.extract_data, List.drop_zero, Nat.sub_zero]
        have e2 : (X.extract (i + 1) X.size).data.toList = X.data.toList.drop (i + 1) := Lib.extract_to_end X (i + 1)
        have HSt : Hid (v.data.toList ≠ [] → incB f s.data.toList v.data.toList = (eqB f (X.extract 0 i).data.toList v.data.toList || incB f (X.extract (i + 1) X.size).data.toList v.data.toList)) := by
          intro h
          rw [hinc.out h, e1, e2]
          conv => lhs; rw [split_at hi]
          exact incB_step hws (noWs_mem hno) h
        have hsz1 : (X.extract 0 i).size ≤ 2147483647 := by rw [ByteArray.size_extract]; omega
        have hsz2 : (X.extract (i + 1) X.size).size = X.size - (i + 1) := by rw [ByteArray.size_extract]; omega
        have HSz := Lib.hid hsz2
        have HI := Lib.hid (insens_any f (X.extract 0 i) v hsz1 hv w1)
        obtain ⟨b, hbb⟩ : ∃ b, b = eqB f (X.extract 0 i).data.toList v.data.toList := ⟨_, rfl⟩
        rw [← hbb] at HSt HI
        clear hno hws hinc e1 e2 hsz1 hsz2 hbb
        go_wp2_with fail
        refine HI.out.mono ?_
        rintro e w2 ⟨rfl, hb2⟩
        have HB2 := Lib.hid (bn HB1.out hb2)
        clear hb2
        cases b
        · go_wp2_with fail
          go_roundw
          case rel => exact ⟨X.extract (i + 1) X.size, by rw [HSz.out]; omega, rfl, (fun h => by rw [HSt.out h]; simp), HB2.out⟩
          case measure => show (X.extract (i + 1) X.size).size < X.size; rw [HSz.out]; omega
        · go_wp2_with fail
          go_ret
          exact ⟨true, rfl, (fun h => by rw [HSt.out h]; rfl), HB2.out⟩
    · have HF : Hid (v.data.toList ≠ [] → false = incB f s.data.toList v.data.toList) := by
        intro h
        rw [toL] at hem
        rw [hinc.out h, List.isEmpty_iff.1 hem]; rfl
      have hem3 : (!X.toList.isEmpty) = false := by rw [hem]; rfl
      clear hinc
      go_wp2_with fail
      go_ret
      exact ⟨false, rfl, HF.out, HB.out⟩
end Go.Proofs.Ytflafpkbmmnpaaa

namespace Go.Proofs.Ytflafpkbmmnpaaa
open Go.RowKit
set_option linter.unusedVariables false

def ascB (l : List UInt8) : Bool := l.all fun c => decide (c.toNat < 128)
def standsB (s : List UInt8) (a : Nat) (p : List UInt8) : Bool := decide (a + p.length ≤ s.length) && ((s.drop a).take p.length == p)
def truI (b : Bool) : Int := if b = true then 1 else 0

set_option maxRecDepth 100000 in
theorem tru_any (b : Bool) (w : World) : Calls Try.prog 20 #[.bool b] w fun e w' => e = .returned (.int .i64 (truI b)) ∧ w = w' := by
  cases b
  all_goals
    go_enter Try.func20, Try.ntmps20
    go_wp2_with fail
    go_ret
    exact ⟨rfl, rfl⟩

set_option maxRecDepth 100000 in
set_option maxHeartbeats 1000000 in
theorem ascii_any (s : ByteArray) (w : World) (hs : s.size ≤ 2147483647) : Calls Try.prog 18 #[.string s] w fun e w' => e = .returned (.bool (ascB s.data.toList)) ∧ w = w' := by
  have hsl : s.data.toList.length = s.size := rfl
  have HL := Lib.hid hsl
  clear hsl
  go_enter Try.func18, Try.ntmps18
  go_wp2_with fail
  go_loopw [3] (fun x wr => ∃ k : Nat, k ≤ s.size ∧ x = .int .i64 k ∧ Hid (ascB (s.data.toList.take k) = true) ∧ w = wr) (fun x _ => s.size - (intOf x).toNat)
  case atStart => exact ⟨0, Nat.zero_le _, rfl, rfl, rfl⟩
  case round =>
    obtain ⟨k, hk, rfl, hno, rfl⟩ := hrel
    by_cases hlt : k < s.size
    · have hgk : s.data.toList[k]'(by have := HL.out; omega) = s[k] := rfl
      by_cases h : s[k].toNat < 128
      · have HN : Hid (ascB (s.data.toList.take (k + 1)) = true) := by
          have h1 := hno.out
          unfold ascB at h1 ⊢
          rw [Hid, List.take_succ_eq_append_getElem (by have := HL.out; omega), List.all_append, h1, hgk]
          simp [h]
        have d1 : decide ((128 : Int) ≤ (s[k].toNat : Int)) = false := by simp; omega
        clear hgk hno
        go_wp2_with fail
        go_roundw
        case rel => exact ⟨k + 1, by omega, by go_num, HN.out, by trivial⟩
        case measure => simp [intOf]; omega
      · have HF : Hid (ascB s.data.toList = false) := by
          unfold ascB
          rw [Hid, List.all_eq_false]
          refine ⟨s[k], ?_, by simpa using h⟩
          rw [← hgk]; exact List.getElem_mem _
        have d1 : decide ((128 : Int) ≤ (s[k].toNat : Int)) = true := by simp; omega
        clear hgk hno
        go_wp2_with fail
        go_ret
        exact ⟨by rw [HF.out]; rfl, rfl⟩
    · have HF : Hid (ascB s.data.toList = true) := by
        have h1 := hno.out
        rw [List.take_of_length_le (by have := HL.out; omega)] at h1
        exact h1
      clear hno
      go_wp2_with fail
      go_ret
      exact ⟨by rw [HF.out]; rfl, rfl⟩

set_option maxRecDepth 100000 in
set_option maxHeartbeats 1000000 in
theorem stands_any (s p : ByteArray) (a : Nat) (hs : s.size ≤ 2147483647) (hp : p.size ≤ 2147483647) (ha : a ≤ 2147483647) (w : World) :
    Calls Try.prog 21 #[.string s, .int .i64 a, .string p] w fun e w' => e = .returned (.bool (standsB s.data.toList a p.data.toList)) ∧ w = w' := by
  have hsl : s.data.toList.length = s.size := rfl
  have hpl : p.data.toList.length = p.size := rfl
  by_cases h : a + p.size ≤ s.size
  · have HX : Hid (standsB s.data.toList a p.data.toList = ((s.extract a (a + p.size)).toList == p.toList)) := by
      rw [Hid, toL, toL, Lib.extract_data, Nat.add_sub_cancel_left]
      unfold standsB
      rw [hpl, hsl, decide_eq_true h, Bool.true_and]
    have d1 : decide ((0 : Int) ≤ (a : Int)) = true := by simp
    have d2 : decide ((a : Int) + (p.size : Nat) ≤ (s.size : Nat)) = true := by simp; omega
    clear hsl hpl
    go_enter Try.func21, Try.ntmps21
    go_wp2_with fail
    go_ret
    exact ⟨by rw [HX.out]; rfl, rfl⟩
  · have HX : Hid (standsB s.data.toList a p.data.toList = false) := by
      rw [Hid]
      unfold standsB
      rw [hpl, hsl, decide_eq_false h, Bool.false_and]
    have d1 : decide ((0 : Int) ≤ (a : Int)) = true := by simp
    have d2 : decide ((a : Int) + (p.size : Nat) ≤ (s.size : Nat)) = false := by simp; omega
    clear hsl hpl
    go_enter Try.func21, Try.ntmps21
    go_wp2_with fail
    go_ret
    exact ⟨by rw [HX.out]; rfl, rfl⟩

set_option maxRecDepth 100000 in
theorem stands_low (s p : ByteArray) (z : Int) (hz : z < 0) (w : World) :
    Calls Try.prog 21 #[.string s, .int .i64 z, .string p] w fun e w' => e = .returned (.bool false) ∧ w = w' := by
  have d1 : decide ((0 : Int) ≤ z) = false := by simp; omega
  go_enter Try.func21, Try.ntmps21
  go_wp2_with fail
  go_ret
  exact ⟨rfl, rfl⟩

/-- No instance before a place, and no room for one from there on. -/
theorem contains_no {s p : List UInt8} {k : Nat} (h : ∀ j, j < k → j + p.length ≤ s.length → standsB s j p = false) (hk : s.length < k + p.length) : Lib.contains s p = false := by
  rw [Bool.eq_false_iff]
  intro q
  obtain ⟨A, B, e⟩ := (contains_iff s p).1 q
  have hl : A.length + p.length ≤ s.length := by rw [e]; simp
  have := h A.length (by omega) hl
  unfold standsB at this
  rw [decide_eq_true hl, Bool.true_and, beq_eq_false_iff_ne] at this
  apply this
  rw [e, List.append_assoc, List.drop_left, List.take_left]
theorem contains_yes {s p : List UInt8} {k : Nat} (h : standsB s k p = true) : Lib.contains s p = true := by
  unfold standsB at h
  rw [Bool.and_eq_true, beq_iff_eq] at h
  replace h := h.2
  refine (contains_iff s p).2 ⟨s.take k, (s.drop k).drop p.length, ?_⟩
  rw [List.append_assoc]
  conv => rhs; rhs; lhs; rw [← h]
  rw [List.take_append_drop, List.take_append_drop]

set_option maxRecDepth 100000 in
set_option maxHeartbeats 1000000 in
theorem inside_any (s p : ByteArray) (hs : s.size ≤ 2147483647) (hp : p.size ≤ 2147483647) (w : World) :
    Calls Try.prog 24 #[.string s, .string p] w fun e w' => e = .returned (.bool (Lib.contains s.data.toList p.data.toList)) ∧ w = w' := by
  have HL : Hid (s.data.toList.length = s.size ∧ p.data.toList.length = p.size) := ⟨rfl, rfl⟩
  go_enter Try.func24, Try.ntmps24
  go_wp2_with fail
  go_loopw [5] (fun x wr => ∃ k : Nat, k ≤ s.size + 1 ∧ x = .int .i64 k ∧ Hid (∀ j, j < k → j + p.data.toList.length ≤ s.data.toList.length → standsB s.data.toList j p.data.toList = false) ∧ w = wr) (fun x _ => s.size + 1 - (intOf x).toNat)
  case atStart => exact ⟨0, Nat.zero_le _, rfl, (fun j h => by omega), rfl⟩
  case round =>
    obtain ⟨k, hk, rfl, hno, rfl⟩ := hrel
    by_cases hle : k + p.size ≤ s.size
    · have HS := Lib.hid (stands_any s p k hs hp (by omega) w)
      cases hb : standsB s.data.toList k p.data.toList
      · have HN : Hid (∀ j, j < k + 1 → j + p.data.toList.length ≤ s.data.toList.length → standsB s.data.toList j p.data.toList = false) := by
          intro j hj h2
          by_cases e : j = k
          · subst e; exact hb
          · exact hno.out j (by omega) h2
        rw [hb] at HS
        clear hno hb
        go_wp2_with fail
        refine HS.out.mono ?_
        rintro e w1 ⟨rfl, rfl⟩
        go_wp2_with fail
        go_roundw
        case rel => exact ⟨k + 1, by omega, by go_num, HN.out, by trivial⟩
        case measure => simp [intOf]; omega
      · have HF := Lib.hid (contains_yes hb)
        rw [hb] at HS
        clear hno hb
        go_wp2_with fail
        refine HS.out.mono ?_
        rintro e w1 ⟨rfl, rfl⟩
        go_wp2_with fail
        go_ret
        exact ⟨by rw [HF.out]; rfl, rfl⟩
    · have HF := Lib.hid (contains_no hno.out (by have := HL.out; omega))
      clear hno
      go_wp2_with fail
      go_ret
      exact ⟨by rw [HF.out]; rfl, rfl⟩

set_option maxRecDepth 100000 in
set_option maxHeartbeats 1000000 in
theorem word_any (s v : ByteArray) (hs : s.size ≤ 2147483647) (w : World) :
    Calls Try.prog 23 #[.string s, .string v] w (BoolPost (decide (v.data.toList ∈ words s.data.toList)) w) := by
  have HC := Lib.hid (words_count s.data.toList)
  have HL : Hid (s.data.toList.length = s.size) := rfl
  obtain ⟨W, hW⟩ : ∃ W, W = words s.data.toList := ⟨_, rfl⟩
  have HW := Lib.hid (wordsOf_any s hs w)
  rw [← hW] at HW HC ⊢
  have hlen : W.length ≤ 2147483647 := by have := HC.out; have := HL.out; omega
  clear hW
  go_enter Try.func23, Try.ntmps23
  go_wp2_with fail
  refine HW.out.mono ?_
  rintro e w1 ⟨a, c, rfl, hown, hb⟩
  have HO := Lib.hid hown
  have HB := Lib.hid hb
  clear hown hb
  go_wp2_with fail
  go_loopw [6] (fun x wr => ∃ k : Nat, k ≤ W.length ∧ x = .int .i64 k ∧ Hid (v.data.toList ∉ W.take k) ∧ w1 = wr) (fun x _ => W.length - (intOf x).toNat)
  case atStart => exact ⟨0, Nat.zero_le _, rfl, (by simp [Hid]), rfl⟩
  case round =>
    obtain ⟨k, hk, rfl, hno, rfl⟩ := hrel
    by_cases hlt : k < W.length
    · have hcell : ∃ g, a = some ⟨g, 0, none⟩ ∧ w1.cell? ⟨g, k, none⟩ = some (.string ⟨W[k].toArray⟩) := by
        rcases HO.out.2 with ⟨_, h0⟩ | ⟨g, cap, cur, hv, _, hg, _, hcs⟩
        · omega
        · refine ⟨g, by cases hv; rfl, ?_⟩
          have h1 := HO.out.cells (g := g) (by cases hv; rfl) k (.string ⟨W[k].toArray⟩) (by rw [List.getElem?_eq_getElem (by rw [strs_length]; exact hlt), strs_at hlt])
          rw [Addr.add_lit, Nat.zero_add] at h1
          exact h1
      obtain ⟨g, rfl, g1⟩ := hcell
      have hmem : W[k] ∈ W := List.getElem_mem hlt
      have HE : Hid (((⟨W[k].toArray⟩ : ByteArray).toList == v.toList) = (W[k] == v.data.toList)) := by
        rw [Hid, toL, toL]
      have HTk : Hid (W.take (k + 1) = W.take k ++ [W[k]]) := List.take_succ_eq_append_getElem hlt
      cases hb : (W[k] == v.data.toList)
      · have HN : Hid (v.data.toList ∉ W.take (k + 1)) := by
          rw [Hid, HTk.out, List.mem_append, List.mem_singleton]
          rintro (h | h)
          · exact hno.out h
          · rw [h] at hb; simp at hb
        rw [hb] at HE
        have he := HE.out
        obtain ⟨x, hx⟩ : ∃ x : ByteArray, x = ⟨W[k].toArray⟩ := ⟨_, rfl⟩
        rw [← hx] at he g1
        clear hno hb HE hx hmem
        go_wp2_with fail
        go_roundw
        case rel => exact ⟨k + 1, by omega, by go_num, HN.out, by trivial⟩
        case measure => simp [intOf]; omega
      · have HF : Hid (decide (v.data.toList ∈ W) = true) := by
          rw [beq_iff_eq] at hb
          rw [Hid, ← hb, decide_eq_true_eq]; exact hmem
        rw [hb] at HE
        have he := HE.out
        obtain ⟨x, hx⟩ : ∃ x : ByteArray, x = ⟨W[k].toArray⟩ := ⟨_, rfl⟩
        rw [← hx] at he g1
        clear hno hb HE hx hmem
        go_wp2_with fail
        go_ret
        exact ⟨by rw [HF.out]; rfl, HB.out⟩
    · have HF : Hid (decide (v.data.toList ∈ W) = false) := by
        have h1 := hno.out
        rw [List.take_of_length_le (by omega)] at h1
        rw [Hid, decide_eq_false_iff_not]; exact h1
      clear hno
      go_wp2_with fail
      go_ret
      exact ⟨by rw [HF.out]; rfl, HB.out⟩
end Go.Proofs.Ytflafpkbmmnpaaa

namespace Go.Proofs.Ytflafpkbmmnpaaa
open Go.RowKit
set_option linter.unusedVariables false

/-- The call returns some truth value, and nothing has turned. -/
def AnyB (w : World) (e : Ending) (w' : World) : Prop := ∃ b, e = .returned (.bool b) ∧ w = w'


theorem wrap_byte (b : UInt8) : wrap64 (b.toNat : Int) = (b.toNat : Int) := by
  have := b.toNat_lt
  exact IntWalk.wrap64_in _ ⟨by omega, by omega⟩

/-- A code point and how many bytes it has: none, or as many as are there. -/
def AnyP (s : ByteArray) (k : Nat) (w : World) (e : Ending) (w' : World) : Prop :=
  ∃ (p : Int) (n : Nat), e = .returned (.tuple #[.int .i64 p, .int .i64 n]) ∧ k + n ≤ s.size ∧ w = w'


set_option maxRecDepth 100000 in
set_option maxHeartbeats 1000000 in
theorem point_2 (s : ByteArray) (k : Nat) (w : World) (hs : s.size ≤ 2147483647) (hk : k < s.size) (h1 : 192 ≤ (s[k].toNat : Int)) (h2 : (s[k].toNat : Int) < 224) : Calls Try.prog 13 #[.string s, .int .i64 k] w (AnyP s k w) := by
  have hw : wrap64 (s[k].toNat : Int) = (s[k].toNat : Int) := wrap_byte _
  by_cases h3 : s.size - k ≤ 1
  · go_enter Try.func13, Try.ntmps13
    go_wp2_with fail
    go_ret2
    exact ⟨0, 0, rfl, by omega, rfl⟩
  · go_enter Try.func13, Try.ntmps13
    go_wp2_with fail
    go_loopw [4, 9] (fun x y wr => ∃ (p : Int) (m : Nat), x = .int .i64 p ∧ 1 ≤ m ∧ m ≤ 2 ∧ y = .int .i64 m ∧ w = wr) (fun _ y _ => 2 - (intOf y).toNat)
    case atStart => exact ⟨_, 1, rfl, by omega, by omega, rfl, rfl⟩
    case round =>
      obtain ⟨p, m, rfl, hm1, hm2, rfl, rfl⟩ := hrel
      clear hw h1 h2
      by_cases hm : m ≤ 1
      · have hlt : k + m < s.size := by omega
        have hw : wrap64 (s[k + m].toNat : Int) = (s[k + m].toNat : Int) := wrap_byte _
        by_cases c1 : (s[k + m].toNat : Int) < 128
        · go_wp2_with fail
          go_ret2
          exact ⟨0, 0, rfl, by omega, rfl⟩
        · by_cases c2 : 192 ≤ (s[k + m].toNat : Int)
          · go_wp2_with fail
            go_ret2
            exact ⟨0, 0, rfl, by omega, rfl⟩
          · go_wp2_with fail
            go_roundw
            case rel => exact ⟨_, m + 1, rfl, by omega, by omega, by go_num, by trivial⟩
            case measure => simp [intOf]; omega
      · go_wp2_with fail
        all_goals go_ret2
        all_goals first
          | exact ⟨0, 0, rfl, by omega, rfl⟩
          | exact ⟨p, 2, rfl, by omega, rfl⟩

set_option maxRecDepth 100000 in
set_option maxHeartbeats 1000000 in
theorem point_3 (s : ByteArray) (k : Nat) (w : World) (hs : s.size ≤ 2147483647) (hk : k < s.size) (h1 : 224 ≤ (s[k].toNat : Int)) (h2 : (s[k].toNat : Int) < 240) : Calls Try.prog 13 #[.string s, .int .i64 k] w (AnyP s k w) := by
  have hw : wrap64 (s[k].toNat : Int) = (s[k].toNat : Int) := wrap_byte _
  by_cases h3 : s.size - k ≤ 2
  · go_enter Try.func13, Try.ntmps13
    go_wp2_with fail
    go_ret2
    exact ⟨0, 0, rfl, by omega, rfl⟩
  · go_enter Try.func13, Try.ntmps13
    go_wp2_with fail
    go_loopw [4, 9] (fun x y wr => ∃ (p : Int) (m : Nat), x = .int .i64 p ∧ 1 ≤ m ∧ m ≤ 3 ∧ y = .int .i64 m ∧ w = wr) (fun _ y _ => 3 - (intOf y).toNat)
    case atStart => exact ⟨_, 1, rfl, by omega, by omega, rfl, rfl⟩
    case round =>
      obtain ⟨p, m, rfl, hm1, hm2, rfl, rfl⟩ := hrel
      clear hw h1 h2
      by_cases hm : m ≤ 2
      · have hlt : k + m < s.size := by omega
        have hw : wrap64 (s[k + m].toNat : Int) = (s[k + m].toNat : Int) := wrap_byte _
        by_cases c1 : (s[k + m].toNat : Int) < 128
        · go_wp2_with fail
          go_ret2
          exact ⟨0, 0, rfl, by omega, rfl⟩
        · by_cases c2 : 192 ≤ (s[k + m].toNat : Int)
          · go_wp2_with fail
            go_ret2
            exact ⟨0, 0, rfl, by omega, rfl⟩
          · go_wp2_with fail
            go_roundw
            case rel => exact ⟨_, m + 1, rfl, by omega, by omega, by go_num, by trivial⟩
            case measure => simp [intOf]; omega
      · go_wp2_with fail
        all_goals go_ret2
        all_goals first
          | exact ⟨0, 0, rfl, by omega, rfl⟩
          | exact ⟨p, 3, rfl, by omega, rfl⟩

set_option maxRecDepth 100000 in
set_option maxHeartbeats 1000000 in
theorem point_4 (s : ByteArray) (k : Nat) (w : World) (hs : s.size ≤ 2147483647) (hk : k < s.size) (h1 : 240 ≤ (s[k].toNat : Int)) (h2 : (s[k].toNat : Int) < 248) : Calls Try.prog 13 #[.string s, .int .i64 k] w (AnyP s k w) := by
  have hw : wrap64 (s[k].toNat : Int) = (s[k].toNat : Int) := wrap_byte _
  by_cases h3 : s.size - k ≤ 3
  · go_enter Try.func13, Try.ntmps13
    go_wp2_with fail
    go_ret2
    exact ⟨0, 0, rfl, by omega, rfl⟩
  · go_enter Try.func13, Try.ntmps13
    go_wp2_with fail
    go_loopw [4, 9] (fun x y wr => ∃ (p : Int) (m : Nat), x = .int .i64 p ∧ 1 ≤ m ∧ m ≤ 4 ∧ y = .int .i64 m ∧ w = wr) (fun _ y _ => 4 - (intOf y).toNat)
    case atStart => exact ⟨_, 1, rfl, by omega, by omega, rfl, rfl⟩
    case round =>
      obtain ⟨p, m, rfl, hm1, hm2, rfl, rfl⟩ := hrel
      clear hw h1 h2
      by_cases hm : m ≤ 3
      · have hlt : k + m < s.size := by omega
        have hw : wrap64 (s[k + m].toNat : Int) = (s[k + m].toNat : Int) := wrap_byte _
        by_cases c1 : (s[k + m].toNat : Int) < 128
        · go_wp2_with fail
          go_ret2
          exact ⟨0, 0, rfl, by omega, rfl⟩
        · by_cases c2 : 192 ≤ (s[k + m].toNat : Int)
          · go_wp2_with fail
            go_ret2
            exact ⟨0, 0, rfl, by omega, rfl⟩
          · go_wp2_with fail
            go_roundw
            case rel => exact ⟨_, m + 1, rfl, by omega, by omega, by go_num, by trivial⟩
            case measure => simp [intOf]; omega
      · go_wp2_with fail
        all_goals go_ret2
        all_goals first
          | exact ⟨0, 0, rfl, by omega, rfl⟩
          | exact ⟨p, 4, rfl, by omega, rfl⟩

set_option maxRecDepth 100000 in
set_option maxHeartbeats 1000000 in
theorem point_lo (s : ByteArray) (k : Nat) (w : World) (hs : s.size ≤ 2147483647) (hk : k < s.size) (h : (s[k].toNat : Int) < 128) : Calls Try.prog 13 #[.string s, .int .i64 k] w (AnyP s k w) := by
  have hw : wrap64 (s[k].toNat : Int) = (s[k].toNat : Int) := wrap_byte _
  go_enter Try.func13, Try.ntmps13
  go_wp2_with fail
  go_ret2
  exact ⟨_, 1, rfl, by omega, rfl⟩

set_option maxRecDepth 100000 in
set_option maxHeartbeats 1000000 in
theorem point_no (s : ByteArray) (k : Nat) (w : World) (hs : s.size ≤ 2147483647) (hk : k < s.size) (h : 128 ≤ (s[k].toNat : Int)) (h2 : (s[k].toNat : Int) < 192 ∨ 248 ≤ (s[k].toNat : Int)) : Calls Try.prog 13 #[.string s, .int .i64 k] w (AnyP s k w) := by
  have hw : wrap64 (s[k].toNat : Int) = (s[k].toNat : Int) := wrap_byte _
  rcases h2 with h2 | h2
  · go_enter Try.func13, Try.ntmps13
    go_wp2_with fail
    go_ret2
    exact ⟨0, 0, rfl, by omega, rfl⟩
  · go_enter Try.func13, Try.ntmps13
    go_wp2_with fail
    go_ret2
    exact ⟨0, 0, rfl, by omega, rfl⟩

theorem point_any (s : ByteArray) (k : Nat) (w : World) (hs : s.size ≤ 2147483647) (hk : k < s.size) : Calls Try.prog 13 #[.string s, .int .i64 k] w (AnyP s k w) := by
  by_cases h1 : (s[k].toNat : Int) < 128
  · exact point_lo s k w hs hk h1
  · by_cases h2 : (s[k].toNat : Int) < 192
    · exact point_no s k w hs hk (by omega) (.inl h2)
    · by_cases h3 : (s[k].toNat : Int) < 224
      · exact point_2 s k w hs hk (by omega) h3
      · by_cases h4 : (s[k].toNat : Int) < 240
        · exact point_3 s k w hs hk (by omega) h4
        · by_cases h5 : (s[k].toNat : Int) < 248
          · exact point_4 s k w hs hk (by omega) h5
          · exact point_no s k w hs hk (by omega) (.inr (by omega))

set_option maxHeartbeats 1000000 in
theorem plain_any (s : ByteArray) (w : World) (hs : s.size ≤ 2147483647) : Calls Try.prog 7 #[.string s] w (AnyB w) := by
  go_enter Try.func7, Try.ntmps7
  go_wp2_with fail
  go_loopw [3] (fun x wr => ∃ k : Nat, k ≤ s.size ∧ x = .int .i64 k ∧ w = wr) (fun x _ => s.size - (intOf x).toNat)
  case atStart => exact ⟨0, by omega, rfl, rfl⟩
  case round =>
    obtain ⟨k, hk, rfl, rfl⟩ := hrel
    by_cases hlt : k < s.size
    · go_wp2_with fail
      refine (point_any s k _ hs hlt).mono ?_
      rintro e w1 ⟨p, n, rfl, hn, rfl⟩
      by_cases h0 : n = 0
      · have hz : ((n : Int) == 0) = true := beq_iff_eq.2 (by omega)
        have HZ := Lib.hid h0
        clear h0
        go_wp2_with fail
        go_ret
        exact ⟨_, rfl, rfl⟩
      · have hz : ((n : Int) == 0) = false := beq_eq_false_iff_ne.2 (by omega)
        cases hp : (p == 0)
        · go_wp2_with fail
          go_roundw
          case rel => exact ⟨k + n, by omega, by go_num, by trivial⟩
          case measure => simp [intOf]; omega
        · go_wp2_with fail
          go_ret
          exact ⟨_, rfl, rfl⟩
    · go_wp2_with fail
      go_ret
      exact ⟨_, rfl, rfl⟩
end Go.Proofs.Ytflafpkbmmnpaaa

namespace Go.Proofs.Ytflafpkbmmnpaaa
open Go.RowKit
set_option linter.unusedVariables false

/-- White space (what the reference and the program name so). -/
def isSp (r : Nat) : Bool := (decide (9 ≤ r) && decide (r ≤ 13)) || r == 32 || r == 133 || r == 160 || r == 5760 || (decide (8192 ≤ r) && decide (r ≤ 8202)) || r == 8232 || r == 8233 || r == 8239 || r == 8287 || r == 12288

/-- From a place on there is nothing but white space. -/
inductive Sp (s : ByteArray) : Nat → Prop
  | fin (k : Nat) : s.size ≤ k → Sp s k
  | step (k : Nat) : k < s.size → isSp (Utf8.decode s k).1 = true → Sp s (k + (Utf8.decode s k).2) → Sp s k

/-- Up to a place there is nothing but white space. -/
inductive Pre (s : ByteArray) : Nat → Prop
  | zero : Pre s 0
  | step (k : Nat) : Pre s k → k < s.size → isSp (Utf8.decode s k).1 = true → Pre s (k + (Utf8.decode s k).2)

theorem Pre.sp {s : ByteArray} {k : Nat} (h : Pre s k) : Sp s k → Sp s 0 := by
  induction h with
  | zero => exact id
  | step k _ hk hr ih => exact fun q => ih (.step k hk hr q)

theorem Sp.at_ {s : ByteArray} {k : Nat} (h : Sp s k) (hk : k < s.size) : isSp (Utf8.decode s k).1 = true ∧ Sp s (k + (Utf8.decode s k).2) := by
  cases h with
  | fin _ h => omega
  | step _ _ h1 h2 => exact ⟨h1, h2⟩
end Go.Proofs.Ytflafpkbmmnpaaa

namespace Go.Proofs.Ytflafpkbmmnpaaa
open Go.RowKit
set_option linter.unusedVariables false

theorem isSp_iff (r : Nat) : isSp r = true ↔ (9 ≤ r ∧ r ≤ 13) ∨ r = 32 ∨ r = 133 ∨ r = 160 ∨ r = 5760 ∨ (8192 ≤ r ∧ r ≤ 8202) ∨ r = 8232 ∨ r = 8233 ∨ r = 8239 ∨ r = 8287 ∨ r = 12288 := by
  simp [isSp, or_assoc]

set_option maxRecDepth 100000 in
/-- The bytes of a white space, by its width. -/
theorem sp_bytes (n b0 b1 b2 b3 : Nat) (h1 : b1 < 256) (h2 : b2 < 256) (h3 : b3 < 256) (h0 : b0 < 256) (h : isSp (Lib.decodeN n b0 b1 b2 b3).1 = true) :
    (b0 < 128 ∧ Lib.decodeN n b0 b1 b2 b3 = (b0, 1)) ∨
    (b0 = 194 ∧ 2 ≤ n ∧ 128 ≤ b1 ∧ b1 < 192 ∧ Lib.decodeN n b0 b1 b2 b3 = (b1, 2)) ∨
    (225 ≤ b0 ∧ b0 ≤ 227 ∧ 3 ≤ n ∧ 128 ≤ b1 ∧ b1 < 192 ∧ 128 ≤ b2 ∧ b2 < 192 ∧ Lib.decodeN n b0 b1 b2 b3 = ((b0 - 224) * 4096 + (b1 - 128) * 64 + (b2 - 128), 3)) := by
  rw [isSp_iff] at h
  by_cases c1 : b0 < 128
  · exact .inl ⟨c1, by unfold Lib.decodeN; rw [if_pos c1]⟩
  · right
    unfold Lib.decodeN at h ⊢
    rw [if_neg c1] at h ⊢
    by_cases c2 : b0 / 32 = 6 ∧ (1 < n ∧ b1 / 64 = 2)
    · rw [if_pos c2] at h ⊢
      by_cases c3 : b0 % 32 * 64 + b1 % 64 ≥ 128
      · rw [if_pos c3] at h ⊢
        dsimp only at h
        refine .inl ⟨by omega, by omega, by omega, by omega, Prod.ext (by dsimp only; omega) rfl⟩
      · rw [if_neg c3] at h
        dsimp only at h
        omega
    · rw [if_neg c2] at h ⊢
      by_cases c4 : b0 / 16 = 14 ∧ (1 < n ∧ b1 / 64 = 2) ∧ (2 < n ∧ b2 / 64 = 2)
      · rw [if_pos c4] at h ⊢
        split at h
        · rename_i c5
          rw [if_pos c5]
          dsimp only at h
          refine .inr ⟨by omega, by omega, by omega, by omega, by omega, by omega, by omega, Prod.ext (by dsimp only; omega) rfl⟩
        · dsimp only at h
          omega
      · rw [if_neg c4] at h
        exfalso
        split at h
        · split at h <;> (dsimp only at h; omega)
        · dsimp only at h
          omega
end Go.Proofs.Ytflafpkbmmnpaaa

namespace Go.Proofs.Ytflafpkbmmnpaaa
open Go.RowKit
set_option linter.unusedVariables false

def PtIs (p : Int) (n : Nat) (w : World) (e : Ending) (w' : World) : Prop := e = .returned (.tuple #[.int .i64 p, .int .i64 n]) ∧ w = w'

set_option maxRecDepth 100000 in
set_option maxHeartbeats 1000000 in
theorem pt_one (s : ByteArray) (k : Nat) (w : World) (hs : s.size ≤ 2147483647) (hk : k < s.size) (h1 : (s[k].toNat : Int) < 128) : Calls Try.prog 13 #[.string s, .int .i64 k] w (PtIs (s[k].toNat : Int) 1 w) := by
  have hw : wrap64 (s[k].toNat : Int) = (s[k].toNat : Int) := wrap_byte _
  go_enter Try.func13, Try.ntmps13
  go_wp2_with fail
  go_ret2
  exact ⟨rfl, rfl⟩

theorem ret_ii {a b c d : Int} (h : a = b) (h2 : c = d) : Ending.returned (.tuple #[.int .i64 a, .int .i64 c]) = .returned (.tuple #[.int .i64 b, .int .i64 d]) := by rw [h, h2]

set_option maxRecDepth 100000 in
set_option maxHeartbeats 1000000 in
theorem pt_two (s : ByteArray) (k : Nat) (w : World) (hs : s.size ≤ 2147483647) (hk : k < s.size) (hk1 : k + 1 < s.size) (h0 : s[k].toNat = 194) (h1 : 128 ≤ s[k + 1].toNat) (h2 : s[k + 1].toNat < 192) : Calls Try.prog 13 #[.string s, .int .i64 k] w (PtIs (s[k + 1].toNat : Int) 2 w) := by
  have hw1 : wrap64 (s[k + 1].toNat : Int) = (s[k + 1].toNat : Int) := wrap_byte _
  go_enter Try.func13, Try.ntmps13
  go_wp2_with fail
  refine wp_loop_rounds 2 ?_
  rw [rounds_succ]
  go_wp2_with fail
  rw [rounds_succ]
  go_wp2_with fail
  go_ret2
  exact ⟨ret_ii (by omega) rfl, rfl⟩

set_option maxRecDepth 100000 in
set_option maxHeartbeats 1000000 in
theorem pt_three (s : ByteArray) (k : Nat) (w : World) (hs : s.size ≤ 2147483647) (hk : k < s.size) (hk1 : k + 1 < s.size) (hk2 : k + 2 < s.size) (h0 : 225 ≤ s[k].toNat) (h01 : s[k].toNat ≤ 227) (h1 : 128 ≤ s[k + 1].toNat) (h2 : s[k + 1].toNat < 192) (h3 : 128 ≤ s[k + 2].toNat) (h4 : s[k + 2].toNat < 192) :
    Calls Try.prog 13 #[.string s, .int .i64 k] w (PtIs (((s[k].toNat - 224) * 4096 + (s[k + 1].toNat - 128) * 64 + (s[k + 2].toNat - 128) : Nat) : Int) 3 w) := by
  have hw0 : wrap64 (s[k].toNat : Int) = (s[k].toNat : Int) := wrap_byte _
  have hw1 : wrap64 (s[k + 1].toNat : Int) = (s[k + 1].toNat : Int) := wrap_byte _
  have hw2 : wrap64 (s[k + 2].toNat : Int) = (s[k + 2].toNat : Int) := wrap_byte _
  go_enter Try.func13, Try.ntmps13
  go_wp2_with fail
  refine wp_loop_rounds 3 ?_
  rw [rounds_succ]
  go_wp2_with fail
  rw [rounds_succ]
  go_wp2_with fail
  rw [rounds_succ]
  go_wp2_with fail
  go_ret2
  exact ⟨ret_ii (by omega) rfl, rfl⟩
end Go.Proofs.Ytflafpkbmmnpaaa

namespace Go.Proofs.Ytflafpkbmmnpaaa
open Go.RowKit
set_option linter.unusedVariables false

theorem get_byte {s : ByteArray} {i : Nat} (h : i < s.size) : (s.get! i).toNat = s[i].toNat := by
  have := get_at s i h
  rw [Nat.add_zero] at this
  rw [this]
theorem get_out {s : ByteArray} {i : Nat} (h : s.size ≤ i) : (s.get! i).toNat = 0 := by
  have : s.get! i = default := by
    show s.data.toList.toArray.getD i default = default
    simp [Array.getD]
    intro h2
    have : s.data.size = s.size := rfl
    omega
  rw [this]; rfl

def PtPost (s : ByteArray) (k : Nat) (w : World) (e : Ending) (w' : World) : Prop :=
  ∃ (p : Int) (n : Nat), e = .returned (.tuple #[.int .i64 p, .int .i64 n]) ∧ k + n ≤ s.size ∧ (Sp s k → p = (Utf8.decode s k).1 ∧ n = (Utf8.decode s k).2) ∧ w = w'

theorem pt_any (s : ByteArray) (k : Nat) (w : World) (hs : s.size ≤ 2147483647) (hk : k < s.size) : Calls Try.prog 13 #[.string s, .int .i64 k] w (PtPost s k w) := by
  by_cases h : Sp s k
  · have hsp := (h.at_ hk).1
    rw [Lib.decode_at] at hsp
    have b0 := get_byte hk
    rcases sp_bytes (s.size - k) (s.get! k).toNat (s.get! (k + 1)).toNat (s.get! (k + 2)).toNat (s.get! (k + 3)).toNat (s.get! (k + 1)).toNat_lt (s.get! (k + 2)).toNat_lt (s.get! (k + 3)).toNat_lt (s.get! k).toNat_lt hsp with ⟨q1, q2⟩ | ⟨q1, q2, q3, q4, q5⟩ | ⟨q1, q2, q3, q4, q5, q6, q7, q8⟩
    · refine (pt_one s k w hs hk (by omega)).mono ?_
      rintro e w' ⟨rfl, rfl⟩
      refine ⟨_, _, rfl, by omega, fun _ => ?_, rfl⟩
      rw [Lib.decode_at, q2]
      exact ⟨by rw [b0], rfl⟩
    · have hk1 : k + 1 < s.size := by omega
      have b1 := get_byte hk1
      refine (pt_two s k w hs hk hk1 (by omega) (by omega) (by omega)).mono ?_
      rintro e w' ⟨rfl, rfl⟩
      refine ⟨_, _, rfl, by omega, fun _ => ?_, rfl⟩
      rw [Lib.decode_at, q5]
      exact ⟨by rw [b1], rfl⟩
    · have hk1 : k + 1 < s.size := by omega
      have hk2 : k + 2 < s.size := by omega
      have b1 := get_byte hk1
      have b2 := get_byte hk2
      refine (pt_three s k w hs hk hk1 hk2 (by omega) (by omega) (by omega) (by omega) (by omega) (by omega)).mono ?_
      rintro e w' ⟨rfl, rfl⟩
      refine ⟨_, _, rfl, by omega, fun _ => ?_, rfl⟩
      rw [Lib.decode_at, q8]
      exact ⟨by rw [b0, b1, b2], rfl⟩
  · refine (point_any s k w hs hk).mono ?_
    rintro e w' ⟨p, n, rfl, h2, rfl⟩
    exact ⟨p, n, rfl, h2, fun q => absurd q h, rfl⟩

def BlankPost (s : ByteArray) (w : World) (e : Ending) (w' : World) : Prop := ∃ b, e = .returned (.bool b) ∧ (Sp s 0 → b = true) ∧ w = w'

set_option maxRecDepth 100000 in
set_option maxHeartbeats 4000000 in
theorem blankAll_any (s : ByteArray) (w : World) (hs : s.size ≤ 2147483647) : Calls Try.prog 22 #[.string s] w (BlankPost s w) := by
  go_enter Try.func22, Try.ntmps22
  go_wp2_with fail
  go_loopw [3] (fun x wr => ∃ k : Nat, k ≤ s.size ∧ x = .int .i64 k ∧ Hid (Sp s 0 → Sp s k) ∧ w = wr) (fun x _ => s.size - (intOf x).toNat)
  case atStart => exact ⟨0, Nat.zero_le _, rfl, id, rfl⟩
  case round =>
    obtain ⟨k, hk, rfl, hsp, rfl⟩ := hrel
    by_cases hlt : k < s.size
    · go_wp2_with fail
      refine (pt_any s k w hs hlt).mono ?_
      rintro e w1 ⟨p, n, rfl, hn, hpt, rfl⟩
      have HN : Hid (Sp s 0 → n ≠ 0 ∧ (9 ≤ p ∧ p ≤ 13 ∨ p = 32 ∨ p = 133 ∨ p = 160 ∨ p = 5760 ∨ (8192 ≤ p ∧ p ≤ 8202) ∨ p = 8232 ∨ p = 8233 ∨ p = 8239 ∨ p = 8287 ∨ p = 12288) ∧ Sp s (k + n)) := by
        intro h
        have h1 := hsp.out h
        obtain ⟨e1, e2⟩ := hpt h1
        have h2 := h1.at_ hlt
        have h3 := (isSp_iff _).1 h2.1
        have h4 := Lib.decode_width_pos s k hlt
        refine ⟨by omega, by omega, by rw [e2]; exact h2.2⟩
      clear hpt
      by_cases h0 : n = 0
      · subst h0
        have z0 : (((0 : Nat) : Int) == 0) = true := rfl
        go_wp2_with fail
        go_ret
        exact ⟨false, rfl, fun h => absurd rfl (HN.out h).1, rfl⟩
      · have z0 : ((n : Int) == 0) = false := beq_eq_false_iff_ne.2 (by omega)
        by_cases hc : 9 ≤ p ∧ p ≤ 13 ∨ p = 32 ∨ p = 133 ∨ p = 160 ∨ p = 5760 ∨ (8192 ≤ p ∧ p ≤ 8202) ∨ p = 8232 ∨ p = 8233 ∨ p = 8239 ∨ p = 8287 ∨ p = 12288
        · have HS : Hid (Sp s 0 → Sp s (k + n)) := fun h => (HN.out h).2.2
          clear HN
          rcases hc with ⟨h1, h2⟩ | rfl | rfl | rfl | rfl | ⟨h1, h2⟩ | rfl | rfl | rfl | rfl | rfl
          case inr.inr.inr.inr.inr.inl =>
            have y1 : decide (p ≤ 13) = false := by simp; omega
            have y3 : (p == 32) = false := beq_eq_false_iff_ne.2 (by omega)
            have y4 : (p == 133) = false := beq_eq_false_iff_ne.2 (by omega)
            have y5 : (p == 160) = false := beq_eq_false_iff_ne.2 (by omega)
            have y6 : (p == 5760) = false := beq_eq_false_iff_ne.2 (by omega)
            go_wp2_with fail
            go_roundw
            case rel => exact ⟨k + n, hn, by go_num, HS.out, by trivial⟩
            case measure => simp [intOf]; omega
          all_goals
            go_wp2_with fail
            go_roundw
            case rel => exact ⟨k + n, hn, by go_num, HS.out, by trivial⟩
            case measure => simp [intOf]; omega
        · have HF : Hid (Sp s 0 → false = true) := fun h => absurd (HN.out h).2.1 hc
          have y3 : (p == 32) = false := beq_eq_false_iff_ne.2 (by omega)
          have y4 : (p == 133) = false := beq_eq_false_iff_ne.2 (by omega)
          have y5 : (p == 160) = false := beq_eq_false_iff_ne.2 (by omega)
          have y6 : (p == 5760) = false := beq_eq_false_iff_ne.2 (by omega)
          have y7 : (p == 8232) = false := beq_eq_false_iff_ne.2 (by omega)
          have y8 : (p == 8233) = false := beq_eq_false_iff_ne.2 (by omega)
          have y9 : (p == 8239) = false := beq_eq_false_iff_ne.2 (by omega)
          have ya : (p == 8287) = false := beq_eq_false_iff_ne.2 (by omega)
          have yb : (p == 12288) = false := beq_eq_false_iff_ne.2 (by omega)
          have hq : p < 9 ∨ (13 < p ∧ p < 8192) ∨ 8202 < p := by omega
          clear hc HN
          rcases hq with hq | ⟨hq, hq2⟩ | hq
          · go_wp2_with fail
            go_ret
            exact ⟨false, rfl, HF.out, rfl⟩
          · have ya1 : decide (9 ≤ p) = true := by simp; omega
            have ya2 : decide (p ≤ 13) = false := by simp; omega
            have ya3 : decide (8192 ≤ p) = false := by simp; omega
            go_wp2_with fail
            go_ret
            exact ⟨false, rfl, HF.out, rfl⟩
          · have ya1 : decide (9 ≤ p) = true := by simp; omega
            have ya2 : decide (p ≤ 13) = false := by simp; omega
            have ya3 : decide (8192 ≤ p) = true := by simp; omega
            have ya4 : decide (p ≤ 8202) = false := by simp; omega
            go_wp2_with fail
            go_ret
            exact ⟨false, rfl, HF.out, rfl⟩
    · go_wp2_with fail
      go_ret
      exact ⟨true, rfl, fun _ => rfl, rfl⟩
end Go.Proofs.Ytflafpkbmmnpaaa

namespace Go.Proofs.Ytflafpkbmmnpaaa
open Go.RowKit
set_option linter.unusedVariables false

def testB (op : Int) (f is : Bool) (v val : List UInt8) : Bool :=
  if op = 1 then is else if op = 2 then is && (lowB f v == lowB f val) else if op = 3 then (!is || !(lowB f v == lowB f val))
  else if op = 5 then is && (lowB f v == lowB f val || standsB (lowB f v) 0 (lowB f val ++ [45])) else if op = 4 then is && decide (lowB f val ∈ words (lowB f v))
  else if op = 6 then is && standsB (lowB f v) 0 (lowB f val) else if op = 7 then is && (decide (val.length ≤ v.length) && standsB (lowB f v) (v.length - val.length) (lowB f val))
  else is && Lib.contains (lowB f v) (lowB f val)
def TestPost (op : Int) (f is : Bool) (v val : ByteArray) (w : World) (e : Ending) (w' : World) : Prop :=
  ∃ m : Int, e = .returned (.int .i64 m) ∧ (m = 2 ∨ (m = truI (testB op f is v.data.toList val.data.toList) ∧ (is = true → op ≠ 1 → op ≠ 2 → op ≠ 3 → op ≠ 5 → val.data.toList ≠ [] ∧ ¬ Sp v 0))) ∧ Below w.heap.size w w'

theorem sp_up {s : ByteArray} {k : Nat} (h : Sp s k) (ha : ∀ j (hj : j < s.size), s[j].toNat < 128) : ∀ j (hj : j < s.size), k ≤ j → Lib.isUpperB s[j] = false := by
  induction h with
  | fin k hk => intro j hj h2; omega
  | step k hk hsp _ ih =>
    intro j hj h2
    have hd := decode_ascii s k hk (ha k hk)
    by_cases e : j = k
    · subst e
      rw [hd] at hsp
      have h3 := (isSp_iff _).1 hsp
      have h4 := ha j hk
      rw [Lib.isUpperB_int]
      simp
      omega
    · rw [hd] at ih
      exact ih j hj (by show k + 1 ≤ j; omega)
theorem ascB_at {s : ByteArray} (h : ascB s.data.toList = true) : ∀ j (hj : j < s.size), s[j].toNat < 128 := by
  intro j hj
  unfold ascB at h
  rw [List.all_eq_true] at h
  have h2 := h (s.data.toList[j]'hj) (List.getElem_mem _)
  exact of_decide_eq_true h2
theorem sp_low {s : ByteArray} (h : ascB s.data.toList = true) (hs : Sp s 0) : lowS s = s := by
  have h1 := sp_up hs (ascB_at h)
  have e : s.data.toList.map Lib.lowerB = s.data.toList := by
    apply List.ext_getElem
    · simp
    · intro j h1' h2'
      rw [List.getElem_map]
      exact Lib.lowerB_of_not _ (h1 j h2' (Nat.zero_le _))
  unfold lowS
  rw [e]
theorem nil_low {s : ByteArray} (h : s.data.toList = []) : Sp s 0 := .fin 0 (by
  have : s.data.toList.length = s.size := rfl
  rw [h] at this; simp at this; omega)
theorem size_one (Y : ByteArray) : (Y ++ (⟨#[45]⟩ : ByteArray)).data.toList = Y.data.toList ++ [45] := by
  rw [ByteArray.data_append]; simp
theorem truI_eq {a b : Bool} (h : a = b) : truI a = truI b := by rw [h]

set_option maxRecDepth 100000 in
set_option maxHeartbeats 2000000 in
theorem tested_false_4_false (v val key : ByteArray) (k a b sz : Int) (hv : v.size ≤ 1000000000) (hval : val.size ≤ 1000000000) (w : World) :
    Calls Try.prog 14 #[.string v, .bool false, .agg #[.int .i64 k, .int .i64 4, .string key, .string val, .int .i64 a, .int .i64 b, .int .i64 0, .int .i64 sz]] w (TestPost 4 false false v val w) := by
  have HB0 : Hid (Below w.heap.size w (w.alloc (.cells #[.int .i64 k, .int .i64 4, .string key, .string val, .int .i64 a, .int .i64 b, .int .i64 0, .int .i64 sz] 27))) := (Below.refl _ _).alloc (Nat.le_refl _) _
  have HSX : Hid (Sp v 0 → Sp v 0) := id
  have HX : Hid (v.data.toList = lowB false v.data.toList) := rfl
  have HY : Hid (val.data.toList = lowB false val.data.toList) := rfl
  go_enter Try.func14, Try.ntmps14
  go_wp2_with fail
  go_ret
  exact ⟨0, rfl, .inr ⟨rfl, fun h => by cases h⟩, HB0.out⟩

set_option maxRecDepth 100000 in
set_option maxHeartbeats 2000000 in
theorem tested_false_4_true (v val key : ByteArray) (k a b sz : Int) (hv : v.size ≤ 1000000000) (hval : val.size ≤ 1000000000) (w : World) :
    Calls Try.prog 14 #[.string v, .bool true, .agg #[.int .i64 k, .int .i64 4, .string key, .string val, .int .i64 a, .int .i64 b, .int .i64 0, .int .i64 sz]] w (TestPost 4 false true v val w) := by
  have HB0 : Hid (Below w.heap.size w (w.alloc (.cells #[.int .i64 k, .int .i64 4, .string key, .string val, .int .i64 a, .int .i64 b, .int .i64 0, .int .i64 sz] 27))) := (Below.refl _ _).alloc (Nat.le_refl _) _
  have HSX : Hid (Sp v 0 → Sp v 0) := id
  have HX : Hid (v.data.toList = lowB false v.data.toList) := rfl
  have HY : Hid (val.data.toList = lowB false val.data.toList) := rfl
  go_enter Try.func14, Try.ntmps14
  go_wp2_with fail
  refine (blankAll_any val _ (by omega)).mono ?_
  rintro e w3 ⟨b1, rfl, hb1, rfl⟩
  have HB1 := Lib.hid hb1
  clear hb1
  cases b1
  case true =>
    go_wp2_with fail
    go_ret
    exact ⟨2, rfl, .inl rfl, HB0.out⟩
  go_wp2_with fail
  refine (blankAll_any v _ (by omega)).mono ?_
  rintro e w3 ⟨b2, rfl, hb2, rfl⟩
  have HB3 := Lib.hid hb2
  clear hb2
  cases b2
  case true =>
    go_wp2_with fail
    go_ret
    exact ⟨2, rfl, .inl rfl, HB0.out⟩
  have HS : Hid (val.data.toList ≠ [] ∧ ¬ Sp v 0) := by
    refine ⟨fun h => ?_, fun h => ?_⟩
    · have := HB1.out (nil_low (by exact h)); cases this
    · have := HB3.out (HSX.out h); cases this
  clear HB1 HB3
  have HE : Hid (testB 4 false true v.data.toList val.data.toList = decide (val.data.toList ∈ words v.data.toList)) := by rw [Hid] ; simp [testB, lowB]
  go_wp2_with fail
  refine (word_any v val (by omega) _).mono ?_
  rintro e w4 ⟨rfl, hb4⟩
  have HB4 := Lib.hid (HB0.out.trans (hb4.mono HB0.out.size))
  clear hb4
  go_wp2_with fail
  refine (tru_any _ _).mono ?_
  rintro e w3 ⟨rfl, rfl⟩
  go_wp2_with fail
  go_ret
  exact ⟨_, rfl, .inr ⟨truI_eq HE.out.symm, fun _ _ _ _ _ => HS.out⟩, HB4.out⟩

set_option maxRecDepth 100000 in
set_option maxHeartbeats 2000000 in
theorem tested_true_4_false (v val key : ByteArray) (k a b sz : Int) (hv : v.size ≤ 1000000000) (hval : val.size ≤ 1000000000) (w : World) :
    Calls Try.prog 14 #[.string v, .bool false, .agg #[.int .i64 k, .int .i64 4, .string key, .string val, .int .i64 a, .int .i64 b, .int .i64 1, .int .i64 sz]] w (TestPost 4 true false v val w) := by
  have HB0 : Hid (Below w.heap.size w (w.alloc (.cells #[.int .i64 k, .int .i64 4, .string key, .string val, .int .i64 a, .int .i64 b, .int .i64 1, .int .i64 sz] 27))) := (Below.refl _ _).alloc (Nat.le_refl _) _
  have gc : (w.alloc (.cells #[.int .i64 k, .int .i64 4, .string key, .string val, .int .i64 a, .int .i64 b, .int .i64 1, .int .i64 sz] 27)).cell? ⟨w.heap.size, 1, none⟩ = some (.int .i64 4) := (World.cell?_alloc_mark _ _ _ _ 1).trans rfl
  have GC := Lib.hid gc
  clear gc
  go_enter Try.func14, Try.ntmps14
  go_wp2_with fail
  refine (ascii_any v _ (by omega)).mono ?_
  rintro e w1 ⟨rfl, rfl⟩
  cases hA : ascB v.data.toList
  · go_wp2_with fail
    go_ret
    exact ⟨2, rfl, .inl rfl, HB0.out⟩
  have HA := Lib.hid hA
  clear hA
  go_wp2_with fail
  refine (ascii_any val _ (by omega)).mono ?_
  rintro e w1 ⟨rfl, rfl⟩
  cases hA2 : ascB val.data.toList
  · go_wp2_with fail
    go_ret
    exact ⟨2, rfl, .inl rfl, HB0.out⟩
  have HSX : Hid (Sp v 0 → Sp (lowS v) 0) := fun h => by rw [sp_low HA.out h]; exact h
  clear hA2
  go_wp2_with fail
  refine (small_any v _ (by omega)).mono ?_
  rintro e w1 ⟨rfl, hb1⟩
  have g1a := (hb1.cell (p := ⟨w.heap.size, 1, none⟩) (by simp)).trans GC.out
  have hlt1 : w.heap.size < w1.heap.size := by have := hb1.size; simp at this; omega
  have HB1 := Lib.hid (HB0.out.trans (hb1.mono (by simp)))
  clear hb1
  go_wp2_with fail
  refine (small_any val _ (by omega)).mono ?_
  rintro e w2 ⟨rfl, hb2⟩
  have g1 := (hb2.cell (p := ⟨w.heap.size, 1, none⟩) hlt1).trans g1a
  have HB2 := Lib.hid (bn HB1.out hb2)
  have hX : (lowS v).data.toList = lowB true v.data.toList := by rw [lowS_sm]; rfl
  have hY : (lowS val).data.toList = lowB true val.data.toList := by rw [lowS_sm]; rfl
  have hXs : (lowS v).size ≤ v.size ∧ v.size ≤ (lowS v).size := by rw [size_low]; exact ⟨Nat.le_refl _, Nat.le_refl _⟩
  have hYs : (lowS val).size ≤ val.size ∧ val.size ≤ (lowS val).size := by rw [size_low]; exact ⟨Nat.le_refl _, Nat.le_refl _⟩
  obtain ⟨X, hXX⟩ : ∃ X, X = lowS v := ⟨_, rfl⟩
  obtain ⟨Y, hYY⟩ : ∃ Y, Y = lowS val := ⟨_, rfl⟩
  rw [← hXX] at hX hXs HSX ⊢
  rw [← hYY] at hY hYs ⊢
  have HX := Lib.hid hX
  have HY := Lib.hid hY
  clear hb2 hXX hYY HB0 hX hY g1a GC HA
  go_wp2_with fail
  go_ret
  exact ⟨0, rfl, .inr ⟨rfl, fun h => by cases h⟩, HB2.out⟩

set_option maxRecDepth 100000 in
set_option maxHeartbeats 2000000 in
theorem tested_true_4_true (v val key : ByteArray) (k a b sz : Int) (hv : v.size ≤ 1000000000) (hval : val.size ≤ 1000000000) (w : World) :
    Calls Try.prog 14 #[.string v, .bool true, .agg #[.int .i64 k, .int .i64 4, .string key, .string val, .int .i64 a, .int .i64 b, .int .i64 1, .int .i64 sz]] w (TestPost 4 true true v val w) := by
  have HB0 : Hid (Below w.heap.size w (w.alloc (.cells #[.int .i64 k, .int .i64 4, .string key, .string val, .int .i64 a, .int .i64 b, .int .i64 1, .int .i64 sz] 27))) := (Below.refl _ _).alloc (Nat.le_refl _) _
  have gc : (w.alloc (.cells #[.int .i64 k, .int .i64 4, .string key, .string val, .int .i64 a, .int .i64 b, .int .i64 1, .int .i64 sz] 27)).cell? ⟨w.heap.size, 1, none⟩ = some (.int .i64 4) := (World.cell?_alloc_mark _ _ _ _ 1).trans rfl
  have GC := Lib.hid gc
  clear gc
  go_enter Try.func14, Try.ntmps14
  go_wp2_with fail
  refine (ascii_any v _ (by omega)).mono ?_
  rintro e w1 ⟨rfl, rfl⟩
  cases hA : ascB v.data.toList
  · go_wp2_with fail
    go_ret
    exact ⟨2, rfl, .inl rfl, HB0.out⟩
  have HA := Lib.hid hA
  clear hA
  go_wp2_with fail
  refine (ascii_any val _ (by omega)).mono ?_
  rintro e w1 ⟨rfl, rfl⟩
  cases hA2 : ascB val.data.toList
  · go_wp2_with fail
    go_ret
    exact ⟨2, rfl, .inl rfl, HB0.out⟩
  have HSX : Hid (Sp v 0 → Sp (lowS v) 0) := fun h => by rw [sp_low HA.out h]; exact h
  clear hA2
  go_wp2_with fail
  refine (small_any v _ (by omega)).mono ?_
  rintro e w1 ⟨rfl, hb1⟩
  have g1a := (hb1.cell (p := ⟨w.heap.size, 1, none⟩) (by simp)).trans GC.out
  have hlt1 : w.heap.size < w1.heap.size := by have := hb1.size; simp at this; omega
  have HB1 := Lib.hid (HB0.out.trans (hb1.mono (by simp)))
  clear hb1
  go_wp2_with fail
  refine (small_any val _ (by omega)).mono ?_
  rintro e w2 ⟨rfl, hb2⟩
  have g1 := (hb2.cell (p := ⟨w.heap.size, 1, none⟩) hlt1).trans g1a
  have HB2 := Lib.hid (bn HB1.out hb2)
  have hX : (lowS v).data.toList = lowB true v.data.toList := by rw [lowS_sm]; rfl
  have hY : (lowS val).data.toList = lowB true val.data.toList := by rw [lowS_sm]; rfl
  have hXs : (lowS v).size ≤ v.size ∧ v.size ≤ (lowS v).size := by rw [size_low]; exact ⟨Nat.le_refl _, Nat.le_refl _⟩
  have hYs : (lowS val).size ≤ val.size ∧ val.size ≤ (lowS val).size := by rw [size_low]; exact ⟨Nat.le_refl _, Nat.le_refl _⟩
  obtain ⟨X, hXX⟩ : ∃ X, X = lowS v := ⟨_, rfl⟩
  obtain ⟨Y, hYY⟩ : ∃ Y, Y = lowS val := ⟨_, rfl⟩
  rw [← hXX] at hX hXs HSX ⊢
  rw [← hYY] at hY hYs ⊢
  have HX := Lib.hid hX
  have HY := Lib.hid hY
  clear hb2 hXX hYY HB0 hX hY g1a GC HA
  go_wp2_with fail
  refine (blankAll_any Y _ (by omega)).mono ?_
  rintro e w3 ⟨b1, rfl, hb1, rfl⟩
  have HB1 := Lib.hid hb1
  clear hb1
  cases b1
  case true =>
    go_wp2_with fail
    go_ret
    exact ⟨2, rfl, .inl rfl, HB2.out⟩
  go_wp2_with fail
  refine (blankAll_any X _ (by omega)).mono ?_
  rintro e w3 ⟨b2, rfl, hb2, rfl⟩
  have HB3 := Lib.hid hb2
  clear hb2
  cases b2
  case true =>
    go_wp2_with fail
    go_ret
    exact ⟨2, rfl, .inl rfl, HB2.out⟩
  have HS : Hid (val.data.toList ≠ [] ∧ ¬ Sp v 0) := by
    refine ⟨fun h => ?_, fun h => ?_⟩
    · have := HB1.out (nil_low (by rw [HY.out, h]; unfold lowB; simp)); cases this
    · have := HB3.out (HSX.out h); cases this
  clear HB1 HB3
  have HE : Hid (testB 4 true true v.data.toList val.data.toList = decide (Y.data.toList ∈ words X.data.toList)) := by rw [Hid, HX.out, HY.out]; simp [testB]
  go_wp2_with fail
  refine (word_any X Y (by omega) _).mono ?_
  rintro e w4 ⟨rfl, hb4⟩
  have HB4 := Lib.hid (HB2.out.trans (hb4.mono HB2.out.size))
  clear hb4
  go_wp2_with fail
  refine (tru_any _ _).mono ?_
  rintro e w3 ⟨rfl, rfl⟩
  go_wp2_with fail
  go_ret
  exact ⟨_, rfl, .inr ⟨truI_eq HE.out.symm, fun _ _ _ _ _ => HS.out⟩, HB4.out⟩

end Go.Proofs.Ytflafpkbmmnpaaa
