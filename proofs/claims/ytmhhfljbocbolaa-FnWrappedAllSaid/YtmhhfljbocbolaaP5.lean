/- Words, attributes; alike trees; FnEmptyOf: the walk (joined by join.py) -/
import Derived.Lib.IndexMore
import Derived.Lib.IndexLaws
import Derived.Test.YtmhhfljbocbolaaRows
import Derived.WalkKit
import Derived.WalkSpells
import Derived.WalkLawsBesides
import Derived.Lib.Hide
import Derived.Laws.AppendOwn
import Derived.Maps.AppendAt
import Derived.Below
import Derived.LoopTactic
import Derived.Lib.FieldsLaws
import Derived.Lib.IndexBytes
import Derived.Test.YtmhhfljbocbolaaT24
import Derived.Test.YtmhhfljbocbolaaP4
import Derived.Test.YtmhhfljbocbolaaT166
import Derived.BigRegion
import Derived.BigQuiet
import Derived.Deep.QuietTactic
import Derived.Test.YtmhhfljbocbolaaT32
import Derived.Test.YtmhhfljbocbolaaT18
namespace Go.Proofs.Ytmhhfljbocbolaa
set_option linter.unusedVariables false

/-- White space of HTML. -/
def wsB (c : UInt8) : Bool := c == 32 || c == 9 || c == 10 || c == 13 || c == 12

def wds : List UInt8 → List UInt8 → List (List UInt8)
  | cur, [] => if cur = [] then [] else [cur]
  | cur, c :: l => if wsB c = true then (if cur = [] then wds [] l else cur :: wds [] l) else wds (cur ++ [c]) l
/-- The words of a text. -/
def words (l : List UInt8) : List (List UInt8) := wds [] l

theorem wds_ws {cur : List UInt8} {c : UInt8} (l : List UInt8) (h : wsB c = true) : wds cur (c :: l) = (if cur = [] then [] else [cur]) ++ wds [] l := by
  rw [wds, if_pos h]
  split <;> simp
theorem wds_no {cur : List UInt8} {c : UInt8} (l : List UInt8) (h : wsB c = false) : wds cur (c :: l) = wds (cur ++ [c]) l := by
  rw [wds, if_neg (by simp [h])]
theorem wds_cat {c : UInt8} (h : wsB c = true) (b : List UInt8) : ∀ (a cur : List UInt8), wds cur (a ++ c :: b) = wds cur a ++ wds [] b := by
  intro a
  induction a with
  | nil => intro cur; rw [List.nil_append, wds_ws _ h]; rfl
  | cons x a ih =>
    intro cur
    rw [List.cons_append]
    cases hx : wsB x
    · rw [wds_no _ hx, wds_no _ hx, ih]
    · rw [wds_ws _ hx, wds_ws _ hx, ih, List.append_assoc]
theorem words_cat {c : UInt8} (h : wsB c = true) (a b : List UInt8) : words (a ++ c :: b) = words a ++ words b := wds_cat h b a []
theorem words_front {c : UInt8} (h : wsB c = true) (b : List UInt8) : words (c :: b) = words b := by simpa [words, wds] using words_cat h [] b
theorem words_back {c : UInt8} (h : wsB c = true) (a : List UInt8) : words (a ++ [c]) = words a := by simpa [words, wds] using words_cat h a []
theorem wds_one : ∀ (l cur : List UInt8), (∀ c ∈ l, wsB c = false) → wds cur l = if cur ++ l = [] then [] else [cur ++ l] := by
  intro l
  induction l with
  | nil => intro cur _; rw [List.append_nil]; rfl
  | cons x l ih =>
    intro cur h
    rw [wds_no _ (h x (by simp)), ih _ (fun c hc => h c (by simp [hc])), List.append_assoc]
    rfl
theorem words_one {l : List UInt8} (h : ∀ c ∈ l, wsB c = false) (hne : l ≠ []) : words l = [l] := by
  unfold words
  rw [wds_one _ _ h, List.nil_append, if_neg hne]

theorem wds_mem : ∀ (l cur w : List UInt8), (∀ c ∈ cur, wsB c = false) → w ∈ wds cur l → w ≠ [] ∧ (∀ c ∈ w, wsB c = false) ∧ ∃ pre post, cur ++ l = pre ++ w ++ post ∧ (pre = [] ∨ ∃ p c, pre = p ++ [c] ∧ wsB c = true) ∧ (post = [] ∨ ∃ c p, post = c :: p ∧ wsB c = true) := by
  intro l
  induction l with
  | nil =>
    intro cur w hc hw
    rw [wds] at hw
    split at hw
    · simp at hw
    · rename_i hne
      rw [List.mem_singleton] at hw
      subst hw
      exact ⟨hne, hc, [], [], by simp, .inl rfl, .inl rfl⟩
  | cons x l ih =>
    intro cur w hc hw
    cases hx : wsB x
    · rw [wds_no _ hx] at hw
      have h := ih (cur ++ [x]) w (by intro c hm; rw [List.mem_append, List.mem_singleton] at hm; rcases hm with hm | rfl; exact hc c hm; exact hx) hw
      rwa [List.append_assoc] at h
    · rw [wds_ws _ hx, List.mem_append] at hw
      rcases hw with hw | hw
      · split at hw
        · simp at hw
        · rename_i hne
          rw [List.mem_singleton] at hw
          subst hw
          exact ⟨hne, hc, [], x :: l, by simp, .inl rfl, .inr ⟨x, l, rfl, hx⟩⟩
      · obtain ⟨h1, h2, pre, post, h3, h4, h5⟩ := ih [] w (by simp) hw
        refine ⟨h1, h2, cur ++ x :: pre, post, ?_, ?_, h5⟩
        · rw [List.nil_append] at h3; rw [h3]; simp
        · rcases h4 with rfl | ⟨p, c, rfl, hc2⟩
          · exact .inr ⟨cur, x, rfl, hx⟩
          · exact .inr ⟨cur ++ x :: p, c, by simp, hc2⟩
theorem words_mem {l w : List UInt8} (h : w ∈ words l) : w ≠ [] ∧ (∀ c ∈ w, wsB c = false) ∧ ∃ pre post, l = pre ++ w ++ post ∧ (pre = [] ∨ ∃ p c, pre = p ++ [c] ∧ wsB c = true) ∧ (post = [] ∨ ∃ c p, post = c :: p ∧ wsB c = true) :=
  wds_mem l [] w (by simp) h
theorem words_len_mem {l w : List UInt8} (h : w ∈ words l) : w.length ≤ l.length := by
  obtain ⟨_, _, pre, post, e, _⟩ := words_mem h
  rw [e]; simp; omega
theorem wds_count : ∀ (l cur : List UInt8), (wds cur l).length ≤ l.length + (if cur = [] then 0 else 1) := by
  intro l
  induction l with
  | nil => intro cur; rw [wds]; split <;> simp
  | cons x l ih =>
    intro cur
    cases hx : wsB x
    · rw [wds_no _ hx]
      have := ih (cur ++ [x])
      rw [if_neg (by simp)] at this
      rw [List.length_cons]; split <;> omega
    · rw [wds_ws _ hx, List.length_append, List.length_cons]
      have := ih []
      rw [if_pos rfl] at this
      split <;> simp <;> omega
theorem words_count (l : List UInt8) : (words l).length ≤ l.length := by
  have := wds_count l []
  rwa [if_pos rfl] at this

/-- A word is in a text, all white space of which are blanks, just if it stands there between blanks. -/
theorem words_between {l w : List UInt8} (hl : ∀ c ∈ l, wsB c = true → c = 32) (hw : ∀ c ∈ w, wsB c = false) (hne : w ≠ []) :
    w ∈ words l ↔ ∃ A B, 32 :: l ++ [32] = A ++ (32 :: w ++ [32]) ++ B := by
  constructor
  · intro h
    obtain ⟨_, _, pre, post, e, h1, h2⟩ := words_mem h
    have hp : ∃ A, 32 :: pre = A ++ [32] := by
      rcases h1 with rfl | ⟨p, c, rfl, hc⟩
      · exact ⟨[], rfl⟩
      · have : c = 32 := hl c (by rw [e]; simp) hc
        exact ⟨32 :: p, by rw [this]; simp⟩
    have hq : ∃ B, post ++ [32] = 32 :: B := by
      rcases h2 with rfl | ⟨c, p, rfl, hc⟩
      · exact ⟨[], rfl⟩
      · have : c = 32 := hl c (by rw [e]; simp) hc
        exact ⟨p ++ [32], by rw [this]; simp⟩
    obtain ⟨A, hA⟩ := hp
    obtain ⟨B, hB⟩ := hq
    refine ⟨A, B, ?_⟩
    have : 32 :: l ++ [32] = (32 :: pre) ++ w ++ (post ++ [32]) := by rw [e]; simp
    rw [this, hA, hB]; simp
  · rintro ⟨A, B, e⟩
    have e1 : words (32 :: l ++ [32]) = words l := by
      rw [words_back (by decide), words_front (by decide)]
    have e2 : words (A ++ (32 :: w ++ [32]) ++ B) = words A ++ ([w] ++ words B) := by
      have : A ++ (32 :: w ++ [32]) ++ B = A ++ 32 :: (w ++ 32 :: B) := by simp
      rw [this, words_cat (by decide), words_cat (by decide), words_one hw hne]
    rw [← e1, e, e2]; simp

theorem contains_iff (s sub : List UInt8) : Lib.contains s sub = true ↔ ∃ A B, s = A ++ sub ++ B := by
  unfold Lib.contains
  rw [decide_eq_true_eq]
  constructor
  · intro h
    rcases Lib.index_spec s sub with ⟨h1, _⟩ | ⟨i, h1, h2, h3, _⟩
    · omega
    · unfold Lib.occAt at h3
      obtain ⟨B, hB⟩ := List.isPrefixOf_iff_prefix.1 h3
      exact ⟨s.take i, B, by rw [List.append_assoc, hB, List.take_append_drop]⟩
  · rintro ⟨A, B, rfl⟩
    rcases Lib.index_spec (A ++ sub ++ B) sub with ⟨_, h2⟩ | ⟨i, h1, _⟩
    · have := h2 A.length (by simp)
      unfold Lib.occAt at this
      rw [List.append_assoc, List.drop_left] at this
      rw [List.isPrefixOf_iff_prefix.2 (List.prefix_append _ _)] at this
      cases this
    · omega
/-- Small letters. -/
def smB (c : UInt8) : UInt8 := if 65 ≤ c ∧ c ≤ 90 then c + 32 else c
theorem wsB_sm : ∀ c : UInt8, wsB (smB c) = wsB c := by
  intro c
  unfold smB
  split
  · rename_i h
    have h1 : 65 ≤ c.toNat := by simpa [UInt8.le_iff_toNat_le] using h.1
    have h2 : c.toNat ≤ 90 := by simpa [UInt8.le_iff_toNat_le] using h.2
    have e : ∀ (d : UInt8) (n : Nat), d.toNat = n → (n < 65) → (c == d) = false ∧ (c + 32 == d) = false := by
      intro d n hd hn
      have e3 : (c + 32).toNat = c.toNat + 32 := by rw [UInt8.toNat_add]; show (c.toNat + 32) % 256 = _; omega
      constructor
      · rw [beq_eq_false_iff_ne]; intro q; rw [q] at h1; omega
      · rw [beq_eq_false_iff_ne]; intro q; rw [q] at e3; omega
    unfold wsB
    simp [e 32 32 rfl (by decide), e 9 9 rfl (by decide), e 10 10 rfl (by decide), e 13 13 rfl (by decide), e 12 12 rfl (by decide)]
  · rfl
theorem wds_sm : ∀ (l cur : List UInt8), wds (cur.map smB) (l.map smB) = (wds cur l).map (List.map smB) := by
  intro l
  induction l with
  | nil => intro cur; simp only [List.map_nil, wds]; cases cur <;> simp
  | cons x l ih =>
    intro cur
    rw [List.map_cons]
    cases hx : wsB x
    · rw [wds_no _ hx, wds_no _ (by rw [wsB_sm]; exact hx), ← ih]; simp
    · rw [wds_ws _ hx, wds_ws _ (by rw [wsB_sm]; exact hx), List.map_append, ← ih]
      cases cur <;> simp
theorem words_sm (l : List UInt8) : words (l.map smB) = (words l).map (List.map smB) := wds_sm l []
end Go.Proofs.Ytmhhfljbocbolaa

namespace Go.Proofs.Ytmhhfljbocbolaa
open Go.RowKit
set_option linter.unusedVariables false

theorem Try.infoStr : (Try.prog.info? 9).map (fun i => (i.zero, i.size, i.bytes)) = some (some (.string ⟨#[]⟩), 1, 16) := by kernel_rfl

/-- Texts, as values. -/
def strs (l : List (List UInt8)) : List Value := l.map fun x => Value.string ⟨x.toArray⟩
theorem strs_length (l : List (List UInt8)) : (strs l).length = l.length := by simp [strs]
theorem strs_at {l : List (List UInt8)} {i : Nat} (h : i < l.length) : (strs l)[i]'(by rw [strs_length]; exact h) = .string ⟨l[i].toArray⟩ := by simp [strs]
theorem strs_snoc (l : List (List UInt8)) (x : List UInt8) : strs (l ++ [x]) = strs l ++ [.string ⟨x.toArray⟩] := by simp [strs]
theorem ext_str (s : ByteArray) (a b : Nat) : s.extract a b = ⟨((s.data.toList.drop a).take (b - a)).toArray⟩ := by
  apply ByteArray.ext
  apply Array.ext'
  rw [Lib.extract_data]
theorem wsB_iff (c : UInt8) : wsB c = true ↔ c.toNat = 32 ∨ c.toNat = 9 ∨ c.toNat = 10 ∨ c.toNat = 13 ∨ c.toNat = 12 := by
  have e : ∀ d : UInt8, (c == d) = true ↔ c.toNat = d.toNat := fun d => by rw [beq_iff_eq]; exact UInt8.toNat_inj.symm
  unfold wsB
  simp only [Bool.or_eq_true, e]
  rw [or_assoc, or_assoc, or_assoc]
  exact Iff.rfl

theorem own_sl {w : World} {base e size n : Nat} {v : Value} {xs : List Value} (h : w.ownsRow base e size v n xs) : ∃ a c, v = .slice a n c := by
  rcases h.2 with ⟨hv, h0⟩ | ⟨g, cap, cur, hv, _⟩
  · exact ⟨none, 0, by rw [hv, h0]⟩
  · exact ⟨_, cap, hv⟩

def StrsPost (l : List (List UInt8)) (w : World) (e : Ending) (w' : World) : Prop :=
  ∃ a c, e = .returned (.slice a l.length c) ∧ w'.ownsRow w.heap.size 9 1 (.slice a l.length c) l.length (strs l) ∧ Below w.heap.size w w'
def WordsRel (s : ByteArray) (W : World) (v fr x : Value) (wr : World) : Prop :=
  ∃ (k f : Nat) (acc : List (List UInt8)) (a : Option Addr) (c : Nat), k ≤ s.size + 1 ∧ f ≤ k ∧ (k = s.size + 1 → f = k) ∧ x = .int .i64 (k : Nat) ∧ fr = .int .i64 (f : Nat) ∧ v = .slice a acc.length c ∧
    wr.ownsRow W.heap.size 9 1 (.slice a acc.length c) acc.length (strs acc) ∧ Hid (words s.data.toList = acc ++ wds ((s.data.toList.drop f).take (k - f)) (s.data.toList.drop k)) ∧ acc.length ≤ k ∧ Below W.heap.size W wr

theorem words_go {l : List UInt8} {k f : Nat} {acc : List (List UInt8)} {c : UInt8} (hf : f ≤ k) (hk : l[k]? = some c) (hc : wsB c = false) (h : words l = acc ++ wds ((l.drop f).take (k - f)) (l.drop k)) :
    words l = acc ++ wds ((l.drop f).take (k + 1 - f)) (l.drop (k + 1)) := by
  rw [h, Lib.drop_at hk, wds_no _ hc, Lib.piece_more hf hk]
theorem words_cut {l : List UInt8} {k f : Nat} {acc : List (List UInt8)} (hf : f ≤ k) (hkl : k ≤ l.length) (hc : ∀ c, l[k]? = some c → wsB c = true) (h : words l = acc ++ wds ((l.drop f).take (k - f)) (l.drop k)) :
    words l = (if f < k then acc ++ [(l.drop f).take (k - f)] else acc) ++ wds ((l.drop (k + 1)).take (k + 1 - (k + 1))) (l.drop (k + 1)) := by
  have h1 : wds ((l.drop f).take (k - f)) (l.drop k) = (if (l.drop f).take (k - f) = [] then [] else [(l.drop f).take (k - f)]) ++ wds [] (l.drop (k + 1)) := by
    cases hk : l[k]? with
    | none =>
      have : l.length ≤ k := List.getElem?_eq_none_iff.1 hk
      rw [List.drop_of_length_le this, List.drop_of_length_le (by omega : l.length ≤ k + 1), wds, wds]; simp
    | some c => rw [Lib.drop_at hk, wds_ws _ (hc c hk)]
  rw [h, h1, Nat.sub_self, List.take_zero]
  by_cases hlt : f < k
  · rw [if_pos hlt, if_neg (Lib.piece_ne hlt hkl), List.append_assoc]
  · obtain rfl : f = k := by omega
    simp

end Go.Proofs.Ytmhhfljbocbolaa

namespace Go.Proofs.Ytmhhfljbocbolaa
open Go.RowKit
set_option linter.unusedVariables false

set_option maxRecDepth 100000 in
set_option maxHeartbeats 2000000 in
theorem wordsC_any (s : ByteArray) (hs : s.size ≤ 2147483647) (w : World) : Calls Try.prog 85 #[.string s] w (StrsPost (words s.data.toList) w) := by
  obtain ⟨i0, hinf, hz0, hz1, hz2⟩ := info_parts Try.infoStr
  have hsl : s.data.toList.length = s.size := rfl
  have HL := Lib.hid hsl
  clear hsl
  go_enter Try.func85, Try.ntmps85
  go_wp2_with fail
  go_loopw [3, 4, 5] (fun v fr x wr => WordsRel s w v fr x wr) (fun _ _ x _ => s.size + 1 - (intOf x).toNat)
  case atStart => exact ⟨0, 0, [], none, 0, by omega, by omega, (fun h => by omega), rfl, rfl, rfl, World.ownsRow_nil _ _ _ _, (by simp [Hid, words]), by simp, Below.refl _ _⟩
  case round =>
    obtain ⟨k, f, acc, a, c, hk, hf, hfin, rfl, rfl, rfl, hown, hw, hal, hb⟩ := hrel
    have HB := Lib.hid hb
    have HW := Lib.hid hown
    have HFin := Lib.hid hfin
    have hsz := hb.size
    clear hb hown hfin
    by_cases hle : k ≤ s.size
    · have HCut := Lib.hid (fun h => words_cut (l := s.data.toList) hf (by have := HL.out; omega) h hw.out)
      have HX : Hid (s.extract f k = ⟨((s.data.toList.drop f).take (k - f)).toArray⟩) := ext_str s f k
      by_cases hlt : k < s.size
      · have hgk : s.data.toList[k]? = some s[k] := by
          rw [List.getElem?_eq_getElem (by have := HL.out; omega)]; rfl
        have hwi := wsB_iff s[k]
        cases hc : wsB s[k]
        · have HN := Lib.hid (words_go hf hgk hc hw.out)
          rw [hc] at hwi
          have hn : ¬ (s[k].toNat = 32 ∨ s[k].toNat = 9 ∨ s[k].toNat = 10 ∨ s[k].toNat = 13 ∨ s[k].toNat = 12) := fun h => by cases hwi.2 h
          have z1 : ((s[k].toNat : Int) != 32) = true := by rw [bne_iff_ne]; omega
          have z2 : ((s[k].toNat : Int) != 9) = true := by rw [bne_iff_ne]; omega
          have z3 : ((s[k].toNat : Int) != 10) = true := by rw [bne_iff_ne]; omega
          have z4 : ((s[k].toNat : Int) != 12) = true := by rw [bne_iff_ne]; omega
          have z5 : ((s[k].toNat : Int) != 13) = true := by rw [bne_iff_ne]; omega
          clear hw HCut hgk hc hn hwi
          go_wp2_with fail
          go_roundw
          case rel => exact ⟨k + 1, f, acc, a, c, by omega, by omega, (fun h => by omega), by go_num, rfl, rfl, HW.out, HN.out, by omega, HB.out⟩
          case measure => simp [intOf]; omega
        · have HN := Lib.hid (HCut.out (fun d hd => by rw [hgk] at hd; cases hd; exact hc))
          have hy := hwi.1 hc
          have HNN := Lib.hid HN.out
          clear hw HCut hgk hc hwi HN
          have hz : ∃ z1 z2 z3 z4 z5 : Bool, ((s[k].toNat : Int) != 32) = z1 ∧ ((s[k].toNat : Int) != 9) = z2 ∧ ((s[k].toNat : Int) != 10) = z3 ∧ ((s[k].toNat : Int) != 12) = z4 ∧ ((s[k].toNat : Int) != 13) = z5 ∧ ((z1 = false ∧ z2 = true ∧ z3 = true ∧ z4 = true ∧ z5 = true) ∨ (z1 = true ∧ z2 = false ∧ z3 = true ∧ z4 = true ∧ z5 = true) ∨ (z1 = true ∧ z2 = true ∧ z3 = false ∧ z4 = true ∧ z5 = true) ∨ (z1 = true ∧ z2 = true ∧ z3 = true ∧ z4 = false ∧ z5 = true) ∨ (z1 = true ∧ z2 = true ∧ z3 = true ∧ z4 = true ∧ z5 = false)) := by
            refine ⟨_, _, _, _, _, rfl, rfl, rfl, rfl, rfl, ?_⟩
            rcases hy with hy | hy | hy | hy | hy <;> rw [hy] <;> decide
          clear hy
          obtain ⟨z1, z2, z3, z4, z5, e1, e2, e3, e4, e5, hz⟩ := hz
          rcases hz with ⟨rfl, rfl, rfl, rfl, rfl⟩ | ⟨rfl, rfl, rfl, rfl, rfl⟩ | ⟨rfl, rfl, rfl, rfl, rfl⟩ | ⟨rfl, rfl, rfl, rfl, rfl⟩ | ⟨rfl, rfl, rfl, rfl, rfl⟩
          all_goals
            have HN := Lib.hid HNN.out
            clear HNN
            by_cases hfk : f < k
            · rw [if_pos hfk] at HN
              go_wp2_with (at_builtin; refine wpList_append_own _ rfl _ _ 25 rfl w.heap.size 9 i0 (.string ⟨#[]⟩) 1 16 Try.underlying25 hinf hz0 hz1 hz2 rfl (by decide) _ _ _ rfl (HW.out.alloc _) ⟨wr.heap.size, 0, none⟩ 1 1 [.string (s.extract f k)] rfl rfl (cell_one_new _ _ _) (by intro u hu; simp at hu; subst hu; rfl) (by unfold maxLen; omega) (by omega) (by simp; omega) ?_)
              intro v' w3 hown' hgrow _
              obtain ⟨a3, c3, hv2⟩ := own_sl hown'
              rw [hv2] at hown' ⊢
              have hb1 : Below w.heap.size w w3 := (HB.out.alloc hsz _).grown hgrow (by simp; omega) (fun q hq => (HW.out.lt q hq).1)
              have HO1 : Hid (w3.ownsRow w.heap.size 9 1 (.slice a3 (acc.length + 1) c3) (acc.length + 1) (strs (acc ++ [(s.data.toList.drop f).take (k - f)]))) := by
                rw [Hid, strs_snoc, ← HX.out]; exact hown'
              clear hown' hgrow hv2
              go_wp2_with fail
              go_roundw
              case rel => exact ⟨k + 1, k + 1, _, a3, c3, by omega, by omega, (fun h => by omega), by go_num, by go_num, by rw [List.length_append]; rfl, by rw [List.length_append]; exact HO1.out, HN.out, by rw [List.length_append]; simp; omega, hb1⟩
              case measure => simp [intOf]; omega
            · rw [if_neg hfk] at HN
              go_wp2_with fail
              go_roundw
              case rel => exact ⟨k + 1, k + 1, acc, a, c, by omega, by omega, (fun h => by omega), by go_num, by go_num, rfl, HW.out, HN.out, by omega, HB.out⟩
              case measure => simp [intOf]; omega
      · have HN := Lib.hid (HCut.out (fun d hd => by rw [List.getElem?_eq_none (by have := HL.out; omega)] at hd; cases hd))
        clear hw HCut
        by_cases hfk : f < k
        · rw [if_pos hfk] at HN
          go_wp2_with (at_builtin; refine wpList_append_own _ rfl _ _ 25 rfl w.heap.size 9 i0 (.string ⟨#[]⟩) 1 16 Try.underlying25 hinf hz0 hz1 hz2 rfl (by decide) _ _ _ rfl (HW.out.alloc _) ⟨wr.heap.size, 0, none⟩ 1 1 [.string (s.extract f k)] rfl rfl (cell_one_new _ _ _) (by intro u hu; simp at hu; subst hu; rfl) (by unfold maxLen; omega) (by omega) (by simp; omega) ?_)
          intro v' w3 hown' hgrow _
          obtain ⟨a3, c3, hv2⟩ := own_sl hown'
          rw [hv2] at hown' ⊢
          have hb1 : Below w.heap.size w w3 := (HB.out.alloc hsz _).grown hgrow (by simp; omega) (fun q hq => (HW.out.lt q hq).1)
          have HO1 : Hid (w3.ownsRow w.heap.size 9 1 (.slice a3 (acc.length + 1) c3) (acc.length + 1) (strs (acc ++ [(s.data.toList.drop f).take (k - f)]))) := by
            rw [Hid, strs_snoc, ← HX.out]; exact hown'
          clear hown' hgrow hv2
          go_wp2_with fail
          go_roundw
          case rel => exact ⟨k + 1, k + 1, _, a3, c3, by omega, by omega, (fun h => by omega), by go_num, by go_num, by rw [List.length_append]; rfl, by rw [List.length_append]; exact HO1.out, HN.out, by rw [List.length_append]; simp; omega, hb1⟩
          case measure => simp [intOf]; omega
        · rw [if_neg hfk] at HN
          go_wp2_with fail
          go_roundw
          case rel => exact ⟨k + 1, k + 1, acc, a, c, by omega, by omega, (fun h => by omega), by go_num, by go_num, rfl, HW.out, HN.out, by omega, HB.out⟩
          case measure => simp [intOf]; omega
    · have e : k = s.size + 1 := by omega
      have e2 : acc = words s.data.toList := by
        have h1 := hw.out
        have h2 := HFin.out e
        rw [h2, Nat.sub_self, List.take_zero, List.drop_of_length_le (by have := HL.out; omega), wds, if_pos rfl, List.append_nil] at h1
        exact h1.symm
      clear e hw HFin
      go_wp2_with fail
      go_ret
      subst e2
      exact ⟨a, c, rfl, HW.out, HB.out⟩
end Go.Proofs.Ytmhhfljbocbolaa

namespace Go.Proofs.Ytmhhfljbocbolaa
open Go.RowKit
set_option linter.unusedVariables false

/-- The first attribute of a name. -/
def findA (l : List At2) (k : ByteArray) : Option At2 := l.find? fun x => x.key.toList == k.toList

theorem findA_some {l : List At2} {k : ByteArray} {i : Nat} (hi : i < l.length) (hb : ∀ j (h : j < l.length), j < i → (l[j].key.toList == k.toList) = false) (he : (l[i].key.toList == k.toList) = true) : findA l k = some l[i] := by
  unfold findA
  rw [List.find?_eq_some_iff_getElem]
  refine ⟨he, i, hi, rfl, fun j hj => ?_⟩
  simpa using hb j (by omega) hj

theorem findA_none {l : List At2} {k : ByteArray} (hb : ∀ j (h : j < l.length), j < l.length → (l[j].key.toList == k.toList) = false) : findA l k = none := by
  unfold findA
  rw [List.find?_eq_none]
  intro x hx
  obtain ⟨j, hj, rfl⟩ := List.getElem_of_mem hx
  simpa using hb j hj hj

def AttrPost (l : List At2) (k : ByteArray) (w : World) (e : Ending) (w' : World) : Prop :=
  (match findA l k with
   | some x => e = .returned (.tuple #[.string x.val, .bool true])
   | none => e = .returned (.tuple #[.string ⟨#[]⟩, .bool false])) ∧ Below w.heap.size w w'

set_option maxRecDepth 100000 in
set_option maxHeartbeats 1000000 in
theorem attr_any (x : Nd) (k : ByteArray) (w : World) (hx : ASl w w.heap.size x.aa x.attrs) (hl : x.attrs.length ≤ 2147483647) :
    Calls Try.prog 84 #[.agg #[.int .i64 x.kind, .string x.tag, .string x.text, .slice x.aa x.attrs.length x.ac, .int .i64 x.size], .string k] w (AttrPost x.attrs k w) := by
  obtain ⟨kd, tag, text, aa, ac, l, size⟩ := x
  dsimp only at hx hl ⊢
  have HX := Lib.hid hx
  clear hx
  go_enter Try.func84, Try.ntmps84
  go_wp2_with fail
  go_loopw [6] (fun x wr => ∃ k1 q : Nat, k1 ≤ l.length ∧ x = .int .i64 k1 ∧ Hid (∀ j (h : j < l.length), j < k1 → (l[j].key.toList == k.toList) = false) ∧ wr = (w.alloc (.cells #[.int .i64 kd, .string tag, .string text, .slice aa l.length ac, .int .i64 size] 47)).drewN q) (fun x _ => l.length - (intOf x).toNat)
  case atStart => exact ⟨0, 0, by omega, rfl, (fun j _ hj => by omega), rfl⟩
  case round =>
    obtain ⟨i, q, hi, rfl, hno, rfl⟩ := hrel
    have hbx : Below w.heap.size w ((w.alloc (.cells #[.int .i64 kd, .string tag, .string text, .slice aa l.length ac, .int .i64 size] 47)).drewN q) := below_drewN ((Below.refl _ _).alloc (Nat.le_refl _) _) _
    have b3 : ((w.alloc (.cells #[.int .i64 kd, .string tag, .string text, .slice aa l.length ac, .int .i64 size] 47)).drewN q).cell? ⟨w.heap.size, 3, none⟩ = some (.slice aa l.length ac) := by
      rw [World.cell?_drewN]
      rw [World.cell?_alloc_mark]; rfl
    obtain ⟨W, hW⟩ : ∃ W, W = ((w.alloc (.cells #[.int .i64 kd, .string tag, .string text, .slice aa l.length ac, .int .i64 size] 47)).drewN q) := ⟨_, rfl⟩
    rw [← hW] at hbx b3 ⊢
    have HW := Lib.hid hW
    have HB := Lib.hid hbx
    have HX2 := HX.out.below hbx
    clear hW hbx
    by_cases hlt : i < l.length
    · obtain ⟨b, o, rfl, hbB, hc⟩ := HX2.2.2.resolve_left (fun h0 => by rw [h0] at hlt; simp at hlt)
      obtain ⟨g1, g2⟩ := hc i hlt
      rw [List.getD_eq_getElem?_getD, List.getElem?_eq_getElem hlt, Option.getD_some] at g1 g2
      clear hc HX2
      obtain ⟨y, hy⟩ : ∃ y, y = l[i] := ⟨_, rfl⟩
      rw [← hy] at g1 g2
      have HY := Lib.hid hy
      clear hy
      have e1 : IntKind.i64.wrap (i : Int) = (i : Int) := IntWalk.i64_in _ ⟨by omega, by omega⟩
      cases he : (y.key.toList == k.toList)
      · have HE := Lib.hid he
        go_wp2_with fail
        go_roundw
        case rel =>
          refine ⟨i + 1, q, by omega, by go_num, (fun j hj hj2 => ?_), HW.out⟩
          by_cases e : j = i
          · subst e; rw [← HY.out]; exact HE.out
          · exact hno.out j hj (by omega)
        case measure => simp [intOf]; omega
      · have HE := Lib.hid he
        have HF : Hid (findA l k = some y) := by
          have e2 := HE.out
          rw [HY.out] at e2
          rw [Hid, HY.out]
          exact findA_some hlt hno.out e2
        go_wp2_with fail
        go_ret2
        refine ⟨?_, HB.out⟩
        rw [HF.out]
        try rfl
    · have HF : Hid (findA l k = none) := findA_none (fun j hj _ => hno.out j hj (by omega))
      clear HX2
      go_wp2_with fail
      go_ret2
      refine ⟨?_, HB.out⟩
      rw [HF.out]
      try rfl
end Go.Proofs.Ytmhhfljbocbolaa

namespace Go.Proofs.Ytmhhfljbocbolaa
open Go.RowKit
set_option linter.unusedVariables false

theorem toLb (s : ByteArray) : s.toList = s.data.toList := ByteArray.toList_eq s

set_option maxRecDepth 100000 in
set_option maxHeartbeats 1000000 in
theorem isWord_any (W : List (List UInt8)) (hlen : W.length ≤ 2147483647) (v : ByteArray) (a : Option Addr) (c : Nat) (w : World) (h : RSl w w.heap.size a (strs W)) :
    Calls Try.prog 86 #[.slice a W.length c, .string v] w fun e w' => e = .returned (.bool (decide (v.data.toList ∈ W))) ∧ w = w' := by
  have HO := Lib.hid h
  clear h
  go_enter Try.func86, Try.ntmps86
  go_wp2_with fail
  go_loopw [5] (fun x wr => ∃ k : Nat, k ≤ W.length ∧ x = .int .i64 k ∧ Hid (v.data.toList ∉ W.take k) ∧ w = wr) (fun x _ => W.length - (intOf x).toNat)
  case atStart => exact ⟨0, Nat.zero_le _, rfl, (by simp [Hid]), rfl⟩
  case round =>
    obtain ⟨k, hk, rfl, hno, rfl⟩ := hrel
    by_cases hlt : k < W.length
    · obtain ⟨b, o, rfl, hbB, hc⟩ := HO.out.at_ (by rw [strs_length]; omega)
      have g1 := hc k (by rw [strs_length]; exact hlt)
      rw [strs_at hlt] at g1
      have hmem : W[k] ∈ W := List.getElem_mem hlt
      have HE : Hid (((⟨W[k].toArray⟩ : ByteArray).toList == v.toList) = (W[k] == v.data.toList)) := by
        rw [Hid, toLb, toLb]
      have HTk : Hid (W.take (k + 1) = W.take k ++ [W[k]]) := List.take_succ_eq_append_getElem hlt
      clear hc
      cases hb : (W[k] == v.data.toList)
      · have HN : Hid (v.data.toList ∉ W.take (k + 1)) := by
          rw [Hid, HTk.out, List.mem_append, List.mem_singleton]
          rintro (h | h)
          · exact hno.out h
          · rw [h] at hb; simp at hb
        rw [hb] at HE
        have he := HE.out
        obtain ⟨x, hx⟩ : ∃ x : ByteArray, x = ⟨W[k].toArray⟩ := ⟨_, rfl⟩
        rw [← hx] at he g1
        clear hno hb HE hx hmem
        go_wp2_with fail
        go_roundw
        case rel => exact ⟨k + 1, by omega, by go_num, HN.out, by trivial⟩
        case measure => simp [intOf]; omega
      · have HF : Hid (decide (v.data.toList ∈ W) = true) := by
          rw [beq_iff_eq] at hb
          rw [Hid, ← hb, decide_eq_true_eq]; exact hmem
        rw [hb] at HE
        have he := HE.out
        obtain ⟨x, hx⟩ : ∃ x : ByteArray, x = ⟨W[k].toArray⟩ := ⟨_, rfl⟩
        rw [← hx] at he g1
        clear hno hb HE hx hmem
        go_wp2_with fail
        go_ret
        exact ⟨ret_b HF.out, rfl⟩
    · have HF : Hid (decide (v.data.toList ∈ W) = false) := by
        have h1 := hno.out
        rw [List.take_of_length_le (by omega)] at h1
        rw [Hid, decide_eq_false_iff_not]; exact h1
      clear hno
      go_wp2_with fail
      go_ret
      exact ⟨ret_b HF.out, rfl⟩


def Once (l : List At2) : Prop := ∀ i j, i < j → j < l.length → keyAt l i ≠ keyAt l j
theorem key_at {l : List At2} {i : Nat} (h : i < l.length) : keyAt l i = l[i].key := by
  simp only [keyAt, List.getD_eq_getElem?_getD, List.getElem?_eq_getElem h, Option.getD_some]
theorem toList_ne {a b : ByteArray} (h : a ≠ b) : (a.toList == b.toList) = false := by
  rw [beq_eq_false_iff_ne, toLb, toLb]
  intro e
  apply h
  cases a; cases b
  congr 1
  exact Array.toList_inj.1 e
theorem toList_eq' {a b : ByteArray} (h : (a.toList == b.toList) = true) : a = b := by
  rw [beq_iff_eq, toLb, toLb] at h
  cases a; cases b
  congr 1
  exact Array.toList_inj.1 h
theorem findA_self {l : List At2} (h : Once l) {i : Nat} (hi : i < l.length) : findA l l[i].key = some l[i] :=
  findA_some hi (fun j hj hji => toList_ne (by rw [← key_at hj, ← key_at hi]; exact h j i hji hi)) (by simp)

def agg5 (x : Nd) : Value := .agg #[.int .i64 x.kind, .string x.tag, .string x.text, .slice x.aa x.attrs.length x.ac, .int .i64 x.size]
def arr5 (x : Nd) : Array Value := #[.int .i64 x.kind, .string x.tag, .string x.text, .slice x.aa x.attrs.length x.ac, .int .i64 x.size]

set_option maxRecDepth 100000 in
set_option maxHeartbeats 4000000 in
theorem within_yes (x y : Nd) (hxy : y.attrs = x.attrs) (ho : Once x.attrs) (hl : x.attrs.length ≤ 1000) (hv : ∀ a ∈ x.attrs, a.val.size ≤ 100000) (w : World) (hx : ASl w w.heap.size x.aa x.attrs) (hy : ASl w w.heap.size y.aa y.attrs) :
    Calls Try.prog 56 #[.agg #[.int .i64 x.kind, .string x.tag, .string x.text, .slice x.aa x.attrs.length x.ac, .int .i64 x.size], .agg #[.int .i64 y.kind, .string y.tag, .string y.text, .slice y.aa y.attrs.length y.ac, .int .i64 y.size]] w (fun e w' => e = .returned (.bool true) ∧ Below w.heap.size w w') := by
  have HX := Lib.hid hx
  have HY := Lib.hid hy
  have HXY := Lib.hid hxy
  have HV := Lib.hid hv
  have HO := Lib.hid ho
  have hly : y.attrs.length ≤ 1000 := by rw [hxy]; exact hl
  obtain ⟨W0, hW0⟩ : ∃ W0, W0 = (w.alloc (.cells (arr5 x) 47)).alloc (.cells (arr5 y) 47) := ⟨_, rfl⟩
  have hs0 : w.heap.size + 2 ≤ W0.heap.size := by rw [hW0, World.size_alloc, World.size_alloc]; omega
  have hb0 : Below w.heap.size w W0 := by rw [hW0]; exact ((Below.refl _ _).alloc (Nat.le_refl _) _).alloc (by rw [World.size_alloc]; omega) _
  have HB0 := Lib.hid hb0
  have HQ : Hid (∀ W, Below W0.heap.size W0 W → W.cell? ⟨w.heap.size, 3, none⟩ = some (.slice x.aa x.attrs.length x.ac) ∧ W.cell? ⟨w.heap.size + 1, 0, none⟩ = some (.int .i64 y.kind) ∧ W.cell? ⟨w.heap.size + 1, 1, none⟩ = some (.string y.tag) ∧ W.cell? ⟨w.heap.size + 1, 2, none⟩ = some (.string y.text) ∧ W.cell? ⟨w.heap.size + 1, 3, none⟩ = some (.slice y.aa y.attrs.length y.ac) ∧ W.cell? ⟨w.heap.size + 1, 4, none⟩ = some (.int .i64 y.size)) := by
    intro W hb
    have q0 : W.heap[w.heap.size]? = some (.cells (arr5 x) 47 (0, 0)) := by
      rw [hb.block _ (by omega), hW0, Below.heap_alloc _ _ _ (by rw [World.size_alloc]; omega)]; exact heap_alloc_new w _
    have q1 : W.heap[w.heap.size + 1]? = some (.cells (arr5 y) 47 (0, 0)) := by
      rw [hb.block _ (by omega), hW0]
      have := heap_alloc_new (w.alloc (.cells (arr5 x) 47)) (.cells (arr5 y) 47)
      rwa [World.size_alloc] at this
    refine ⟨?_, ?_, ?_, ?_, ?_, ?_⟩
    · rw [cell_of_row W _ _ _ _ _ q0]; rfl
    all_goals (rw [cell_of_row W _ _ _ _ _ q1]; rfl)
  clear hx hy hxy hv ho hb0
  go_enter Try.func56, Try.ntmps56
  go_wp2_with fail
  simp only [arr5] at hW0
  rw [← hW0]
  clear hW0
  go_loopw [5] (fun v wr => ∃ i : Nat, i ≤ x.attrs.length ∧ v = .int .i64 i ∧ Below W0.heap.size W0 wr) (fun v _ => x.attrs.length - (intOf v).toNat)
  case atStart => exact ⟨0, Nat.zero_le _, rfl, Below.refl _ _⟩
  case round =>
    obtain ⟨i, hi, rfl, hb⟩ := hrel
    obtain ⟨wi, rfl⟩ : ∃ wi : World, wi = wr := ⟨_, rfl⟩
    obtain ⟨q3, r0, r1, r2, r3, r4⟩ := HQ.out wi hb
    have HB := Lib.hid hb
    have HBw := Lib.hid (HB0.out.trans (hb.mono (by omega)))
    have hw0 : W0.heap.size ≤ wi.heap.size := HB.out.size
    have hwi : w.heap.size + 2 ≤ wi.heap.size := Nat.le_trans hs0 hb.size
    clear hb
    by_cases hlt : i < x.attrs.length
    · have HXi := (HX.out.below HBw.out).more HBw.out.size
      obtain ⟨b, o, hao, hbB, hc⟩ := HXi.2.2.resolve_left (fun h0 => by rw [h0] at hlt; simp at hlt)
      obtain ⟨g1, g2⟩ := hc i hlt
      rw [List.getD_eq_getElem?_getD, List.getElem?_eq_getElem hlt, Option.getD_some] at g1 g2
      have HF : Hid (findA y.attrs x.attrs[i].key = some x.attrs[i]) := by rw [HXY.out]; exact findA_self HO.out hlt
      have hval := HV.out x.attrs[i] (List.getElem_mem hlt)
      obtain ⟨z, hz⟩ : ∃ z, z = x.attrs[i] := ⟨_, rfl⟩
      rw [← hz] at g1 g2 HF hval
      rw [hao] at q3
      have hba : Below wi.heap.size wi (wi.alloc (.cells #[.string z.key, .string z.val] 96)) := (Below.refl _ _).alloc (Nat.le_refl _) _
      have HBa := Lib.hid hba
      have HAt : Hid (∀ k, Calls Try.prog 84 #[.agg #[.int .i64 y.kind, .string y.tag, .string y.text, .slice y.aa y.attrs.length y.ac, .int .i64 y.size], .string k] (wi.alloc (.cells #[.string z.key, .string z.val] 96)) (AttrPost y.attrs k (wi.alloc (.cells #[.string z.key, .string z.val] 96)))) := fun k =>
        attr_any y k _ ((HY.out.below (HBw.out.trans (hba.mono (by omega)))).more (by have := hba.size; omega)) (by omega)
      have HZ : Hid (∀ W, Below (wi.heap.size + 1) (wi.alloc (.cells #[.string z.key, .string z.val] 96)) W → W.cell? ⟨wi.heap.size, 0, none⟩ = some (.string z.key) ∧ W.cell? ⟨wi.heap.size, 1, none⟩ = some (.string z.val)) := fun W hW => by
        have q : W.heap[wi.heap.size]? = some (.cells #[.string z.key, .string z.val] 96 (0, 0)) := by rw [hW.block _ (by omega)]; exact heap_alloc_new _ _
        exact ⟨by rw [cell_of_row W _ _ _ _ _ q]; rfl, by rw [cell_of_row W _ _ _ _ _ q]; rfl⟩
      obtain ⟨-, p0, p1, p2, p3, p4⟩ := HQ.out _ (HB.out.trans (hba.mono (by omega)))
      clear hc HXi hz hao hba r0 r1 r2 r3 r4
      cases he : (z.key.toList == ([99, 108, 97, 115, 115] : List UInt8))
      · go_wp2_with fail
        refine (HAt.out z.key).mono ?_
        rintro e w3 ⟨hp, hb3⟩
        rw [HF.out] at hp
        obtain rfl := hp
        rw [World.size_alloc] at hb3
        obtain ⟨y0, y1⟩ := HZ.out w3 hb3
        have HB3 := Lib.hid hb3
        clear hb3
        go_wp2_with fail
        go_roundw
        case rel => exact ⟨i + 1, by omega, by go_num, HB.out.trans ((HBa.out.mono (by omega)).trans (HB3.out.mono (by omega)))⟩
        case measure => simp [intOf]; omega
      · have HEk : Hid (z.key = ⟨#[99, 108, 97, 115, 115]⟩) := by
          rw [beq_iff_eq, toLb] at he
          show z.key = _
          cases hk : z.key with | mk d =>
          rw [hk] at he
          congr 1
          exact Array.toList_inj.1 (he.trans rfl)
        go_wp2_with fail
        refine (HAt.out _).mono ?_
        rintro e w3 ⟨hp, hb3⟩
        rw [← HEk.out, HF.out] at hp
        obtain rfl := hp
        rw [World.size_alloc] at hb3
        obtain ⟨y0, y1⟩ := HZ.out w3 hb3
        have hW3 : wi.heap.size + 1 ≤ w3.heap.size := by have := hb3.size; rw [World.size_alloc] at this; exact this
        have HB3 := Lib.hid hb3
        clear hb3 p0 p1 p2 p3 p4
        go_wp2_with fail
        refine (wordsC_any z.val (by omega) w3).mono ?_
        rintro e w4 ⟨a4, c4, rfl, hown4, hb4⟩
        have HO4 := Lib.hid hown4
        have HB4 := Lib.hid hb4
        have hw4 := hb4.size
        clear hown4 hb4 y0 y1
        go_wp2_with fail
        refine (wordsC_any z.val (by omega) w4).mono ?_
        rintro e w5 ⟨a5, c5, rfl, hown5, hb5⟩
        have HO5 := Lib.hid hown5
        have HB5 := Lib.hid hb5
        have hw5 := hb5.size
        have HWl : Hid ((words z.val.data.toList).length ≤ 200000) := by have h7 := words_count z.val.data.toList; have h8 : z.val.data.toList.length = z.val.size := rfl; unfold Hid; omega
        obtain ⟨Wd, hWd⟩ : ∃ Wd, Wd = words z.val.data.toList := ⟨_, rfl⟩
        rw [← hWd] at HO4 HO5 HWl ⊢
        have hwl := HWl.out
        have hr4 : RSl w5 w5.heap.size a4 (strs Wd) := by
          obtain ⟨_, _, hv, _, hr⟩ := RSl.own HO4.out
          cases hv; exact hr.up hb5
        have hr5 : RSl w5 w5.heap.size a5 (strs Wd) := by
          obtain ⟨_, _, hv, _, hr⟩ := RSl.own HO5.out
          cases hv; exact hr
        have HR4 := Lib.hid hr4
        have HIs := Lib.hid (fun v => isWord_any Wd (by omega) v a5 c5 w5 hr5)
        have HB05 : Hid (Below W0.heap.size W0 w5) := HB.out.trans ((HBa.out.mono hw0).trans ((HB3.out.mono (by omega)).trans ((HB4.out.mono (by omega)).trans (hb5.mono (by omega)))))
        clear hr4 hr5 hb5 hWd HWl
        go_wp2_with fail
        go_loopw [11] (fun v wr => ∃ j : Nat, j ≤ Wd.length ∧ v = .int .i64 j ∧ wr = w5) (fun v _ => Wd.length - (intOf v).toNat)
        case atStart => exact ⟨0, Nat.zero_le _, rfl, rfl⟩
        case round =>
          obtain ⟨j, hj, rfl, rfl⟩ := hrel
          by_cases hlj : j < Wd.length
          · obtain ⟨bq, oq, rfl, _, hcq⟩ := HR4.out.at_ (by rw [strs_length]; omega)
            have gq := hcq j (by rw [strs_length]; exact hlj)
            rw [strs_at hlj] at gq
            have HIn : Hid (decide (Wd[j] ∈ Wd) = true) := by rw [Hid, decide_eq_true_eq]; exact List.getElem_mem hlj
            obtain ⟨v, hv⟩ : ∃ v : ByteArray, v = ⟨Wd[j].toArray⟩ := ⟨_, rfl⟩
            have HV2 : Hid (v.data.toList = Wd[j]) := by rw [Hid, hv]
            rw [← hv] at gq
            clear hv hcq
            go_wp2_with fail
            refine (HIs.out v).mono ?_
            rintro e w6 ⟨rfl, rfl⟩
            rw [HV2.out, HIn.out]
            go_wp2_with fail
            go_roundw
            case rel => exact ⟨j + 1, by omega, by go_num, by trivial⟩
            case measure => simp [intOf]; omega
          · go_wp2_with fail
            go_roundw
            case rel => exact ⟨i + 1, by omega, by go_num, HB05.out⟩
            case measure => simp [intOf]; omega
    · go_wp2_with fail
      go_ret
      exact ⟨rfl, HBw.out⟩

/-- What the compare asks of a node. -/
structure NdW (x : Nd) : Prop where
  once : Once x.attrs
  few : x.attrs.length ≤ 1000
  vals : ∀ a ∈ x.attrs, a.val.size ≤ 100000

end Go.Proofs.Ytmhhfljbocbolaa

namespace Go.Proofs.Ytmhhfljbocbolaa
open Go.RowKit
set_option linter.unusedVariables false

set_option maxRecDepth 100000 in
set_option maxHeartbeats 8000000 in
theorem alike_yes (A Bs : List Nd) (h : A.map strip = Bs.map strip) (hg : ∀ x ∈ A, NdW x) (hl : A.length ≤ 100000) (a : Option Addr) (c : Nat) (a2 : Option Addr) (c2 : Nat) (w : World) (h1 : NSl w w.heap.size a A) (h2 : NSl w w.heap.size a2 Bs) :
    Calls Try.prog 34 #[.slice a A.length c, .slice a2 Bs.length c2] w (fun e w' => e = .returned (.bool true) ∧ Below w.heap.size w w') := by
  have hlen : Bs.length = A.length := by have := congrArg List.length h; simpa using this.symm
  rw [hlen]
  have H1 := Lib.hid h1
  have H2 := Lib.hid h2
  have HS := Lib.hid h
  have HG := Lib.hid hg
  have HLn := Lib.hid hlen
  clear h1 h2 h hg hlen
  go_enter Try.func34, Try.ntmps34
  go_wp2_with fail
  go_loopw [5] (fun v wr => ∃ i : Nat, i ≤ A.length ∧ v = .int .i64 i ∧ Below w.heap.size w wr) (fun v _ => A.length - (intOf v).toNat)
  case atStart => exact ⟨0, Nat.zero_le _, rfl, Below.refl _ _⟩
  case round =>
    obtain ⟨i, hi, rfl, hb⟩ := hrel
    obtain ⟨wi, rfl⟩ : ∃ wi : World, wi = wr := ⟨_, rfl⟩
    have HB := Lib.hid hb
    by_cases hlt : i < A.length
    · have hlt2 : i < Bs.length := by rw [HLn.out]; exact hlt
      obtain ⟨b1, o1, rfl, hbB1, hc1⟩ := H1.out.at_ (by omega)
      obtain ⟨b2, o2, rfl, hbB2, hc2⟩ := H2.out.at_ (by omega)
      have p1 : ∀ {j v}, w.cell? ⟨b1, j, none⟩ = some v → wi.cell? ⟨b1, j, none⟩ = some v := fun h => (hb.cell (p := ⟨b1, _, none⟩) hbB1).trans h
      have p2 : ∀ {j v}, w.cell? ⟨b2, j, none⟩ = some v → wi.cell? ⟨b2, j, none⟩ = some v := fun h => (hb.cell (p := ⟨b2, _, none⟩) hbB2).trans h
      obtain ⟨g1, g2, g3, g4, g5, hok1⟩ := hc1 i hlt
      obtain ⟨k1, k2, k3, k4, k5, hok2⟩ := hc2 i hlt2
      have hst : strip A[i] = strip Bs[i] := by
        have := congrArg (fun l => l[i]?) HS.out
        simpa [List.getElem?_eq_getElem hlt, List.getElem?_eq_getElem hlt2] using this
      have hw := HG.out A[i] (List.getElem_mem hlt)
      obtain ⟨x, hx⟩ : ∃ x, x = A[i] := ⟨_, rfl⟩
      obtain ⟨y, hy⟩ : ∃ y, y = Bs[i] := ⟨_, rfl⟩
      rw [← hx] at g1 g2 g3 g4 g5 hok1 hst hw
      rw [← hy] at k1 k2 k3 k4 k5 hok2 hst
      have e1 : y.kind = x.kind := show (strip y).kind = (strip x).kind by rw [hst]
      have e2 : y.tag = x.tag := show (strip y).tag = (strip x).tag by rw [hst]
      have e3 : y.text = x.text := show (strip y).text = (strip x).text by rw [hst]
      have e4 : y.attrs = x.attrs := show (strip y).attrs = (strip x).attrs by rw [hst]
      have e5 : y.size = x.size := show (strip y).size = (strip x).size by rw [hst]
      have HX := Lib.hid (hok1.attrs.below hb)
      have HY := Lib.hid (hok2.attrs.below hb)
      have HA : Hid (∀ W, Below wi.heap.size wi W → Calls Try.prog 56 #[.agg #[.int .i64 x.kind, .string x.tag, .string x.text, .slice x.aa x.attrs.length x.ac, .int .i64 x.size], .agg #[.int .i64 x.kind, .string x.tag, .string x.text, .slice y.aa x.attrs.length y.ac, .int .i64 x.size]] W (fun e w' => e = .returned (.bool true) ∧ Below W.heap.size W w')) := fun W hW => by
        have hwW := hb.trans (hW.mono hb.size)
        have := within_yes x y e4 hw.once hw.few hw.vals W ((hok1.attrs.below hwW).more hwW.size) ((hok2.attrs.below hwW).more hwW.size)
        rw [e1, e2, e3, e4, e5] at this
        exact this
      have HA2 : Hid (∀ W, Below wi.heap.size wi W → Calls Try.prog 56 #[.agg #[.int .i64 x.kind, .string x.tag, .string x.text, .slice y.aa x.attrs.length y.ac, .int .i64 x.size], .agg #[.int .i64 x.kind, .string x.tag, .string x.text, .slice x.aa x.attrs.length x.ac, .int .i64 x.size]] W (fun e w' => e = .returned (.bool true) ∧ Below W.heap.size W w')) := fun W hW => by
        have hwW := hb.trans (hW.mono hb.size)
        have := within_yes y x e4.symm (by rw [e4]; exact hw.once) (by rw [e4]; exact hw.few) (by rw [e4]; exact hw.vals) W ((hok2.attrs.below hwW).more hwW.size) ((hok1.attrs.below hwW).more hwW.size)
        rw [e1, e2, e3, e4, e5] at this
        exact this
      replace g1 := p1 g1
      replace g2 := p1 g2
      replace g3 := p1 g3
      replace g4 := p1 g4
      replace g5 := p1 g5
      replace k1 := p2 k1
      replace k2 := p2 k2
      replace k3 := p2 k3
      replace k4 := p2 k4
      replace k5 := p2 k5
      rw [e1] at k1
      rw [e2] at k2
      rw [e3] at k3
      rw [e4] at k4
      rw [e5] at k5
      have HC : Hid (∀ W, Below wi.heap.size wi W → W.cell? ⟨b1, o1 + i * 5, none⟩ = some (.int .i64 x.kind) ∧ W.cell? ⟨b1, o1 + i * 5 + 1, none⟩ = some (.string x.tag) ∧ W.cell? ⟨b1, o1 + i * 5 + 2, none⟩ = some (.string x.text) ∧ W.cell? ⟨b1, o1 + i * 5 + 3, none⟩ = some (.slice x.aa x.attrs.length x.ac) ∧ W.cell? ⟨b1, o1 + i * 5 + 4, none⟩ = some (.int .i64 x.size) ∧ W.cell? ⟨b2, o2 + i * 5, none⟩ = some (.int .i64 x.kind) ∧ W.cell? ⟨b2, o2 + i * 5 + 1, none⟩ = some (.string x.tag) ∧ W.cell? ⟨b2, o2 + i * 5 + 2, none⟩ = some (.string x.text) ∧ W.cell? ⟨b2, o2 + i * 5 + 3, none⟩ = some (.slice y.aa x.attrs.length y.ac) ∧ W.cell? ⟨b2, o2 + i * 5 + 4, none⟩ = some (.int .i64 x.size)) := fun W hW => by
        have q1 : ∀ {j v}, wi.cell? ⟨b1, j, none⟩ = some v → W.cell? ⟨b1, j, none⟩ = some v := fun h => (hW.cell (p := ⟨b1, _, none⟩) (by have := hb.size; show b1 < _; omega)).trans h
        have q2 : ∀ {j v}, wi.cell? ⟨b2, j, none⟩ = some v → W.cell? ⟨b2, j, none⟩ = some v := fun h => (hW.cell (p := ⟨b2, _, none⟩) (by have := hb.size; show b2 < _; omega)).trans h
        exact ⟨q1 g1, q1 g2, q1 g3, q1 g4, q1 g5, q2 k1, q2 k2, q2 k3, q2 k4, q2 k5⟩
      clear hc1 hc2 p1 p2 hst hw hx hy e1 e2 e3 e4 e5 hok1 hok2 hb
      go_wp2_with fail
      simp only [List.append_eq, List.cons_append, List.nil_append]
      refine wp_region_G ((fun (_ : Array Bool) w' => w'.cell? ⟨b1, o1 + i * 5, none⟩ = some (.int .i64 x.kind) ∧ w'.cell? ⟨b1, o1 + i * 5 + 1, none⟩ = some (.string x.tag) ∧ w'.cell? ⟨b1, o1 + i * 5 + 2, none⟩ = some (.string x.text) ∧ w'.cell? ⟨b1, o1 + i * 5 + 3, none⟩ = some (.slice x.aa x.attrs.length x.ac) ∧ w'.cell? ⟨b1, o1 + i * 5 + 4, none⟩ = some (.int .i64 x.size) ∧ w'.cell? ⟨b2, o2 + i * 5, none⟩ = some (.int .i64 x.kind) ∧ w'.cell? ⟨b2, o2 + i * 5 + 1, none⟩ = some (.string x.tag) ∧ w'.cell? ⟨b2, o2 + i * 5 + 2, none⟩ = some (.string x.text) ∧ w'.cell? ⟨b2, o2 + i * 5 + 3, none⟩ = some (.slice y.aa x.attrs.length y.ac) ∧ w'.cell? ⟨b2, o2 + i * 5 + 4, none⟩ = some (.int .i64 x.size))) (by kernel_rfl) ?_
      have hG0 : (fun (_ : Array Bool) w' => w'.cell? ⟨b1, o1 + i * 5, none⟩ = some (.int .i64 x.kind) ∧ w'.cell? ⟨b1, o1 + i * 5 + 1, none⟩ = some (.string x.tag) ∧ w'.cell? ⟨b1, o1 + i * 5 + 2, none⟩ = some (.string x.text) ∧ w'.cell? ⟨b1, o1 + i * 5 + 3, none⟩ = some (.slice x.aa x.attrs.length x.ac) ∧ w'.cell? ⟨b1, o1 + i * 5 + 4, none⟩ = some (.int .i64 x.size) ∧ w'.cell? ⟨b2, o2 + i * 5, none⟩ = some (.int .i64 x.kind) ∧ w'.cell? ⟨b2, o2 + i * 5 + 1, none⟩ = some (.string x.tag) ∧ w'.cell? ⟨b2, o2 + i * 5 + 2, none⟩ = some (.string x.text) ∧ w'.cell? ⟨b2, o2 + i * 5 + 3, none⟩ = some (.slice y.aa x.attrs.length y.ac) ∧ w'.cell? ⟨b2, o2 + i * 5 + 4, none⟩ = some (.int .i64 x.size)) (Array.replicate 74 false) wi.drew := ⟨g1, g2, g3, g4, g5, k1, k2, k3, k4, k5⟩
      refine wpAnyG_take0 (i := 0) (v := ?v0) (by simp only [List.getElem?_toArray, List.getElem?_cons_zero]; rfl) (by decide +kernel) (by decide +kernel) (by decide +kernel) (by intro _ _ _ h; exact h) (fun l w => Iff.rfl) (Or.inl ⟨by rfl, ?hy0⟩) hG0 (fun hG1 => ?rest0)
      case hy0 => intro W' _; go_simp <;> with_reducible rfl
      clear hG0
      simp only [Act.put, List.setIfInBounds_toArray]
      refine wpAnyG_take0 (i := 1) (v := ?v1) (by simp only [List.getElem?_toArray, List.getElem?_cons_succ, List.getElem?_cons_zero]; rfl) (by decide +kernel) (by decide +kernel) (by decide +kernel) (by intro _ _ _ h; exact h) (fun l w => Iff.rfl) (Or.inl ⟨by rfl, ?hy1⟩) hG1 (fun hG2 => ?rest1)
      case hy1 => intro W' _; go_simp <;> with_reducible rfl
      clear hG1
      simp only [Act.put]
      refine wpAnyG_take0 (i := 2) (v := ?v2) (by simp only [List.getElem?_toArray, List.getElem?_cons_succ, List.getElem?_cons_zero]; rfl) (by decide +kernel) (by decide +kernel) (by decide +kernel) (by intro _ _ _ h; exact h) (fun l w => Iff.rfl) (Or.inl ⟨by rfl, ?hy2⟩) hG2 (fun hG3 => ?rest2)
      case hy2 => intro W' _; go_simp <;> with_reducible rfl
      clear hG2
      simp only [Act.put]
      refine wpAnyG_take0 (i := 3) (v := ?v3) (by simp only [List.getElem?_toArray, List.getElem?_cons_succ, List.getElem?_cons_zero]; rfl) (by decide +kernel) (by decide +kernel) (by decide +kernel) (by intro _ _ _ h; exact h) (fun l w => Iff.rfl) (Or.inl ⟨by rfl, ?hy3⟩) hG3 (fun hG4 => ?rest3)
      case hy3 => intro W' _; go_simp <;> with_reducible rfl
      clear hG3
      simp only [Act.put]
      refine wpAnyG_take (i := 4) (f := 10) (v := ?v4) (by simp only [List.getElem?_toArray, List.getElem?_cons_succ, List.getElem?_cons_zero]; rfl) (by decide +kernel) (by decide +kernel) (by decide +kernel) (by decide +kernel) rfl rfl (by intro _ _ _ h; exact h) (fun _ _ h g => g) (fun l w => Iff.rfl) (Or.inl ⟨by rfl, ?hy4⟩) hG4 (fun hG5 => ?rest4)
      case hy4 => intro W' hS; (try dsimp only at hS); go_simp <;> with_reducible rfl
      clear hG4
      simp only [Act.put]
      refine wpAnyG_take0 (i := 5) (v := ?v5) (by simp only [List.getElem?_toArray, List.getElem?_cons_succ, List.getElem?_cons_zero]; rfl) (by decide +kernel) (by decide +kernel) (by decide +kernel) (by intro _ _ _ h; exact h) (fun l w => Iff.rfl) (Or.inl ⟨by rfl, ?hy5⟩) hG5 (fun hG6 => ?rest5)
      case hy5 => intro W' _; go_simp <;> with_reducible rfl
      clear hG5
      simp only [Act.put]
      refine wpAnyG_take0 (i := 6) (v := ?v6) (by simp only [List.getElem?_toArray, List.getElem?_cons_succ, List.getElem?_cons_zero]; rfl) (by decide +kernel) (by decide +kernel) (by decide +kernel) (by intro _ _ _ h; exact h) (fun l w => Iff.rfl) (Or.inl ⟨by rfl, ?hy6⟩) hG6 (fun hG7 => ?rest6)
      case hy6 => intro W' _; go_simp <;> with_reducible rfl
      clear hG6
      simp only [Act.put]
      refine wpAnyG_take0 (i := 7) (v := ?v7) (by simp only [List.getElem?_toArray, List.getElem?_cons_succ, List.getElem?_cons_zero]; rfl) (by decide +kernel) (by decide +kernel) (by decide +kernel) (by intro _ _ _ h; exact h) (fun l w => Iff.rfl) (Or.inl ⟨by rfl, ?hy7⟩) hG7 (fun hG8 => ?rest7)
      case hy7 => intro W' _; go_simp <;> with_reducible rfl
      clear hG7
      simp only [Act.put]
      refine wpAnyG_take0 (i := 8) (v := ?v8) (by simp only [List.getElem?_toArray, List.getElem?_cons_succ, List.getElem?_cons_zero]; rfl) (by decide +kernel) (by decide +kernel) (by decide +kernel) (by intro _ _ _ h; exact h) (fun l w => Iff.rfl) (Or.inl ⟨by rfl, ?hy8⟩) hG8 (fun hG9 => ?rest8)
      case hy8 => intro W' _; go_simp <;> with_reducible rfl
      clear hG8
      simp only [Act.put]
      refine wpAnyG_take (i := 9) (f := 10) (v := ?v9) (by simp only [List.getElem?_toArray, List.getElem?_cons_succ, List.getElem?_cons_zero]; rfl) (by decide +kernel) (by decide +kernel) (by decide +kernel) (by decide +kernel) rfl rfl (by intro _ _ _ h; exact h) (fun _ _ h g => g) (fun l w => Iff.rfl) (Or.inl ⟨by rfl, ?hy9⟩) hG9 (fun hG10 => ?rest9)
      case hy9 => intro W' hS; (try dsimp only at hS); go_simp <;> with_reducible rfl
      clear hG9
      simp only [Act.put]
      refine wpAnyG_take0 (i := 10) (v := ?v10) (by simp only [List.getElem?_toArray, List.getElem?_cons_succ, List.getElem?_cons_zero]; rfl) (by decide +kernel) (by decide +kernel) (by decide +kernel) (by intro _ _ _ h; exact h) (fun l w => Iff.rfl) (Or.inl ⟨by rfl, ?hy10⟩) hG10 (fun hG11 => ?rest10)
      case hy10 => intro W' _; go_simp <;> with_reducible rfl
      clear hG10
      simp only [Act.put]
      refine wpAnyG_take0 (i := 11) (v := ?v11) (by simp only [List.getElem?_toArray, List.getElem?_cons_succ, List.getElem?_cons_zero]; rfl) (by decide +kernel) (by decide +kernel) (by decide +kernel) (by intro _ _ _ h; exact h) (fun l w => Iff.rfl) (Or.inl ⟨by rfl, ?hy11⟩) hG11 (fun hG12 => ?rest11)
      case hy11 => intro W' _; go_simp <;> with_reducible rfl
      clear hG11
      simp only [Act.put]
      refine wpAnyG_take0 (i := 12) (v := ?v12) (by simp only [List.getElem?_toArray, List.getElem?_cons_succ, List.getElem?_cons_zero]; rfl) (by decide +kernel) (by decide +kernel) (by decide +kernel) (by intro _ _ _ h; exact h) (fun l w => Iff.rfl) (Or.inl ⟨by kernel_rfl, ?hy12⟩) hG12 (fun hG13 => ?rest12)
      case hy12 => intro W' _; go_simp <;> with_reducible rfl
      clear hG12
      simp only [Act.put]
      refine wpAnyG_take0 (i := 13) (v := ?v13) (by simp only [List.getElem?_toArray, List.getElem?_cons_succ, List.getElem?_cons_zero]; rfl) (by decide +kernel) (by decide +kernel) (by decide +kernel) (by intro _ _ _ h; exact h) (fun l w => Iff.rfl) (Or.inl ⟨by kernel_rfl, ?hy13⟩) hG13 (fun hG14 => ?rest13)
      case hy13 => intro W' _; go_simp <;> with_reducible rfl
      clear hG13
      simp only [Act.put]
      refine wpAnyG_take0 (i := 14) (v := ?v14) (by simp only [List.getElem?_toArray, List.getElem?_cons_succ, List.getElem?_cons_zero]; rfl) (by decide +kernel) (by decide +kernel) (by decide +kernel) (by intro _ _ _ h; exact h) (fun l w => Iff.rfl) (Or.inl ⟨by kernel_rfl, ?hy14⟩) hG14 (fun hG15 => ?rest14)
      case hy14 => intro W' _; go_simp <;> with_reducible rfl
      clear hG14
      simp only [Act.put]
      refine wpAnyG_take0 (i := 15) (v := ?v15) (by simp only [List.getElem?_toArray, List.getElem?_cons_succ, List.getElem?_cons_zero]; rfl) (by decide +kernel) (by decide +kernel) (by decide +kernel) (by intro _ _ _ h; exact h) (fun l w => Iff.rfl) (Or.inl ⟨by kernel_rfl, ?hy15⟩) hG15 (fun hG16 => ?rest15)
      case hy15 => intro W' _; go_simp <;> with_reducible rfl
      clear hG15
      simp only [Act.put]
      refine wpAnyG_take (i := 16) (f := 22) (v := ?v16) (by simp only [List.getElem?_toArray, List.getElem?_cons_succ, List.getElem?_cons_zero]; rfl) (by decide +kernel) (by decide +kernel) (by decide +kernel) (by decide +kernel) rfl rfl (by intro _ _ _ h; exact h) (fun _ _ h g => g) (fun l w => Iff.rfl) (Or.inl ⟨by kernel_rfl, ?hy16⟩) hG16 (fun hG17 => ?rest16)
      case hy16 => intro W' hS; (try dsimp only at hS); go_simp <;> with_reducible rfl
      clear hG16
      simp only [Act.put]
      refine wpAnyG_take0 (i := 17) (v := ?v17) (by simp only [List.getElem?_toArray, List.getElem?_cons_succ, List.getElem?_cons_zero]; rfl) (by decide +kernel) (by decide +kernel) (by decide +kernel) (by intro _ _ _ h; exact h) (fun l w => Iff.rfl) (Or.inl ⟨by kernel_rfl, ?hy17⟩) hG17 (fun hG18 => ?rest17)
      case hy17 => intro W' _; go_simp <;> with_reducible rfl
      clear hG17
      simp only [Act.put]
      refine wpAnyG_take0 (i := 18) (v := ?v18) (by simp only [List.getElem?_toArray, List.getElem?_cons_succ, List.getElem?_cons_zero]; rfl) (by decide +kernel) (by decide +kernel) (by decide +kernel) (by intro _ _ _ h; exact h) (fun l w => Iff.rfl) (Or.inl ⟨by kernel_rfl, ?hy18⟩) hG18 (fun hG19 => ?rest18)
      case hy18 => intro W' _; go_simp <;> with_reducible rfl
      clear hG18
      simp only [Act.put]
      refine wpAnyG_take0 (i := 19) (v := ?v19) (by simp only [List.getElem?_toArray, List.getElem?_cons_succ, List.getElem?_cons_zero]; rfl) (by decide +kernel) (by decide +kernel) (by decide +kernel) (by intro _ _ _ h; exact h) (fun l w => Iff.rfl) (Or.inl ⟨by kernel_rfl, ?hy19⟩) hG19 (fun hG20 => ?rest19)
      case hy19 => intro W' _; go_simp <;> with_reducible rfl
      clear hG19
      simp only [Act.put]
      refine wpAnyG_take0 (i := 20) (v := ?v20) (by simp only [List.getElem?_toArray, List.getElem?_cons_succ, List.getElem?_cons_zero]; rfl) (by decide +kernel) (by decide +kernel) (by decide +kernel) (by intro _ _ _ h; exact h) (fun l w => Iff.rfl) (Or.inl ⟨by kernel_rfl, ?hy20⟩) hG20 (fun hG21 => ?rest20)
      case hy20 => intro W' _; go_simp <;> with_reducible rfl
      clear hG20
      simp only [Act.put]
      refine wpAnyG_take (i := 21) (f := 22) (v := ?v21) (by simp only [List.getElem?_toArray, List.getElem?_cons_succ, List.getElem?_cons_zero]; rfl) (by decide +kernel) (by decide +kernel) (by decide +kernel) (by decide +kernel) rfl rfl (by intro _ _ _ h; exact h) (fun _ _ h g => g) (fun l w => Iff.rfl) (Or.inl ⟨by kernel_rfl, ?hy21⟩) hG21 (fun hG22 => ?rest21)
      case hy21 => intro W' hS; (try dsimp only at hS); go_simp <;> with_reducible rfl
      clear hG21
      simp only [Act.put]
      refine wpAnyG_take0 (i := 22) (v := ?v22) (by simp only [List.getElem?_toArray, List.getElem?_cons_succ, List.getElem?_cons_zero]; rfl) (by decide +kernel) (by decide +kernel) (by decide +kernel) (by intro _ _ _ h; exact h) (fun l w => Iff.rfl) (Or.inl ⟨by kernel_rfl, ?hy22⟩) hG22 (fun hG23 => ?rest22)
      case hy22 => intro W' _; go_simp <;> with_reducible rfl
      clear hG22
      simp only [Act.put]
      refine wpAnyG_take0 (i := 23) (v := ?v23) (by simp only [List.getElem?_toArray, List.getElem?_cons_succ, List.getElem?_cons_zero]; rfl) (by decide +kernel) (by decide +kernel) (by decide +kernel) (by intro _ _ _ h; exact h) (fun l w => Iff.rfl) (Or.inl ⟨by rfl, ?hy23⟩) hG23 (fun hG24 => ?rest23)
      case hy23 => intro W' _; go_simp <;> with_reducible rfl
      clear hG23
      simp only [Act.put]
      refine wpAnyG_take0 (i := 24) (v := ?v24) (by simp only [List.getElem?_toArray, List.getElem?_cons_succ, List.getElem?_cons_zero]; rfl) (by decide +kernel) (by decide +kernel) (by decide +kernel) (by intro _ _ _ h; exact h) (fun l w => Iff.rfl) (Or.inl ⟨by rfl, ?hy24⟩) hG24 (fun hG25 => ?rest24)
      case hy24 => intro W' _; go_simp <;> with_reducible rfl
      clear hG24
      simp only [Act.put]
      refine wpAnyG_take0 (i := 25) (v := ?v25) (by simp only [List.getElem?_toArray, List.getElem?_cons_succ, List.getElem?_cons_zero]; rfl) (by decide +kernel) (by decide +kernel) (by decide +kernel) (by intro _ _ _ h; exact h) (fun l w => Iff.rfl) (Or.inl ⟨by kernel_rfl, ?hy25⟩) hG25 (fun hG26 => ?rest25)
      case hy25 => intro W' _; go_simp <;> with_reducible rfl
      clear hG25
      simp only [Act.put]
      refine wpAnyG_take0 (i := 26) (v := ?v26) (by simp only [List.getElem?_toArray, List.getElem?_cons_succ, List.getElem?_cons_zero]; rfl) (by decide +kernel) (by decide +kernel) (by decide +kernel) (by intro _ _ _ h; exact h) (fun l w => Iff.rfl) (Or.inl ⟨by kernel_rfl, ?hy26⟩) hG26 (fun hG27 => ?rest26)
      case hy26 => intro W' _; go_simp <;> with_reducible rfl
      clear hG26
      simp only [Act.put]
      refine wpAnyG_take0 (i := 27) (v := ?v27) (by simp only [List.getElem?_toArray, List.getElem?_cons_succ, List.getElem?_cons_zero]; rfl) (by decide +kernel) (by decide +kernel) (by decide +kernel) (by intro _ _ _ h; exact h) (fun l w => Iff.rfl) (Or.inl ⟨by kernel_rfl, ?hy27⟩) hG27 (fun hG28 => ?rest27)
      case hy27 => intro W' _; go_simp <;> with_reducible rfl
      clear hG27
      simp only [Act.put]
      refine wpAnyG_take0 (i := 28) (v := ?v28) (by simp only [List.getElem?_toArray, List.getElem?_cons_succ, List.getElem?_cons_zero]; rfl) (by decide +kernel) (by decide +kernel) (by decide +kernel) (by intro _ _ _ h; exact h) (fun l w => Iff.rfl) (Or.inl ⟨by kernel_rfl, ?hy28⟩) hG28 (fun hG29 => ?rest28)
      case hy28 => intro W' _; go_simp <;> with_reducible rfl
      clear hG28
      simp only [Act.put]
      refine wpAnyG_take (i := 29) (f := 35) (v := ?v29) (by simp only [List.getElem?_toArray, List.getElem?_cons_succ, List.getElem?_cons_zero]; rfl) (by decide +kernel) (by decide +kernel) (by decide +kernel) (by decide +kernel) rfl rfl (by intro _ _ _ h; exact h) (fun _ _ h g => g) (fun l w => Iff.rfl) (Or.inl ⟨by kernel_rfl, ?hy29⟩) hG29 (fun hG30 => ?rest29)
      case hy29 => intro W' hS; (try dsimp only at hS); go_simp <;> with_reducible rfl
      clear hG29
      simp only [Act.put]
      refine wpAnyG_take0 (i := 30) (v := ?v30) (by simp only [List.getElem?_toArray, List.getElem?_cons_succ, List.getElem?_cons_zero]; rfl) (by decide +kernel) (by decide +kernel) (by decide +kernel) (by intro _ _ _ h; exact h) (fun l w => Iff.rfl) (Or.inl ⟨by kernel_rfl, ?hy30⟩) hG30 (fun hG31 => ?rest30)
      case hy30 => intro W' _; go_simp <;> with_reducible rfl
      clear hG30
      simp only [Act.put]
      refine wpAnyG_take0 (i := 31) (v := ?v31) (by simp only [List.getElem?_toArray, List.getElem?_cons_succ, List.getElem?_cons_zero]; rfl) (by decide +kernel) (by decide +kernel) (by decide +kernel) (by intro _ _ _ h; exact h) (fun l w => Iff.rfl) (Or.inl ⟨by kernel_rfl, ?hy31⟩) hG31 (fun hG32 => ?rest31)
      case hy31 => intro W' _; go_simp <;> with_reducible rfl
      clear hG31
      simp only [Act.put]
      refine wpAnyG_take0 (i := 32) (v := ?v32) (by simp only [List.getElem?_toArray, List.getElem?_cons_succ, List.getElem?_cons_zero]; rfl) (by decide +kernel) (by decide +kernel) (by decide +kernel) (by intro _ _ _ h; exact h) (fun l w => Iff.rfl) (Or.inl ⟨by kernel_rfl, ?hy32⟩) hG32 (fun hG33 => ?rest32)
      case hy32 => intro W' _; go_simp <;> with_reducible rfl
      clear hG32
      simp only [Act.put]
      refine wpAnyG_take0 (i := 33) (v := ?v33) (by simp only [List.getElem?_toArray, List.getElem?_cons_succ, List.getElem?_cons_zero]; rfl) (by decide +kernel) (by decide +kernel) (by decide +kernel) (by intro _ _ _ h; exact h) (fun l w => Iff.rfl) (Or.inl ⟨by kernel_rfl, ?hy33⟩) hG33 (fun hG34 => ?rest33)
      case hy33 => intro W' _; go_simp <;> with_reducible rfl
      clear hG33
      simp only [Act.put]
      refine wpAnyG_take (i := 34) (f := 35) (v := ?v34) (by simp only [List.getElem?_toArray, List.getElem?_cons_succ, List.getElem?_cons_zero]; rfl) (by decide +kernel) (by decide +kernel) (by decide +kernel) (by decide +kernel) rfl rfl (by intro _ _ _ h; exact h) (fun _ _ h g => g) (fun l w => Iff.rfl) (Or.inl ⟨by kernel_rfl, ?hy34⟩) hG34 (fun hG35 => ?rest34)
      case hy34 => intro W' hS; (try dsimp only at hS); go_simp <;> with_reducible rfl
      clear hG34
      simp only [Act.put]
      refine wpAnyG_take0 (i := 35) (v := ?v35) (by simp only [List.getElem?_toArray, List.getElem?_cons_succ, List.getElem?_cons_zero]; rfl) (by decide +kernel) (by decide +kernel) (by decide +kernel) (by intro _ _ _ h; exact h) (fun l w => Iff.rfl) (Or.inl ⟨by kernel_rfl, ?hy35⟩) hG35 (fun hG36 => ?rest35)
      case hy35 => intro W' _; go_simp <;> with_reducible rfl
      clear hG35
      simp only [Act.put]
      refine wpAnyG_take0 (i := 36) (v := ?v36) (by simp only [List.getElem?_toArray, List.getElem?_cons_succ, List.getElem?_cons_zero]; rfl) (by decide +kernel) (by decide +kernel) (by decide +kernel) (by intro _ _ _ h; exact h) (fun l w => Iff.rfl) (Or.inl ⟨by rfl, ?hy36⟩) hG36 (fun hG37 => ?rest36)
      case hy36 => intro W' _; go_simp <;> with_reducible rfl
      clear hG36
      simp only [Act.put]
      refine wpAnyG_take0 (i := 37) (v := ?v37) (by simp only [List.getElem?_toArray, List.getElem?_cons_succ, List.getElem?_cons_zero]; rfl) (by decide +kernel) (by decide +kernel) (by decide +kernel) (by intro _ _ _ h; exact h) (fun l w => Iff.rfl) (Or.inl ⟨by rfl, ?hy37⟩) hG37 (fun hG38 => ?rest37)
      case hy37 => intro W' _; go_simp <;> with_reducible rfl
      clear hG37
      simp only [Act.put]
      refine wpAnyG_take0 (i := 38) (v := ?v38) (by simp only [List.getElem?_toArray, List.getElem?_cons_succ, List.getElem?_cons_zero]; rfl) (by decide +kernel) (by decide +kernel) (by decide +kernel) (by intro _ _ _ h; exact h) (fun l w => Iff.rfl) (Or.inl ⟨by kernel_rfl, ?hy38⟩) hG38 (fun hG39 => ?rest38)
      case hy38 => intro W' _; go_simp <;> with_reducible rfl
      clear hG38
      simp only [Act.put]
      refine wpAnyG_take0 (i := 39) (v := ?v39) (by simp only [List.getElem?_toArray, List.getElem?_cons_succ, List.getElem?_cons_zero]; rfl) (by decide +kernel) (by decide +kernel) (by decide +kernel) (by intro _ _ _ h; exact h) (fun l w => Iff.rfl) (Or.inl ⟨by kernel_rfl, ?hy39⟩) hG39 (fun hG40 => ?rest39)
      case hy39 => intro W' _; go_simp <;> with_reducible rfl
      clear hG39
      simp only [Act.put]
      refine wpAnyG_take0 (i := 40) (v := ?v40) (by simp only [List.getElem?_toArray, List.getElem?_cons_succ, List.getElem?_cons_zero]; rfl) (by decide +kernel) (by decide +kernel) (by decide +kernel) (by intro _ _ _ h; exact h) (fun l w => Iff.rfl) (Or.inl ⟨by kernel_rfl, ?hy40⟩) hG40 (fun hG41 => ?rest40)
      case hy40 => intro W' _; go_simp <;> with_reducible rfl
      clear hG40
      simp only [Act.put]
      refine wpAnyG_take0 (i := 41) (v := ?v41) (by simp only [List.getElem?_toArray, List.getElem?_cons_succ, List.getElem?_cons_zero]; rfl) (by decide +kernel) (by decide +kernel) (by decide +kernel) (by intro _ _ _ h; exact h) (fun l w => Iff.rfl) (Or.inl ⟨by kernel_rfl, ?hy41⟩) hG41 (fun hG42 => ?rest41)
      case hy41 => intro W' _; go_simp <;> with_reducible rfl
      clear hG41
      simp only [Act.put]
      refine wpAnyG_take (i := 42) (f := 48) (v := ?v42) (by simp only [List.getElem?_toArray, List.getElem?_cons_succ, List.getElem?_cons_zero]; rfl) (by decide +kernel) (by decide +kernel) (by decide +kernel) (by decide +kernel) rfl rfl (by intro _ _ _ h; exact h) (fun _ _ h g => g) (fun l w => Iff.rfl) (Or.inl ⟨by kernel_rfl, ?hy42⟩) hG42 (fun hG43 => ?rest42)
      case hy42 => intro W' hS; (try dsimp only at hS); go_simp <;> with_reducible rfl
      clear hG42
      simp only [Act.put]
      refine wpAnyG_take0 (i := 43) (v := ?v43) (by simp only [List.getElem?_toArray, List.getElem?_cons_succ, List.getElem?_cons_zero]; rfl) (by decide +kernel) (by decide +kernel) (by decide +kernel) (by intro _ _ _ h; exact h) (fun l w => Iff.rfl) (Or.inl ⟨by kernel_rfl, ?hy43⟩) hG43 (fun hG44 => ?rest43)
      case hy43 => intro W' _; go_simp <;> with_reducible rfl
      clear hG43
      simp only [Act.put]
      refine wpAnyG_take0 (i := 44) (v := ?v44) (by simp only [List.getElem?_toArray, List.getElem?_cons_succ, List.getElem?_cons_zero]; rfl) (by decide +kernel) (by decide +kernel) (by decide +kernel) (by intro _ _ _ h; exact h) (fun l w => Iff.rfl) (Or.inl ⟨by kernel_rfl, ?hy44⟩) hG44 (fun hG45 => ?rest44)
      case hy44 => intro W' _; go_simp <;> with_reducible rfl
      clear hG44
      simp only [Act.put]
      refine wpAnyG_take0 (i := 45) (v := ?v45) (by simp only [List.getElem?_toArray, List.getElem?_cons_succ, List.getElem?_cons_zero]; rfl) (by decide +kernel) (by decide +kernel) (by decide +kernel) (by intro _ _ _ h; exact h) (fun l w => Iff.rfl) (Or.inl ⟨by kernel_rfl, ?hy45⟩) hG45 (fun hG46 => ?rest45)
      case hy45 => intro W' _; go_simp <;> with_reducible rfl
      clear hG45
      simp only [Act.put]
      refine wpAnyG_take0 (i := 46) (v := ?v46) (by simp only [List.getElem?_toArray, List.getElem?_cons_succ, List.getElem?_cons_zero]; rfl) (by decide +kernel) (by decide +kernel) (by decide +kernel) (by intro _ _ _ h; exact h) (fun l w => Iff.rfl) (Or.inl ⟨by kernel_rfl, ?hy46⟩) hG46 (fun hG47 => ?rest46)
      case hy46 => intro W' _; go_simp <;> with_reducible rfl
      clear hG46
      simp only [Act.put]
      refine wpAnyG_take (i := 47) (f := 48) (v := ?v47) (by simp only [List.getElem?_toArray, List.getElem?_cons_succ, List.getElem?_cons_zero]; rfl) (by decide +kernel) (by decide +kernel) (by decide +kernel) (by decide +kernel) rfl rfl (by intro _ _ _ h; exact h) (fun _ _ h g => g) (fun l w => Iff.rfl) (Or.inl ⟨by kernel_rfl, ?hy47⟩) hG47 (fun hG48 => ?rest47)
      case hy47 => intro W' hS; (try dsimp only at hS); go_simp <;> with_reducible rfl
      clear hG47
      simp only [Act.put]
      refine wpAnyG_take0 (i := 48) (v := ?v48) (by simp only [List.getElem?_toArray, List.getElem?_cons_succ, List.getElem?_cons_zero]; rfl) (by decide +kernel) (by decide +kernel) (by decide +kernel) (by intro _ _ _ h; exact h) (fun l w => Iff.rfl) (Or.inl ⟨by kernel_rfl, ?hy48⟩) hG48 (fun hG49 => ?rest48)
      case hy48 => intro W' _; go_simp <;> with_reducible rfl
      clear hG48
      simp only [Act.put]
      refine wpAnyG_take0 (i := 49) (v := ?v49) (by simp only [List.getElem?_toArray, List.getElem?_cons_succ, List.getElem?_cons_zero]; rfl) (by decide +kernel) (by decide +kernel) (by decide +kernel) (by intro _ _ _ h; exact h) (fun l w => Iff.rfl) (Or.inl ⟨by rfl, ?hy49⟩) hG49 (fun hG50 => ?rest49)
      case hy49 => intro W' _; go_simp <;> with_reducible rfl
      clear hG49
      simp only [Act.put]
      refine wpAnyG_take0 (i := 50) (v := ?v50) (by simp only [List.getElem?_toArray, List.getElem?_cons_succ, List.getElem?_cons_zero]; rfl) (by decide +kernel) (by decide +kernel) (by decide +kernel) (by intro _ _ _ h; exact h) (fun l w => Iff.rfl) (Or.inl ⟨by rfl, ?hy50⟩) hG50 (fun hG51 => ?rest50)
      case hy50 => intro W' _; go_simp <;> with_reducible rfl
      clear hG50
      simp only [Act.put]
      refine wpAnyG_take0 (i := 51) (v := ?v51) (by simp only [List.getElem?_toArray, List.getElem?_cons_succ, List.getElem?_cons_zero]; rfl) (by decide +kernel) (by decide +kernel) (by decide +kernel) (by intro _ _ _ h; exact h) (fun l w => Iff.rfl) (Or.inl ⟨by kernel_rfl, ?hy51⟩) hG51 (fun hG52 => ?rest51)
      case hy51 => intro W' _; go_simp <;> with_reducible rfl
      clear hG51
      simp only [Act.put]
      refine wpAnyG_take0 (i := 52) (v := ?v52) (by simp only [List.getElem?_toArray, List.getElem?_cons_succ, List.getElem?_cons_zero]; rfl) (by decide +kernel) (by decide +kernel) (by decide +kernel) (by intro _ _ _ h; exact h) (fun l w => Iff.rfl) (Or.inl ⟨by kernel_rfl, ?hy52⟩) hG52 (fun hG53 => ?rest52)
      case hy52 => intro W' _; go_simp <;> with_reducible rfl
      clear hG52
      simp only [Act.put]
      refine wpAnyG_take0 (i := 53) (v := ?v53) (by simp only [List.getElem?_toArray, List.getElem?_cons_succ, List.getElem?_cons_zero]; rfl) (by decide +kernel) (by decide +kernel) (by decide +kernel) (by intro _ _ _ h; exact h) (fun l w => Iff.rfl) (Or.inl ⟨by kernel_rfl, ?hy53⟩) hG53 (fun hG54 => ?rest53)
      case hy53 => intro W' _; go_simp <;> with_reducible rfl
      clear hG53
      simp only [Act.put]
      refine wpAnyG_take (i := 54) (f := 59) (v := ?v54) (by simp only [List.getElem?_toArray, List.getElem?_cons_succ, List.getElem?_cons_zero]; rfl) (by decide +kernel) (by decide +kernel) (by decide +kernel) (by decide +kernel) rfl rfl (by intro _ _ _ h; exact h) (fun _ _ h g => g) (fun l w => Iff.rfl) (Or.inl ⟨by kernel_rfl, ?hy54⟩) hG54 (fun hG55 => ?rest54)
      case hy54 => intro W' hS; (try dsimp only at hS); go_simp <;> with_reducible rfl
      clear hG54
      simp only [Act.put]
      refine wpAnyG_take0 (i := 55) (v := ?v55) (by simp only [List.getElem?_toArray, List.getElem?_cons_succ, List.getElem?_cons_zero]; rfl) (by decide +kernel) (by decide +kernel) (by decide +kernel) (by intro _ _ _ h; exact h) (fun l w => Iff.rfl) (Or.inl ⟨by kernel_rfl, ?hy55⟩) hG55 (fun hG56 => ?rest55)
      case hy55 => intro W' _; go_simp <;> with_reducible rfl
      clear hG55
      simp only [Act.put]
      refine wpAnyG_take0 (i := 56) (v := ?v56) (by simp only [List.getElem?_toArray, List.getElem?_cons_succ, List.getElem?_cons_zero]; rfl) (by decide +kernel) (by decide +kernel) (by decide +kernel) (by intro _ _ _ h; exact h) (fun l w => Iff.rfl) (Or.inl ⟨by kernel_rfl, ?hy56⟩) hG56 (fun hG57 => ?rest56)
      case hy56 => intro W' _; go_simp <;> with_reducible rfl
      clear hG56
      simp only [Act.put]
      refine wpAnyG_take0 (i := 57) (v := ?v57) (by simp only [List.getElem?_toArray, List.getElem?_cons_succ, List.getElem?_cons_zero]; rfl) (by decide +kernel) (by decide +kernel) (by decide +kernel) (by intro _ _ _ h; exact h) (fun l w => Iff.rfl) (Or.inl ⟨by kernel_rfl, ?hy57⟩) hG57 (fun hG58 => ?rest57)
      case hy57 => intro W' _; go_simp <;> with_reducible rfl
      clear hG57
      simp only [Act.put]
      refine wpAnyG_take (i := 58) (f := 59) (v := ?v58) (by simp only [List.getElem?_toArray, List.getElem?_cons_succ, List.getElem?_cons_zero]; rfl) (by decide +kernel) (by decide +kernel) (by decide +kernel) (by decide +kernel) rfl rfl (by intro _ _ _ h; exact h) (fun _ _ h g => g) (fun l w => Iff.rfl) (Or.inl ⟨by kernel_rfl, ?hy58⟩) hG58 (fun hG59 => ?rest58)
      case hy58 => intro W' hS; (try dsimp only at hS); go_simp <;> with_reducible rfl
      clear hG58
      simp only [Act.put]
      refine wpAnyG_one (i := 59) (by decide +kernel) rfl (fun K' hK => ?_)
      go_simp
      go_at_call 56
      refine (HA.out _ (Below.refl _ _).drew).mono ?_
      rintro e w3 ⟨rfl, hb3⟩
      have hb3' : Below wi.heap.size wi w3 := (Below.refl _ _).drew.trans hb3
      have HB3 := Lib.hid hb3'
      refine hK.out _ _ (HC.out w3 hb3') (fun hG100 => ?_); clear hK K' hb3 hb3' hG59
      refine wpAnyG_take0 (i := 60) (v := ?v60) (by simp only [List.getElem?_toArray, List.getElem?_cons_succ, List.getElem?_cons_zero]; rfl) (by decide +kernel) (by decide +kernel) (by decide +kernel) (by intro _ _ _ h; exact h) (fun l w => Iff.rfl) (Or.inl ⟨by kernel_rfl, ?hy60⟩) hG100 (fun hG101 => ?rest60)
      case hy60 => intro W' _; go_simp <;> with_reducible rfl
      clear hG100
      simp only [Act.put]
      refine wpAnyG_take0 (i := 61) (v := ?v61) (by simp only [List.getElem?_toArray, List.getElem?_cons_succ, List.getElem?_cons_zero]; rfl) (by decide +kernel) (by decide +kernel) (by decide +kernel) (by intro _ _ _ h; exact h) (fun l w => Iff.rfl) (Or.inl ⟨by rfl, ?hy61⟩) hG101 (fun hG102 => ?rest61)
      case hy61 => intro W' _; go_simp <;> with_reducible rfl
      clear hG101
      simp only [Act.put]
      refine wpAnyG_take0 (i := 62) (v := ?v62) (by simp only [List.getElem?_toArray, List.getElem?_cons_succ, List.getElem?_cons_zero]; rfl) (by decide +kernel) (by decide +kernel) (by decide +kernel) (by intro _ _ _ h; exact h) (fun l w => Iff.rfl) (Or.inl ⟨by rfl, ?hy62⟩) hG102 (fun hG103 => ?rest62)
      case hy62 => intro W' _; go_simp <;> with_reducible rfl
      clear hG102
      simp only [Act.put]
      refine wpAnyG_take0 (i := 63) (v := ?v63) (by simp only [List.getElem?_toArray, List.getElem?_cons_succ, List.getElem?_cons_zero]; rfl) (by decide +kernel) (by decide +kernel) (by decide +kernel) (by intro _ _ _ h; exact h) (fun l w => Iff.rfl) (Or.inl ⟨by kernel_rfl, ?hy63⟩) hG103 (fun hG104 => ?rest63)
      case hy63 => intro W' _; go_simp <;> with_reducible rfl
      clear hG103
      simp only [Act.put]
      refine wpAnyG_take0 (i := 64) (v := ?v64) (by simp only [List.getElem?_toArray, List.getElem?_cons_succ, List.getElem?_cons_zero]; rfl) (by decide +kernel) (by decide +kernel) (by decide +kernel) (by intro _ _ _ h; exact h) (fun l w => Iff.rfl) (Or.inl ⟨by kernel_rfl, ?hy64⟩) hG104 (fun hG105 => ?rest64)
      case hy64 => intro W' _; go_simp <;> with_reducible rfl
      clear hG104
      simp only [Act.put]
      refine wpAnyG_take0 (i := 65) (v := ?v65) (by simp only [List.getElem?_toArray, List.getElem?_cons_succ, List.getElem?_cons_zero]; rfl) (by decide +kernel) (by decide +kernel) (by decide +kernel) (by intro _ _ _ h; exact h) (fun l w => Iff.rfl) (Or.inl ⟨by kernel_rfl, ?hy65⟩) hG105 (fun hG106 => ?rest65)
      case hy65 => intro W' _; go_simp <;> with_reducible rfl
      clear hG105
      simp only [Act.put]
      refine wpAnyG_take (i := 66) (f := 71) (v := ?v66) (by simp only [List.getElem?_toArray, List.getElem?_cons_succ, List.getElem?_cons_zero]; rfl) (by decide +kernel) (by decide +kernel) (by decide +kernel) (by decide +kernel) rfl rfl (by intro _ _ _ h; exact h) (fun _ _ h g => g) (fun l w => Iff.rfl) (Or.inl ⟨by kernel_rfl, ?hy66⟩) hG106 (fun hG107 => ?rest66)
      case hy66 => intro W' hS; (try dsimp only at hS); go_simp <;> with_reducible rfl
      clear hG106
      simp only [Act.put]
      refine wpAnyG_take0 (i := 67) (v := ?v67) (by simp only [List.getElem?_toArray, List.getElem?_cons_succ, List.getElem?_cons_zero]; rfl) (by decide +kernel) (by decide +kernel) (by decide +kernel) (by intro _ _ _ h; exact h) (fun l w => Iff.rfl) (Or.inl ⟨by kernel_rfl, ?hy67⟩) hG107 (fun hG108 => ?rest67)
      case hy67 => intro W' _; go_simp <;> with_reducible rfl
      clear hG107
      simp only [Act.put]
      refine wpAnyG_take0 (i := 68) (v := ?v68) (by simp only [List.getElem?_toArray, List.getElem?_cons_succ, List.getElem?_cons_zero]; rfl) (by decide +kernel) (by decide +kernel) (by decide +kernel) (by intro _ _ _ h; exact h) (fun l w => Iff.rfl) (Or.inl ⟨by kernel_rfl, ?hy68⟩) hG108 (fun hG109 => ?rest68)
      case hy68 => intro W' _; go_simp <;> with_reducible rfl
      clear hG108
      simp only [Act.put]
      refine wpAnyG_take0 (i := 69) (v := ?v69) (by simp only [List.getElem?_toArray, List.getElem?_cons_succ, List.getElem?_cons_zero]; rfl) (by decide +kernel) (by decide +kernel) (by decide +kernel) (by intro _ _ _ h; exact h) (fun l w => Iff.rfl) (Or.inl ⟨by kernel_rfl, ?hy69⟩) hG109 (fun hG110 => ?rest69)
      case hy69 => intro W' _; go_simp <;> with_reducible rfl
      clear hG109
      simp only [Act.put]
      refine wpAnyG_take (i := 70) (f := 71) (v := ?v70) (by simp only [List.getElem?_toArray, List.getElem?_cons_succ, List.getElem?_cons_zero]; rfl) (by decide +kernel) (by decide +kernel) (by decide +kernel) (by decide +kernel) rfl rfl (by intro _ _ _ h; exact h) (fun _ _ h g => g) (fun l w => Iff.rfl) (Or.inl ⟨by kernel_rfl, ?hy70⟩) hG110 (fun hG111 => ?rest70)
      case hy70 => intro W' hS; (try dsimp only at hS); go_simp <;> with_reducible rfl
      clear hG110
      simp only [Act.put]
      refine wpAnyG_one (i := 71) (by decide +kernel) rfl (fun K' hK => ?_)
      go_simp
      go_at_call 56
      refine (HA2.out w3 HB3.out).mono ?_
      rintro e w4 ⟨rfl, hb4⟩
      have HB4 := Lib.hid (bnext HB3.out hb4)
      refine hK.out _ _ (HC.out w4 HB4.out) (fun hG200 => ?_); clear hK K' hb4 hG111
      refine wpAnyG_take0 (i := 72) (v := ?v72) (by simp only [List.getElem?_toArray, List.getElem?_cons_succ, List.getElem?_cons_zero]; rfl) (by decide +kernel) (by decide +kernel) (by decide +kernel) (by intro _ _ _ h; exact h) (fun l w => Iff.rfl) (Or.inl ⟨by kernel_rfl, ?hy72⟩) hG200 (fun hG201 => ?rest72)
      case hy72 => intro W' _; go_simp <;> with_reducible rfl
      clear hG200
      simp only [Act.put]
      refine wpAnyG_take0 (i := 73) (v := ?v73) (by simp only [List.getElem?_toArray, List.getElem?_cons_succ, List.getElem?_cons_zero]; rfl) (by decide +kernel) (by decide +kernel) (by decide +kernel) (by intro _ _ _ h; exact h) (fun l w => Iff.rfl) (Or.inl ⟨by rfl, ?hy73⟩) hG201 (fun hG202 => ?rest73)
      case hy73 => intro W' _; go_simp <;> with_reducible rfl
      clear hG201
      simp only [Act.put]
      refine wpAnyG_done (by decide +kernel) ?_ _
      go_wp2_with fail
      go_roundw
      case rel => exact ⟨i + 1, by omega, by go_num, HB.out.trans (HB4.out.mono HB.out.size)⟩
      case measure => simp [intOf]; omega
    · go_wp2_with fail
      go_ret
      exact ⟨rfl, HB.out⟩
end Go.Proofs.Ytmhhfljbocbolaa


namespace Go.Proofs.Ytmhhfljbocbolaa
open Go.RowKit
set_option linter.unusedVariables false

def stepArr (op : Int) (oa : Option Addr) (on oc : Nat) (wa : Option Addr) (wn wc : Nat) : Array Value := #[.int .i64 op, .slice oa on oc, .slice wa wn wc, .string ⟨#[]⟩, .string ⟨#[]⟩, .slice none 0 0]

set_option maxRecDepth 100000 in
set_option maxHeartbeats 2000000 in
theorem step7_any (op : Int) (oa : Option Addr) (on oc : Nat) (wa : Option Addr) (wn wc : Nat) (w : World) :
    Calls Try.prog 13 #[.int .i64 op, .slice oa on oc, .slice wa wn wc] w (fun e w' => e = .returned (.agg #[.int .i64 op, .slice oa on oc, .slice wa wn wc, .string ⟨#[]⟩, .string ⟨#[]⟩, .slice none 0 0]) ∧ Below w.heap.size w w') := by
  go_enter Try.func13, Try.ntmps13
  go_wp2_with fail
  (try simp only [Exit.inBlock, Exit.then])
  refine bodyPost_ret (results_cell_row rfl _ _ w.heap.size _ _ _ _ rfl (heap_alloc_new _ _) Try.underlying27 rfl (by kernel_rfl)) rfl ?_
  exact ⟨rfl, (Below.refl _ _).alloc (Nat.le_refl _) _⟩

/-- What the reference's Changed says of a step, in every later world. -/
def ChC (t : List Nd) (ad : Option Addr) (c : Nat) (G : Fo → (Nat → Prop) → (Nat → Nat) → (Nat → Nd) → Prop) (op : Int) (oa : Option Addr) (on oc : Nat) (wa : Option Addr) (wn wc : Nat) (w : World) : Prop :=
  ∀ W sb, Below w.heap.size w W → W.heap[sb]? = some (.cells #[.int .i64 op, .slice oa on oc, .slice wa wn wc, .string ⟨#[]⟩, .string ⟨#[]⟩, .slice none 0 0] 27 (0, 0)) →
    Calls Try.prog 30 #[.slice ad t.length c, .slice (some ⟨sb, 0, none⟩) 1 1] W (ChangedPost t G W)

theorem ChC.up {t : List Nd} {ad : Option Addr} {c : Nat} {G : Fo → (Nat → Prop) → (Nat → Nat) → (Nat → Nd) → Prop} {op : Int} {oa : Option Addr} {on oc : Nat} {wa : Option Addr} {wn wc : Nat} {w w' : World} (h : ChC t ad c G op oa on oc wa wn wc w) (hb : Below w.heap.size w w') : ChC t ad c G op oa on oc wa wn wc w' :=
  fun W sb hW hs => h W sb (bnext hb hW) hs

set_option maxRecDepth 100000 in
set_option maxHeartbeats 2000000 in
theorem sure7_any {t : List Nd} {ad : Option Addr} {c : Nat} {G : Fo → (Nat → Prop) → (Nat → Nat) → (Nat → Nd) → Prop} {op : Int} {oa : Option Addr} {on oc : Nat} {wa : Option Addr} {wn wc : Nat} {w : World} (h : ChC t ad c G op oa on oc wa wn wc w) :
    Calls Try.prog 14 #[.slice ad t.length c, .agg #[.int .i64 op, .slice oa on oc, .slice wa wn wc, .string ⟨#[]⟩, .string ⟨#[]⟩, .slice none 0 0]] w (fun e w' => ∃ b, e = .returned (.bool b) ∧ (b = true → RightP t ∧ ∃ F S h nd, G F S h nd) ∧ Below w.heap.size w w') := by
  have H := Lib.hid h
  clear h
  have hb : Below w.heap.size w ((w.alloc (.cells #[.int .i64 op, .slice oa on oc, .slice wa wn wc, .string ⟨#[]⟩, .string ⟨#[]⟩, .slice none 0 0] 27)).alloc (.cells #[.int .i64 op, .slice oa on oc, .slice wa wn wc, .string ⟨#[]⟩, .string ⟨#[]⟩, .slice none 0 0] 27)) := ((Below.refl _ _).alloc (Nat.le_refl _) _).alloc (by rw [World.size_alloc]; omega) _
  have HB := Lib.hid hb
  have hn := heap_alloc_new (w.alloc (.cells #[.int .i64 op, .slice oa on oc, .slice wa wn wc, .string ⟨#[]⟩, .string ⟨#[]⟩, .slice none 0 0] 27)) (.cells #[.int .i64 op, .slice oa on oc, .slice wa wn wc, .string ⟨#[]⟩, .string ⟨#[]⟩, .slice none 0 0] 27)
  rw [World.size_alloc] at hn
  have HC := Lib.hid (H.out _ (w.heap.size + 1) hb hn)
  clear hb hn
  go_enter Try.func14, Try.ntmps14
  go_wp2_with fail
  refine HC.out.mono ?_
  rintro e w1 ⟨a, m, c1, a2, m2, c2, b, rfl, hy, hb1⟩
  have HY := Lib.hid hy
  have HB1 := Lib.hid (bnext HB.out hb1)
  clear hy hb1
  go_wp2_with fail
  go_ret
  exact ⟨b, rfl, fun e => ⟨(HY.out e).1, by obtain ⟨_, F, S, h, nd, hg, _⟩ := HY.out e; exact ⟨F, S, h, nd, hg⟩⟩, HB1.out⟩

theorem sameL_yes (L : List Int) (hL : L.length ≤ 100000) (a : Option Addr) (n c : Nat) (a2 : Option Addr) (n2 c2 : Nat) (w : World) (h1 : RSl w w.heap.size a (ivs L)) (h2 : RSl w w.heap.size a2 (ivs L)) (e1 : n = L.length) (e2 : n2 = L.length) :
    Calls Try.prog 21 #[.slice a n c, .slice a2 n2 c2] w fun e w' => e = .returned (.bool true) ∧ Below w.heap.size w w' := by
  subst e1 e2
  refine (sameList_any a c L a2 c2 L (by omega) (by omega) w h1 h2).mono ?_
  rintro e w' ⟨q, rfl, rfl⟩
  exact ⟨by simp, below_drewN (Below.refl _ _) q⟩

theorem NSl.up2 {w w' : World} {a : Option Addr} {t : List Nd} (h : NSl w w.heap.size a t) (hb : Below w.heap.size w w') : NSl w' w'.heap.size a t := h.up hb

/-- The compare's demands, of what is listed. -/
theorem ndW_of {F : Fo} {h : Nat → Nat} {nd : Nat → Nd} {A : List Nd} (he : A.map strip = outL F h nd 0) (hw : ∀ y, y ∈ F.all h 0 → NdW (nd y)) : ∀ x ∈ A, NdW x := by
  intro x hx
  have h1 : strip x ∈ A.map strip := List.mem_map_of_mem hx
  rw [he] at h1
  obtain ⟨y, hy, e1⟩ := List.mem_map.1 h1
  have k : (nd y).attrs = x.attrs := show (strip { nd y with size := ((F.all h y).length : Int) }).attrs = (strip x).attrs by rw [← e1]
  obtain ⟨a, b, c⟩ := hw y hy
  rw [k] at a b c
  exact ⟨a, b, c⟩

/-- The step's own forest is one. -/
def Det (n : Nat) (G : Fo → (Nat → Prop) → (Nat → Nat) → (Nat → Nd) → Prop) (F : Fo) (h : Nat → Nat) (nd : Nat → Nd) : Prop :=
  ∀ F' S' h' nd', G F' S' h' nd' → outL F' h' nd' 0 = outL F h nd 0 ∧ placeL F' h' n = placeL F h n

set_option maxRecDepth 100000 in
set_option maxHeartbeats 4000000 in
theorem as7_any {t : List Nd} {ad : Option Addr} {c : Nat} {G : Fo → (Nat → Prop) → (Nat → Nat) → (Nat → Nd) → Prop} {op : Int} {oa : Option Addr} {on oc : Nat} {wa : Option Addr} {wn wc : Nat} {w : World} (hC : ChC t ad c G op oa on oc wa wn wc w)
    {F : Fo} {h : Nat → Nat} {nd : Nat → Nd} (hd : Det t.length G F h nd) (hw : ∀ y, y ∈ F.all h 0 → NdW (nd y)) (hl : (F.all h 0).length ≤ 100000) (hn : t.length ≤ 200) (a : Option Addr) (m c1 : Nat) (a2 : Option Addr) (m2 c2 : Nat) (hO : OutP F h nd t.length a m a2 m2 w) :
    Calls Try.prog 16 #[.slice ad t.length c, .agg #[.int .i64 op, .slice oa on oc, .slice wa wn wc, .string ⟨#[]⟩, .string ⟨#[]⟩, .slice none 0 0], .slice a m c1, .slice a2 m2 c2, .bool true] w (fun e w' => e = .returned (.bool true) ∧ Below w.heap.size w w') := by
  have hb : Below w.heap.size w ((w.alloc (.cells #[.int .i64 op, .slice oa on oc, .slice wa wn wc, .string ⟨#[]⟩, .string ⟨#[]⟩, .slice none 0 0] 27)).alloc (.cells #[.int .i64 op, .slice oa on oc, .slice wa wn wc, .string ⟨#[]⟩, .string ⟨#[]⟩, .slice none 0 0] 27)) := ((Below.refl _ _).alloc (Nat.le_refl _) _).alloc (by rw [World.size_alloc]; omega) _
  have HB := Lib.hid hb
  have hnw := heap_alloc_new (w.alloc (.cells #[.int .i64 op, .slice oa on oc, .slice wa wn wc, .string ⟨#[]⟩, .string ⟨#[]⟩, .slice none 0 0] 27)) (.cells #[.int .i64 op, .slice oa on oc, .slice wa wn wc, .string ⟨#[]⟩, .string ⟨#[]⟩, .slice none 0 0] 27)
  rw [World.size_alloc] at hnw
  have HC := Lib.hid (hC _ (w.heap.size + 1) hb hnw)
  obtain ⟨⟨A, rfl, hA, hAs⟩, rfl, hP⟩ := hO
  have hAl : A.length ≤ 100000 := by have := congrArg List.length hAs; unfold outL at this; simp at this; omega
  have HA := Lib.hid hA
  have HAs := Lib.hid hAs
  have HP := Lib.hid hP
  have HD := Lib.hid hd
  have HW := Lib.hid (ndW_of hAs hw)
  clear hb hnw hC hA hAs hP hd
  go_enter Try.func16, Try.ntmps16
  go_wp2_with fail
  refine HC.out.mono ?_
  rintro e w1 ⟨a3, m3, c3, a4, m4, c4, b, rfl, hy, hb1⟩
  have HB1 := Lib.hid (bnext HB.out hb1)
  cases b
  · clear hy hb1
    go_wp2_with fail
    go_ret
    exact ⟨by trivial, HB1.out⟩
  obtain ⟨_, F', S', h', nd', hG, ⟨Bs, rfl, hBs, hBsS⟩, rfl, hP'⟩ := hy rfl
  obtain ⟨d1, d2⟩ := HD.out F' S' h' nd' hG
  rw [d1] at hBsS
  rw [d2] at hP'
  have HE := Lib.hid (alike_yes A Bs (HAs.out.trans hBsS.symm) HW.out hAl a c1 a3 c3 w1 (HA.out.up HB1.out) hBs)
  have HP2 := Lib.hid hP'
  clear hy hb1 hG hBs hBsS hP' d1 d2
  go_wp2_with fail
  refine HE.out.mono ?_
  rintro e w2 ⟨rfl, hb2⟩
  have HB2 := Lib.hid (bnext HB1.out hb2)
  have HS := Lib.hid (sameL_yes (placeL F h t.length) (by simp [placeL]; omega) a2 t.length c2 a4 t.length c4 w2 (HP.out.up HB2.out) (HP2.out.up hb2) (by simp [placeL]) (by simp [placeL]))
  clear hb2
  go_wp2_with fail
  refine HS.out.mono ?_
  rintro e w3 ⟨rfl, hb3⟩
  have HB3 := Lib.hid (bnext HB2.out hb3)
  clear hb3
  go_wp2_with fail
  go_ret
  exact ⟨by trivial, HB3.out⟩
end Go.Proofs.Ytmhhfljbocbolaa

namespace Go.Proofs.Ytmhhfljbocbolaa
open Go.RowKit
set_option linter.unusedVariables false

theorem ndW_t {t : List Nd} (hR : RightP t) {i : Nat} (hi : i < t.length) : NdW (ndT t i) := by
  have e : ndT t i = t[i] := getD_at hi
  have n := hR.node i hi
  rw [e]
  have key : (∀ i' j, i' < j → j < t[i].attrs.length → keyAt t[i].attrs i' ≠ keyAt t[i].attrs j) ∧ t[i].attrs.length ≤ 20 := by
    by_cases hk : t[i].kind = 3
    · rcases n.kinds with h | h | h | h
      · omega
      · omega
      · exact ⟨h.2.once, h.2.len⟩
      · omega
    · have := (n.tag hk).2
      exact ⟨fun i' j _ hj => by omega, by omega⟩
  exact ⟨key.1, by have := key.2; omega, fun a ha => Nat.le_trans (hR.vals i hi a ha) (by omega)⟩

theorem emptyG_det {t : List Nd} {l : List Int} {ms : List Nat} (h : l = toI ms) : Det t.length (EmptyG t l) (clearAll (fo0 t) ms) (sz t) (ndT t) := by
  rintro F' S' h' nd' ⟨ms', hC, _, _, rfl, rfl, rfl⟩
  have : ms' = ms := toI_inj (hC.eq.symm.trans h)
  subst this
  exact ⟨rfl, rfl⟩

set_option maxRecDepth 100000 in
set_option maxHeartbeats 4000000 in
theorem FnEmptyOf_walk (ad : Option Addr) (len c : Nat) (t : List Nd) (a2 : Option Addr) (len2 c2 : Nat) (l : List Int) (w : World) (h : NSl w w.heap.size ad t ∧ len = t.length) (hi : ISl w w.heap.size a2 l ∧ len2 = l.length) :
    Calls Try.prog 3 #[.slice ad len c, .slice a2 len2 c2] w fun e w' => e = .returned (.bool true) ∧ Below w.heap.size w w' := by
  obtain ⟨h, rfl⟩ := h
  obtain ⟨hi, rfl⟩ := hi
  have HH := Lib.hid h
  have hll := hi.len
  have HI := Lib.hid hi
  unfold maxLen at hll
  clear h hi
  go_enter Try.func3, Try.ntmps3
  go_wp2_with fail
  refine (zzFits1_any _ _ t _ HH.out).mono ?_
  rintro e w1 ⟨rfl, hb1⟩
  have HB1 := Lib.hid hb1
  clear hb1
  cases hf : fits1 t
  · go_wp2_with fail
    go_ret
    exact ⟨rfl, HB1.out⟩
  by_cases k1 : 2147483647 < l.length
  · go_wp2_with fail
    go_ret
    exact ⟨rfl, HB1.out⟩
  have hl : l.length ≤ 2147483647 := by omega
  have HC : Hid (ChC t ad c (EmptyG t l) 7 a2 l.length c2 none 0 0 w1) := fun W sb hb hs => changedEmpty_any ad c t hf W (HH.out.up (bnext HB1.out hb)) sb a2 c2 l hl (HI.out.up (bnext HB1.out hb)) hs
  go_wp2_with fail
  refine (step7_any 7 a2 l.length c2 none 0 0 w1).mono ?_
  rintro e w2 ⟨rfl, hb2⟩
  obtain ⟨W2, hW2⟩ : ∃ W2, W2 = w2.alloc (.cells #[.int .i64 7, .slice a2 l.length c2, .slice none 0 0, .string ⟨#[]⟩, .string ⟨#[]⟩, .slice none 0 0] 27) := ⟨_, rfl⟩
  have hbA : Below w2.heap.size w2 W2 := by rw [hW2]; exact (Below.refl _ _).alloc (Nat.le_refl _) _
  have hsA : W2.heap.size = w2.heap.size + 1 := by rw [hW2, World.size_alloc]
  have HB2 := Lib.hid (bnext hb2 hbA)
  have HCW := Lib.hid (HC.out.up HB2.out)
  have HQ : Hid (∀ W, Below W2.heap.size W2 W → W.cell? ⟨w2.heap.size, 0, none⟩ = some (.int .i64 7) ∧ W.cell? ⟨w2.heap.size, 1, none⟩ = some (.slice a2 l.length c2) ∧ W.cell? ⟨w2.heap.size, 2, none⟩ = some (.slice none 0 0) ∧ W.cell? ⟨w2.heap.size, 3, none⟩ = some (.string ⟨#[]⟩) ∧ W.cell? ⟨w2.heap.size, 4, none⟩ = some (.string ⟨#[]⟩) ∧ W.cell? ⟨w2.heap.size, 5, none⟩ = some (.slice none 0 0)) := by
    intro W hb
    have q : W.heap[w2.heap.size]? = some (.cells #[.int .i64 7, .slice a2 l.length c2, .slice none 0 0, .string ⟨#[]⟩, .string ⟨#[]⟩, .slice none 0 0] 27 (0, 0)) := by
      rw [hb.block _ (by omega), hW2]; exact heap_alloc_new w2 _
    exact ⟨by rw [cell_of_row W _ _ _ _ _ q]; rfl, by rw [cell_of_row W _ _ _ _ _ q]; rfl, by rw [cell_of_row W _ _ _ _ _ q]; rfl, by rw [cell_of_row W _ _ _ _ _ q]; rfl, by rw [cell_of_row W _ _ _ _ _ q]; rfl, by rw [cell_of_row W _ _ _ _ _ q]; rfl⟩
  clear hb2 hbA hsA
  go_wp2_with fail
  rw [← hW2]
  clear hW2
  refine (sure7_any HCW.out).mono ?_
  rintro e w3 ⟨b, rfl, hy, hb3⟩
  have HB3 := Lib.hid hb3
  have HB03 := Lib.hid (bnext HB1.out (bnext HB2.out hb3))
  cases b
  · clear hy hb3
    go_wp2_with fail
    go_ret
    exact ⟨rfl, HB03.out⟩
  obtain ⟨hR, F, S, hh, nd, ms, hCh, hne, hk3, rfl, rfl, rfl⟩ := hy rfl
  have HR := Lib.hid hR
  have HCh := Lib.hid hCh
  have HE := Lib.hid (emptyOf_any ad c t hR a2 c2 l ms hCh.ord hl w3 (HH.out.up HB03.out) (HI.out.up HB03.out))
  clear hy hb3 hR hCh hne hk3
  go_wp2_with fail
  refine HE.out.mono ?_
  rintro e w4 ⟨a3, m3, c3, a4, m4, c4, rfl, hO, hb4⟩
  have HB4 := Lib.hid (bnext HB03.out hb4)
  have hb24 := bnext HB3.out hb4
  obtain ⟨z0, z1, z2, z3, z4, z5⟩ := HQ.out w4 hb24
  have o' := clearAll_ok (fo0_ok HR.out) ms
  have hle := HR.out.le
  have HAs := Lib.hid (as7_any (HCW.out.up hb24) (emptyG_det HCh.out.eq) (fun y hy => ndW_t HR.out (o'.all_mem (S := fun i => i < t.length) HR.out.pos hy)) (by have := all_bound o' (fun i hi => hi) HR.out.pos; omega) HR.out.le a3 m3 c3 a4 m4 c4 hO)
  clear hO hb4 hb24 o'
  go_wp2_with fail
  refine HAs.out.mono ?_
  rintro e w5 ⟨rfl, hb5⟩
  have HB5 := Lib.hid (bnext HB4.out hb5)
  clear hb5
  go_wp2_with fail
  go_ret
  exact ⟨by trivial, HB5.out⟩
end Go.Proofs.Ytmhhfljbocbolaa
