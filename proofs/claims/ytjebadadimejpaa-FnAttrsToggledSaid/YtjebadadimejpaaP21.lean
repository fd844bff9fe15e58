/- Words, white space, fields, replacing (joined) -/
import Derived.Lib.IndexMore
import Derived.Lib.IndexLaws
import Derived.Lib.Space
import Derived.Lib.Fields
import Derived.Test.YtjebadadimejpaaP20
import Derived.Lib.DecodeN
import Derived.Lib.TrimU
import Derived.Laws.RangeAny
import Derived.Lib.OthersKept
import Derived.Test.YtjebadadimejpaaRows
import Derived.WalkKit
import Derived.WalkSpells
import Derived.WalkLawsBesides
import Derived.Lib.Hide
import Derived.Laws.AppendOwn
import Derived.Maps.AppendAt
import Derived.Below
import Derived.LoopTactic
import Derived.Lib.FieldsLaws
import Derived.Lib.IndexBytes
import Derived.Lib.RuneCount
import Derived.Lib.Case
import Derived.Lib.BufferWrite
import Derived.Deep.OwnRows
import Derived.Lib.BufSteps
import Derived.Lib.Join
namespace Go.Proofs.Ytjebadadimejpaa
set_option linter.unusedVariables false

/-- White space of HTML. -/
def wsB (c : UInt8) : Bool := c == 32 || c == 9 || c == 10 || c == 13 || c == 12

def wds : List UInt8 → List UInt8 → List (List UInt8)
  | cur, [] => if cur = [] then [] else [cur]
  | cur, c :: l => if wsB c = true then (if cur = [] then wds [] l else cur :: wds [] l) else wds (cur ++ [c]) l
/-- The words of a text. -/
def words (l : List UInt8) : List (List UInt8) := wds [] l

theorem wds_ws {cur : List UInt8} {c : UInt8} (l : List UInt8) (h : wsB c = true) : wds cur (c :: l) = (if cur = [] then [] else [cur]) ++ wds [] l := by
  rw [wds, if_pos h]
  split <;> simp
theorem wds_no {cur : List UInt8} {c : UInt8} (l : List UInt8) (h : wsB c = false) : wds cur (c :: l) = wds (cur ++ [c]) l := by
  rw [wds, if_neg (by simp [h])]
theorem wds_cat {c : UInt8} (h : wsB c = true) (b : List UInt8) : ∀ (a cur : List UInt8), wds cur (a ++ c :: b) = wds cur a ++ wds [] b := by
  intro a
  induction a with
  | nil => intro cur; rw [List.nil_append, wds_ws _ h]; rfl
  | cons x a ih =>
    intro cur
    rw [List.cons_append]
    cases hx : wsB x
    · rw [wds_no _ hx, wds_no _ hx, ih]
    · rw [wds_ws _ hx, wds_ws _ hx, ih, List.append_assoc]
theorem words_cat {c : UInt8} (h : wsB c = true) (a b : List UInt8) : words (a ++ c :: b) = words a ++ words b := wds_cat h b a []
theorem words_front {c : UInt8} (h : wsB c = true) (b : List UInt8) : words (c :: b) = words b := by simpa [words, wds] using words_cat h [] b
theorem words_back {c : UInt8} (h : wsB c = true) (a : List UInt8) : words (a ++ [c]) = words a := by simpa [words, wds] using words_cat h a []
theorem wds_one : ∀ (l cur : List UInt8), (∀ c ∈ l, wsB c = false) → wds cur l = if cur ++ l = [] then [] else [cur ++ l] := by
  intro l
  induction l with
  | nil => intro cur _; rw [List.append_nil]; rfl
  | cons x l ih =>
    intro cur h
    rw [wds_no _ (h x (by simp)), ih _ (fun c hc => h c (by simp [hc])), List.append_assoc]
    rfl
theorem words_one {l : List UInt8} (h : ∀ c ∈ l, wsB c = false) (hne : l ≠ []) : words l = [l] := by
  unfold words
  rw [wds_one _ _ h, List.nil_append, if_neg hne]

theorem wds_mem : ∀ (l cur w : List UInt8), (∀ c ∈ cur, wsB c = false) → w ∈ wds cur l → w ≠ [] ∧ (∀ c ∈ w, wsB c = false) ∧ ∃ pre post, cur ++ l = pre ++ w ++ post ∧ (pre = [] ∨ ∃ p c, pre = p ++ [c] ∧ wsB c = true) ∧ (post = [] ∨ ∃ c p, post = c :: p ∧ wsB c = true) := by
  intro l
  induction l with
  | nil =>
    intro cur w hc hw
    rw [wds] at hw
    split at hw
    · simp at hw
    · rename_i hne
      rw [List.mem_singleton] at hw
      subst hw
      exact ⟨hne, hc, [], [], by simp, .inl rfl, .inl rfl⟩
  | cons x l ih =>
    intro cur w hc hw
    cases hx : wsB x
    · rw [wds_no _ hx] at hw
      have h := ih (cur ++ [x]) w (by intro c hm; rw [List.mem_append, List.mem_singleton] at hm; rcases hm with hm | rfl; exact hc c hm; exact hx) hw
      rwa [List.append_assoc] at h
    · rw [wds_ws _ hx, List.mem_append] at hw
      rcases hw with hw | hw
      · split at hw
        · simp at hw
        · rename_i hne
          rw [List.mem_singleton] at hw
          subst hw
          exact ⟨hne, hc, [], x :: l, by simp, .inl rfl, .inr ⟨x, l, rfl, hx⟩⟩
      · obtain ⟨h1, h2, pre, post, h3, h4, h5⟩ := ih [] w (by simp) hw
        refine ⟨h1, h2, cur ++ x :: pre, post, ?_, ?_, h5⟩
        · rw [List.nil_append] at h3; rw [h3]; simp
        · rcases h4 with rfl | ⟨p, c, rfl, hc2⟩
          · exact .inr ⟨cur, x, rfl, hx⟩
          · exact .inr ⟨cur ++ x :: p, c, by simp, hc2⟩
theorem words_mem {l w : List UInt8} (h : w ∈ words l) : w ≠ [] ∧ (∀ c ∈ w, wsB c = false) ∧ ∃ pre post, l = pre ++ w ++ post ∧ (pre = [] ∨ ∃ p c, pre = p ++ [c] ∧ wsB c = true) ∧ (post = [] ∨ ∃ c p, post = c :: p ∧ wsB c = true) :=
  wds_mem l [] w (by simp) h
theorem words_len_mem {l w : List UInt8} (h : w ∈ words l) : w.length ≤ l.length := by
  obtain ⟨_, _, pre, post, e, _⟩ := words_mem h
  rw [e]; simp; omega
theorem wds_count : ∀ (l cur : List UInt8), (wds cur l).length ≤ l.length + (if cur = [] then 0 else 1) := by
  intro l
  induction l with
  | nil => intro cur; rw [wds]; split <;> simp
  | cons x l ih =>
    intro cur
    cases hx : wsB x
    · rw [wds_no _ hx]
      have := ih (cur ++ [x])
      rw [if_neg (by simp)] at this
      rw [List.length_cons]; split <;> omega
    · rw [wds_ws _ hx, List.length_append, List.length_cons]
      have := ih []
      rw [if_pos rfl] at this
      split <;> simp <;> omega
theorem words_count (l : List UInt8) : (words l).length ≤ l.length := by
  have := wds_count l []
  rwa [if_pos rfl] at this

/-- A word is in a text, all white space of which are blanks, just if it stands there between blanks. -/
theorem words_between {l w : List UInt8} (hl : ∀ c ∈ l, wsB c = true → c = 32) (hw : ∀ c ∈ w, wsB c = false) (hne : w ≠ []) :
    w ∈ words l ↔ ∃ A B, 32 :: l ++ [32] = A ++ (32 :: w ++ [32]) ++ B := by
  constructor
  · intro h
    obtain ⟨_, _, pre, post, e, h1, h2⟩ := words_mem h
    have hp : ∃ A, 32 :: pre = A ++ [32] := by
      rcases h1 with rfl | ⟨p, c, rfl, hc⟩
      · exact ⟨[], rfl⟩
      · have : c = 32 := hl c (by rw [e]; simp) hc
        exact ⟨32 :: p, by rw [this]; simp⟩
    have hq : ∃ B, post ++ [32] = 32 :: B := by
      rcases h2 with rfl | ⟨c, p, rfl, hc⟩
      · exact ⟨[], rfl⟩
      · have : c = 32 := hl c (by rw [e]; simp) hc
        exact ⟨p ++ [32], by rw [this]; simp⟩
    obtain ⟨A, hA⟩ := hp
    obtain ⟨B, hB⟩ := hq
    refine ⟨A, B, ?_⟩
    have : 32 :: l ++ [32] = (32 :: pre) ++ w ++ (post ++ [32]) := by rw [e]; simp
    rw [this, hA, hB]; simp
  · rintro ⟨A, B, e⟩
    have e1 : words (32 :: l ++ [32]) = words l := by
      rw [words_back (by decide), words_front (by decide)]
    have e2 : words (A ++ (32 :: w ++ [32]) ++ B) = words A ++ ([w] ++ words B) := by
      have : A ++ (32 :: w ++ [32]) ++ B = A ++ 32 :: (w ++ 32 :: B) := by simp
      rw [this, words_cat (by decide), words_cat (by decide), words_one hw hne]
    rw [← e1, e, e2]; simp

theorem contains_iff (s sub : List UInt8) : Lib.contains s sub = true ↔ ∃ A B, s = A ++ sub ++ B := by
  unfold Lib.contains
  rw [decide_eq_true_eq]
  constructor
  · intro h
    rcases Lib.index_spec s sub with ⟨h1, _⟩ | ⟨i, h1, h2, h3, _⟩
    · omega
    · unfold Lib.occAt at h3
      obtain ⟨B, hB⟩ := List.isPrefixOf_iff_prefix.1 h3
      exact ⟨s.take i, B, by rw [List.append_assoc, hB, List.take_append_drop]⟩
  · rintro ⟨A, B, rfl⟩
    rcases Lib.index_spec (A ++ sub ++ B) sub with ⟨_, h2⟩ | ⟨i, h1, _⟩
    · have := h2 A.length (by simp)
      unfold Lib.occAt at this
      rw [List.append_assoc, List.drop_left] at this
      rw [List.isPrefixOf_iff_prefix.2 (List.prefix_append _ _)] at this
      cases this
    · omega
/-- Small letters. -/
def smB (c : UInt8) : UInt8 := if 65 ≤ c ∧ c ≤ 90 then c + 32 else c
theorem wsB_sm : ∀ c : UInt8, wsB (smB c) = wsB c := by
  intro c
  unfold smB
  split
  · rename_i h
    have h1 : 65 ≤ c.toNat := by simpa [UInt8.le_iff_toNat_le] using h.1
    have h2 : c.toNat ≤ 90 := by simpa [UInt8.le_iff_toNat_le] using h.2
    have e : ∀ (d : UInt8) (n : Nat), d.toNat = n → (n < 65) → (c == d) = false ∧ (c + 32 == d) = false := by
      intro d n hd hn
      have e3 : (c + 32).toNat = c.toNat + 32 := by rw [UInt8.toNat_add]; show (c.toNat + 32) % 256 = _; omega
      constructor
      · rw [beq_eq_false_iff_ne]; intro q; rw [q] at h1; omega
      · rw [beq_eq_false_iff_ne]; intro q; rw [q] at e3; omega
    unfold wsB
    simp [e 32 32 rfl (by decide), e 9 9 rfl (by decide), e 10 10 rfl (by decide), e 13 13 rfl (by decide), e 12 12 rfl (by decide)]
  · rfl
theorem wds_sm : ∀ (l cur : List UInt8), wds (cur.map smB) (l.map smB) = (wds cur l).map (List.map smB) := by
  intro l
  induction l with
  | nil => intro cur; simp only [List.map_nil, wds]; cases cur <;> simp
  | cons x l ih =>
    intro cur
    rw [List.map_cons]
    cases hx : wsB x
    · rw [wds_no _ hx, wds_no _ (by rw [wsB_sm]; exact hx), ← ih]; simp
    · rw [wds_ws _ hx, wds_ws _ (by rw [wsB_sm]; exact hx), List.map_append, ← ih]
      cases cur <;> simp
theorem words_sm (l : List UInt8) : words (l.map smB) = (words l).map (List.map smB) := wds_sm l []
end Go.Proofs.Ytjebadadimejpaa

namespace Go.Proofs.Ytjebadadimejpaa
set_option linter.unusedVariables false

/-- A name between blanks. -/
def blk (c : List UInt8) : List UInt8 := 32 :: c ++ [32]
/-- A text of classes: it begins and ends with a blank, and has no other white space. -/
structure CT (X : List UInt8) : Prop where
  front : ∃ m, X = 32 :: m
  back : ∃ m, X = m ++ [32]
  ws : ∀ c ∈ X, wsB c = true → c = 32
/-- A name of a class. -/
structure CN (c : List UInt8) : Prop where
  ne : c ≠ []
  ws : ∀ x ∈ c, wsB x = false

theorem CT.has {X c : List UInt8} (h : CT X) (hc : CN c) : Lib.contains X (blk c) = true ↔ c ∈ words X := by
  rw [contains_iff]
  have e1 : words (32 :: X ++ [32]) = words X := by rw [words_back (by decide), words_front (by decide)]
  constructor
  · rintro ⟨A, B, e⟩
    refine (words_between h.ws hc.ws hc.ne).2 ⟨32 :: A, B ++ [32], ?_⟩
    rw [e]; unfold blk; simp
  · intro hw
    obtain ⟨_, _, pre, post, e, h1, h2⟩ := words_mem hw
    have hp : ∃ A, pre = A ++ [32] := by
      rcases h1 with rfl | ⟨p, x, rfl, hx⟩
      · obtain ⟨m, hm⟩ := h.front
        rw [List.nil_append] at e
        obtain ⟨y, c', rfl⟩ := List.exists_cons_of_ne_nil hc.ne
        rw [hm] at e
        have : (32 : UInt8) = y := by simpa using congrArg List.head? e
        have h3 := hc.ws y (by simp)
        rw [← this] at h3; cases h3
      · have : x = 32 := h.ws x (by rw [e]; simp) hx
        exact ⟨p, by rw [this]⟩
    have hq : ∃ B, post = 32 :: B := by
      rcases h2 with rfl | ⟨x, p, rfl, hx⟩
      · obtain ⟨m, hm⟩ := h.back
        rw [List.append_nil] at e
        rcases List.eq_nil_or_concat c with hn | ⟨c', y, rfl⟩
        · exact absurd hn hc.ne
        · rw [hm, List.concat_eq_append, ← List.append_assoc] at e
          have : (32 : UInt8) = y := by simpa using (congrArg List.getLast? e)
          have h3 := hc.ws y (by simp)
          rw [← this] at h3; cases h3
      · have : x = 32 := h.ws x (by rw [e]; simp) hx
        exact ⟨p, by rw [this]⟩
    obtain ⟨A, rfl⟩ := hp
    obtain ⟨B, rfl⟩ := hq
    exact ⟨A, B, by rw [e]; unfold blk; simp⟩

/-- What the program's helper for replacing gives. -/
def repl (old new : List UInt8) : Nat → List UInt8 → List UInt8
  | 0, s => s
  | f + 1, s => if Lib.index s old < 0 then s else s.take (Lib.index s old).toNat ++ new ++ repl old new f (s.drop ((Lib.index s old).toNat + old.length))

theorem index_parts {s old : List UInt8} (h : 0 ≤ Lib.index s old) : ∃ B, s = s.take (Lib.index s old).toNat ++ old ++ B ∧ s.drop ((Lib.index s old).toNat + old.length) = B := by
  rcases Lib.index_spec s old with ⟨h1, _⟩ | ⟨i, h1, h2, h3, _⟩
  · omega
  · rw [h1]
    unfold Lib.occAt at h3
    obtain ⟨B, hB⟩ := List.isPrefixOf_iff_prefix.1 h3
    refine ⟨B, ?_, ?_⟩
    · rw [Int.toNat_natCast, List.append_assoc, hB, List.take_append_drop]
    · rw [Int.toNat_natCast, ← List.drop_drop, ← hB, List.drop_left]
theorem index_no {s old : List UInt8} (h : Lib.contains s old = false) : Lib.index s old < 0 := by
  unfold Lib.contains at h
  rw [decide_eq_false_iff_not] at h; omega
theorem repl_no {s old new : List UInt8} (h : Lib.contains s old = false) : ∀ f, repl old new f s = s := by
  intro f
  cases f with
  | zero => rfl
  | succ f => rw [repl, if_pos (index_no h)]

/-- A class toggled. -/
def togX (X c : List UInt8) : List UInt8 := if Lib.contains X (blk c) = true then repl (blk c) [32] (X.length + 1) X else X ++ c ++ [32]
/-- A class added, unless it is there. -/
def addX (X c : List UInt8) : List UInt8 := if Lib.contains X (blk c) = true then X else X ++ c ++ [32]

theorem CT.more {X c : List UInt8} (h : CT X) (hc : CN c) : CT (X ++ c ++ [32]) ∧ words (X ++ c ++ [32]) = words X ++ [c] := by
  obtain ⟨m, hm⟩ := h.front
  obtain ⟨b, hb⟩ := h.back
  refine ⟨⟨⟨m ++ c ++ [32], by rw [hm]; simp⟩, ⟨X ++ c, rfl⟩, fun x hx hw => ?_⟩, ?_⟩
  · rw [List.mem_append, List.mem_append, List.mem_singleton] at hx
    rcases hx with (hx | hx) | hx
    · exact h.ws x hx hw
    · have := hc.ws x hx; rw [hw] at this; cases this
    · exact hx
  · have e : X ++ c ++ [32] = b ++ 32 :: (c ++ [32]) := by rw [hb]; simp
    rw [e, words_cat (by decide), words_back (by decide), words_one hc.ws hc.ne, hb, words_back (by decide)]
theorem CT.less {X c : List UInt8} (h : CT X) (hc : CN c) (hn : (words X).Nodup) (hw : c ∈ words X) :
    ∃ A B, X = A ++ blk c ++ B ∧ togX X c = A ++ 32 :: B ∧ CT (togX X c) ∧ words X = words A ++ c :: words B ∧ words (togX X c) = words A ++ words B := by
  have hcon := (h.has hc).2 hw
  have h0 : 0 ≤ Lib.index X (blk c) := by unfold Lib.contains at hcon; exact decide_eq_true_eq.mp hcon
  obtain ⟨B, e1, e2⟩ := index_parts h0
  obtain ⟨A, hA⟩ : ∃ A, A = X.take (Lib.index X (blk c)).toNat := ⟨_, rfl⟩
  rw [← hA] at e1
  have ew : words X = words A ++ c :: words B := by
    have : X = A ++ 32 :: (c ++ 32 :: B) := by rw [e1]; unfold blk; simp
    rw [this, words_cat (by decide), words_cat (by decide), words_one hc.ws hc.ne]; rfl
  have hnB : Lib.contains B (blk c) = false := by
    rw [Bool.eq_false_iff]
    intro q
    obtain ⟨A2, B2, e3⟩ := (contains_iff _ _).1 q
    have : B = A2 ++ 32 :: (c ++ 32 :: B2) := by rw [e3]; unfold blk; simp
    have hB : c ∈ words B := by
      rw [this, words_cat (by decide), words_cat (by decide), words_one hc.ws hc.ne]; simp
    rw [ew, List.nodup_append] at hn
    exact (List.nodup_cons.1 hn.2.1).1 hB
  have et : togX X c = A ++ 32 :: B := by
    unfold togX
    rw [if_pos hcon, repl, if_neg (by omega), e2, repl_no hnB, ← hA]; simp
  refine ⟨A, B, e1, et, ?_, ew, ?_⟩
  · rw [et]
    obtain ⟨m, hm⟩ := h.front
    obtain ⟨b, hb⟩ := h.back
    refine ⟨?_, ?_, fun x hx hxw => ?_⟩
    · cases A with
      | nil => exact ⟨B, rfl⟩
      | cons y A =>
        rw [hm] at e1
        have : (32 : UInt8) = y := by simpa using congrArg List.head? e1
        exact ⟨A ++ 32 :: B, by rw [← this]; rfl⟩
    · rcases List.eq_nil_or_concat B with rfl | ⟨B', y, rfl⟩
      · exact ⟨A, rfl⟩
      · rw [hb, List.concat_eq_append, ← List.append_assoc] at e1
        have : (32 : UInt8) = y := by simpa using congrArg List.getLast? e1
        exact ⟨A ++ 32 :: B', by rw [← this, List.concat_eq_append]; simp⟩
    · have : x ∈ X := by
        rw [e1]; unfold blk
        rw [List.mem_append, List.mem_cons] at hx
        rcases hx with hx | hx | hx
        · simp [hx]
        · simp [hx]
        · simp [hx]
      exact h.ws x this hxw
  · rw [et, words_cat (by decide)]

/-- A toggled class is there just if it was not; all others stay. -/
theorem CT.tog {X c : List UInt8} (h : CT X) (hc : CN c) (hn : (words X).Nodup) :
    CT (togX X c) ∧ (words (togX X c)).Nodup ∧ ∀ v, v ∈ words (togX X c) ↔ (v ∈ words X ∧ v ≠ c) ∨ (v = c ∧ c ∉ words X) := by
  by_cases hw : c ∈ words X
  · obtain ⟨A, B, _, _, h3, h4, h5⟩ := h.less hc hn hw
    rw [h4] at hn ⊢
    rw [h5]
    have hn2 := List.nodup_append.1 hn
    have hn3 := List.nodup_cons.1 hn2.2.1
    refine ⟨h3, ?_, fun v => ?_⟩
    · exact hn.sublist ((List.Sublist.refl _).append (List.sublist_cons_self _ _))
    · simp only [List.mem_append, List.mem_cons, true_or, or_true, not_true_eq_false, and_false, or_false]
      constructor
      · rintro (q | q)
        · exact ⟨.inl q, fun e => hn2.2.2 v q c (by simp) e⟩
        · exact ⟨.inr (.inr q), fun e => hn3.1 (e ▸ q)⟩
      · rintro ⟨q | q | q, hne⟩
        · exact .inl q
        · exact absurd q hne
        · exact .inr q
  · have hcon : Lib.contains X (blk c) = false := by
      rw [Bool.eq_false_iff]; intro q; exact hw ((h.has hc).1 q)
    have et : togX X c = X ++ c ++ [32] := by unfold togX; rw [if_neg (by simp [hcon])]
    obtain ⟨h1, h2⟩ := h.more hc
    rw [et, h2]
    refine ⟨h1, ?_, fun v => ?_⟩
    · rw [List.nodup_append]
      exact ⟨hn, by simp, fun a ha b hb e => hw (by rw [List.mem_singleton] at hb; rw [← hb, ← e]; exact ha)⟩
    · rw [List.mem_append, List.mem_singleton]
      constructor
      · rintro (q | q)
        · exact .inl ⟨q, fun e => hw (e ▸ q)⟩
        · exact .inr ⟨q, hw⟩
      · rintro (⟨q, _⟩ | ⟨q, _⟩)
        · exact .inl q
        · exact .inr q

/-- White space cut off at both ends changes no words. -/
theorem words_dropWhile : ∀ (l : List UInt8), (∀ c ∈ l, Lib.isSp c = true → wsB c = true) → words (l.dropWhile Lib.isSp) = words l := by
  intro l
  induction l with
  | nil => intro _; rfl
  | cons x l ih =>
    intro h
    rw [List.dropWhile_cons]
    split
    · rename_i hx
      rw [ih (fun c hc => h c (by simp [hc])), words_front (h x (by simp) hx)]
    · rfl
theorem words_dropR : ∀ (l : List UInt8), (∀ c ∈ l, Lib.isSp c = true → wsB c = true) → words ((l.dropWhile Lib.isSp).reverse) = words l.reverse := by
  intro l
  induction l with
  | nil => intro _; rfl
  | cons x l ih =>
    intro h
    rw [List.dropWhile_cons]
    split
    · rename_i hx
      rw [ih (fun c hc => h c (by simp [hc])), List.reverse_cons, words_back (h x (by simp) hx)]
    · rfl
theorem words_trim {l : List UInt8} (h : ∀ c ∈ l, Lib.isSp c = true → wsB c = true) : words (Lib.trimSpace l) = words l := by
  unfold Lib.trimSpace
  have h2 : ∀ c ∈ l.dropWhile Lib.isSp, Lib.isSp c = true → wsB c = true := fun c hc => h c ((List.dropWhile_suffix _).subset hc)
  rw [words_dropR _ (fun c hc => h2 c (List.mem_reverse.1 hc)), List.reverse_reverse, words_dropWhile _ h]
end Go.Proofs.Ytjebadadimejpaa

namespace Go.Proofs.Ytjebadadimejpaa
set_option linter.unusedVariables false

/-- The words that are wanted behind toggling names. -/
def togW (W names : List (List UInt8)) : List (List UInt8) := (W.filter fun w => !decide (w ∈ names)) ++ names.filter fun w => !decide (w ∈ W)
theorem togW_mem (W names : List (List UInt8)) (v : List UInt8) : v ∈ togW W names ↔ (v ∈ W ∧ v ∉ names) ∨ (v ∈ names ∧ v ∉ W) := by
  unfold togW; simp [List.mem_append, List.mem_filter]
theorem togW_nodup {W names : List (List UInt8)} (h1 : W.Nodup) (h2 : names.Nodup) : (togW W names).Nodup := by
  unfold togW
  rw [List.nodup_append]
  refine ⟨h1.filter _, h2.filter _, fun a ha b hb e => ?_⟩
  subst e
  have q1 := (List.mem_filter.1 ha).1
  have q2 := (List.mem_filter.1 hb).2
  simp [q1] at q2
theorem sub_length : ∀ {a b : List (List UInt8)}, a.Nodup → (∀ x, x ∈ a → x ∈ b) → a.length ≤ b.length := by
  intro a
  induction a with
  | nil => intro b _ _; exact Nat.zero_le _
  | cons x a ih =>
    intro b h1 h
    rw [List.nodup_cons] at h1
    have hx := h x (by simp)
    have := ih (b := b.erase x) h1.2 (fun y hy => (List.mem_erase_of_ne (fun e => h1.1 (by rw [← e]; exact hy))).2 (h y (by simp [hy])))
    rw [List.length_erase_of_mem hx] at this
    have h0 : 0 < b.length := List.length_pos_of_mem hx
    rw [List.length_cons]; omega
theorem same_length {a b : List (List UInt8)} (h1 : a.Nodup) (h2 : b.Nodup) (h : ∀ x, x ∈ a ↔ x ∈ b) : a.length = b.length :=
  Nat.le_antisymm (sub_length h1 fun x hx => (h x).1 hx) (sub_length h2 fun x hx => (h x).2 hx)

theorem CT.togs {X : List UInt8} (h : CT X) (hn : (words X).Nodup) : ∀ (names : List (List UInt8)), (∀ c ∈ names, CN c) → names.Nodup →
    CT (names.foldl togX X) ∧ (words (names.foldl togX X)).Nodup ∧ ∀ v, v ∈ words (names.foldl togX X) ↔ (v ∈ words X ∧ v ∉ names) ∨ (v ∈ names ∧ v ∉ words X) := by
  intro names
  induction names generalizing X with
  | nil => intro _ _; refine ⟨h, hn, fun v => ?_⟩; simp
  | cons c names ih =>
    intro hc hnn
    rw [List.nodup_cons] at hnn
    obtain ⟨t1, t2, t3⟩ := h.tog (hc c (by simp)) hn
    obtain ⟨i1, i2, i3⟩ := ih t1 t2 (fun x hx => hc x (by simp [hx])) hnn.2
    refine ⟨i1, i2, fun v => ?_⟩
    rw [List.foldl_cons, i3, t3, List.mem_cons]
    by_cases e : v = c
    · subst e
      have := hnn.1
      simp [this]
    · simp [e]
theorem addX_add {X c : List UInt8} (h : CT X) (hc : CN c) (hw : c ∉ words X) : CT (addX X c) ∧ words (addX X c) = words X ++ [c] := by
  have hcon : Lib.contains X (blk c) = false := by
    rw [Bool.eq_false_iff]; intro q; exact hw ((h.has hc).1 q)
  have et : addX X c = X ++ c ++ [32] := by unfold addX; rw [if_neg (by simp [hcon])]
  rw [et]; exact h.more hc
end Go.Proofs.Ytjebadadimejpaa

namespace Go.Proofs.Ytjebadadimejpaa
set_option linter.unusedVariables false

/-- A text of ASCII without vertical tabs. -/
def AscT (l : List UInt8) : Prop := ∀ c ∈ l, c.toNat < 128 ∧ c.toNat ≠ 11

theorem isSp_nat (c : UInt8) : Lib.isSp c = true ↔ (9 ≤ c.toNat ∧ c.toNat ≤ 13) ∨ c.toNat = 32 := by
  have e : ∀ d : UInt8, (c == d) = true ↔ c.toNat = d.toNat := fun d => by rw [beq_iff_eq]; exact UInt8.toNat_inj.symm
  unfold Lib.isSp
  simp only [Bool.or_eq_true, e]
  have e9 : (9 : UInt8).toNat = 9 := rfl
  have e10 : (10 : UInt8).toNat = 10 := rfl
  have e11 : (11 : UInt8).toNat = 11 := rfl
  have e12 : (12 : UInt8).toNat = 12 := rfl
  have e13 : (13 : UInt8).toNat = 13 := rfl
  have e32 : (32 : UInt8).toNat = 32 := rfl
  omega
theorem wsB_nat (c : UInt8) : wsB c = true ↔ c.toNat = 32 ∨ c.toNat = 9 ∨ c.toNat = 10 ∨ c.toNat = 13 ∨ c.toNat = 12 := by
  have e : ∀ d : UInt8, (c == d) = true ↔ c.toNat = d.toNat := fun d => by rw [beq_iff_eq]; exact UInt8.toNat_inj.symm
  unfold wsB
  simp only [Bool.or_eq_true, e]
  rw [or_assoc, or_assoc, or_assoc]
  exact Iff.rfl
theorem asc_sp {c : UInt8} (h : c.toNat ≠ 11) : Lib.isSp c = wsB c := by
  have h1 := isSp_nat c
  have h2 := wsB_nat c
  cases e1 : Lib.isSp c <;> cases e2 : wsB c
  · rfl
  · exact absurd (h1.2 (by have := h2.1 e2; omega)) (by simp [e1])
  · exact absurd (h2.2 (by have := h1.1 e1; omega)) (by simp [e2])
  · rfl

theorem dropWhile_all {p : UInt8 → Bool} : ∀ (A M : List UInt8), (∀ c ∈ A, p c = true) → (∀ c, M.head? = some c → p c = false) → (A ++ M).dropWhile p = M := by
  intro A
  induction A with
  | nil =>
    intro M _ h
    cases M with
    | nil => rfl
    | cons x M => rw [List.nil_append, List.dropWhile_cons, if_neg (by simp [h x rfl])]
  | cons a A ih =>
    intro M h1 h2
    rw [List.cons_append, List.dropWhile_cons, if_pos (h1 a (by simp))]
    exact ih M (fun c hc => h1 c (by simp [hc])) h2

theorem trim_all {l : List UInt8} (h : ∀ c ∈ l, Lib.isSp c = true) : Lib.trimSpace l = [] := by
  have := dropWhile_all l [] h (by simp)
  rw [List.append_nil] at this
  unfold Lib.trimSpace
  rw [this]; rfl
theorem trim_parts {A M B : List UInt8} (h1 : ∀ c ∈ A, Lib.isSp c = true) (h2 : ∀ c ∈ B, Lib.isSp c = true) (h3 : ∀ c, M.head? = some c → Lib.isSp c = false) (h4 : ∀ c, M.getLast? = some c → Lib.isSp c = false) (hM : M ≠ []) : Lib.trimSpace (A ++ M ++ B) = M := by
  unfold Lib.trimSpace
  rw [List.append_assoc, dropWhile_all A (M ++ B) h1 (by
    intro c hc
    cases M with
    | nil => exact absurd rfl hM
    | cons x M => exact h3 c hc)]
  rw [List.reverse_append, dropWhile_all B.reverse M.reverse (fun c hc => h2 c (List.mem_reverse.1 hc)) (by
    intro c hc
    rw [List.head?_reverse] at hc
    exact h4 c hc), List.reverse_reverse]

/-- What the helper knows before place k: where the first byte stands that is no white space, and where the last one ends. -/
inductive TrS (l : List UInt8) (k : Nat) : Nat → Nat → Prop
  | none (h : ∀ c ∈ l.take k, Lib.isSp c = true) : TrS l k l.length 0
  | some {f t : Nat} (h1 : f < t) (h2 : t ≤ k) (h3 : ∀ c ∈ l.take f, Lib.isSp c = true) (h4 : ∀ c, l[f]? = .some c → Lib.isSp c = false) (h5 : ∀ c, l[t - 1]? = .some c → Lib.isSp c = false) (h6 : ∀ c ∈ (l.drop t).take (k - t), Lib.isSp c = true) : TrS l k f t

theorem trS_sp {l : List UInt8} {k f t : Nat} (h : TrS l k f t) {c : UInt8} (hk : l[k]? = some c) (hc : Lib.isSp c = true) : TrS l (k + 1) f t := by
  have hkl := (List.getElem?_eq_some_iff.1 hk).1
  cases h with
  | none h =>
    refine .none fun x hx => ?_
    rw [List.take_succ_eq_append_getElem hkl, List.mem_append, List.mem_singleton] at hx
    rcases hx with hx | hx
    · exact h x hx
    · rw [hx]; rw [List.getElem?_eq_getElem hkl] at hk; cases hk; exact hc
  | some h1 h2 h3 h4 h5 h6 =>
    refine .some h1 (by omega) h3 h4 h5 fun x hx => ?_
    have e : (l.drop t).take (k + 1 - t) = (l.drop t).take (k - t) ++ [c] := by
      have : k + 1 - t = (k - t) + 1 := by omega
      rw [this, List.take_succ_eq_append_getElem (by rw [List.length_drop]; omega), List.getElem_drop]
      have e2 : t + (k - t) = k := by omega
      rw [List.getElem?_eq_getElem hkl] at hk
      simp only [e2]
      cases hk; rfl
    rw [e, List.mem_append, List.mem_singleton] at hx
    rcases hx with hx | hx
    · exact h6 x hx
    · rw [hx]; exact hc
theorem trS_no {l : List UInt8} {k f t : Nat} (h : TrS l k f t) {c : UInt8} (hk : l[k]? = some c) (hc : Lib.isSp c = false) : TrS l (k + 1) (min f k) (k + 1) := by
  have hkl := (List.getElem?_eq_some_iff.1 hk).1
  have h5' : ∀ x, l[k + 1 - 1]? = some x → Lib.isSp x = false := fun x hx => by rw [Nat.add_sub_cancel, hk] at hx; cases hx; exact hc
  have h6' : ∀ x ∈ (l.drop (k + 1)).take (k + 1 - (k + 1)), Lib.isSp x = true := fun x hx => by rw [Nat.sub_self] at hx; simp at hx
  cases h with
  | none h =>
    have e : min l.length k = k := by omega
    rw [e]
    exact .some (by omega) (Nat.le_refl _) h (fun x hx => by rw [hk] at hx; cases hx; exact hc) h5' h6'
  | some h1 h2 h3 h4 h5 h6 =>
    have e : min f k = f := by omega
    rw [e]
    exact .some (by omega) (Nat.le_refl _) h3 h4 h5' h6'
theorem trS_end {l : List UInt8} {f t : Nat} (h : TrS l l.length f t) : Lib.trimSpace l = if t ≤ f then [] else (l.drop f).take (t - f) := by
  cases h with
  | none h =>
    rw [if_pos (Nat.zero_le _)]
    rw [List.take_length] at h
    exact trim_all h
  | some h1 h2 h3 h4 h5 h6 =>
    rw [if_neg (by omega)]
    have e : l = l.take f ++ (l.drop f).take (t - f) ++ (l.drop t).take (l.length - t) := by
      have e1 : (l.drop t).take (l.length - t) = l.drop t := List.take_of_length_le (by rw [List.length_drop]; omega)
      have e2 : l.drop t = (l.drop f).drop (t - f) := by rw [List.drop_drop]; congr 1; omega
      rw [e1, e2, List.append_assoc, List.take_append_drop, List.take_append_drop]
    conv => lhs; rw [e]
    refine trim_parts h3 h6 (fun c hc => h4 c ?_) (fun c hc => h5 c ?_) ?_
    · rw [List.head?_take, if_neg (by omega), List.head?_drop] at hc; exact hc
    · rw [List.getLast?_eq_getElem?, List.length_take, List.length_drop, List.getElem?_take] at hc
      rw [if_pos (by omega), List.getElem?_drop] at hc
      have e3 : f + (min (t - f) (l.length - f) - 1) = t - 1 := by omega
      rw [e3] at hc; exact hc
    · intro h0
      have := congrArg List.length h0
      rw [List.length_take, List.length_drop] at this
      simp at this; omega

theorem trim_asc {l : List UInt8} (h : AscT l) : words (Lib.trimSpace l) = words l := words_trim fun c hc hs => by rw [← asc_sp (h c hc).2]; exact hs
theorem trim_sub (l : List UInt8) : ∀ c ∈ Lib.trimSpace l, c ∈ l := fun c hc => by
  unfold Lib.trimSpace at hc
  have h1 := (List.dropWhile_suffix _).subset (List.mem_reverse.1 hc)
  exact (List.dropWhile_suffix _).subset (List.mem_reverse.1 h1)
theorem trim_len (l : List UInt8) : (Lib.trimSpace l).length ≤ l.length := by
  unfold Lib.trimSpace
  rw [List.length_reverse]
  refine Nat.le_trans (List.dropWhile_suffix _).length_le ?_
  rw [List.length_reverse]
  exact (List.dropWhile_suffix _).length_le
theorem trim_head (l : List UInt8) (x : UInt8) (m : List UInt8) (h : Lib.trimSpace l = x :: m) : Lib.isSp x = false := by
  unfold Lib.trimSpace at h
  obtain ⟨D, hD⟩ : ∃ D, D = l.dropWhile Lib.isSp := ⟨_, rfl⟩
  rw [← hD] at h
  have h1 : (D.reverse.dropWhile Lib.isSp).reverse <+: D := by
    obtain ⟨r, hr⟩ := List.dropWhile_suffix Lib.isSp (l := D.reverse)
    refine ⟨r.reverse, ?_⟩
    rw [← List.reverse_append, hr, List.reverse_reverse]
  rw [h] at h1
  obtain ⟨r, hr⟩ := h1
  have h2 : D.head? = some x := by rw [← hr]; rfl
  have h3 := List.head?_dropWhile_not Lib.isSp l
  rw [← hD, h2] at h3
  simpa using h3
theorem wds_first : ∀ (l cur : List UInt8), cur ≠ [] → wds cur l ≠ [] := by
  intro l
  induction l with
  | nil => intro cur h; rw [wds, if_neg h]; simp
  | cons c l ih =>
    intro cur h
    by_cases hw : wsB c = true
    · rw [wds_ws l hw, if_neg h]; simp
    · rw [wds_no l (by simpa using hw)]
      exact ih _ (by simp)
theorem trim_words {l : List UInt8} (h : AscT l) : Lib.trimSpace l = [] ↔ words l = [] := by
  rw [← trim_asc h]
  constructor
  · intro e; rw [e]; rfl
  · intro e
    cases ht : Lib.trimSpace l with
    | nil => rfl
    | cons x m =>
      exfalso
      rw [ht] at e
      have hx := trim_head l x m ht
      have hxl : x ∈ l := trim_sub l x (by rw [ht]; simp)
      rw [asc_sp (h x hxl).2] at hx
      unfold words at e
      rw [wds_no m hx] at e
      exact wds_first m ([] ++ [x]) (by simp) e
end Go.Proofs.Ytjebadadimejpaa

namespace Go.Proofs.Ytjebadadimejpaa
open Go.RowKit
set_option linter.unusedVariables false

/-- White space (what the reference and the program name so). -/
def isSp (r : Nat) : Bool := (decide (9 ≤ r) && decide (r ≤ 13)) || r == 32 || r == 133 || r == 160 || r == 5760 || (decide (8192 ≤ r) && decide (r ≤ 8202)) || r == 8232 || r == 8233 || r == 8239 || r == 8287 || r == 12288

/-- From a place on there is nothing but white space. -/
inductive Sp (s : ByteArray) : Nat → Prop
  | fin (k : Nat) : s.size ≤ k → Sp s k
  | step (k : Nat) : k < s.size → isSp (Utf8.decode s k).1 = true → Sp s (k + (Utf8.decode s k).2) → Sp s k

/-- Up to a place there is nothing but white space. -/
inductive Pre (s : ByteArray) : Nat → Prop
  | zero : Pre s 0
  | step (k : Nat) : Pre s k → k < s.size → isSp (Utf8.decode s k).1 = true → Pre s (k + (Utf8.decode s k).2)

theorem Pre.sp {s : ByteArray} {k : Nat} (h : Pre s k) : Sp s k → Sp s 0 := by
  induction h with
  | zero => exact id
  | step k _ hk hr ih => exact fun q => ih (.step k hk hr q)

theorem Sp.at_ {s : ByteArray} {k : Nat} (h : Sp s k) (hk : k < s.size) : isSp (Utf8.decode s k).1 = true ∧ Sp s (k + (Utf8.decode s k).2) := by
  cases h with
  | fin _ h => omega
  | step _ _ h1 h2 => exact ⟨h1, h2⟩
end Go.Proofs.Ytjebadadimejpaa

namespace Go.Proofs.Ytjebadadimejpaa
open Go.RowKit
set_option linter.unusedVariables false

theorem isSp_iff (r : Nat) : isSp r = true ↔ (9 ≤ r ∧ r ≤ 13) ∨ r = 32 ∨ r = 133 ∨ r = 160 ∨ r = 5760 ∨ (8192 ≤ r ∧ r ≤ 8202) ∨ r = 8232 ∨ r = 8233 ∨ r = 8239 ∨ r = 8287 ∨ r = 12288 := by
  simp [isSp, or_assoc]

set_option maxRecDepth 100000 in
/-- The bytes of a white space, by its width. -/
theorem sp_bytes (n b0 b1 b2 b3 : Nat) (h1 : b1 < 256) (h2 : b2 < 256) (h3 : b3 < 256) (h0 : b0 < 256) (h : isSp (Lib.decodeN n b0 b1 b2 b3).1 = true) :
    (b0 < 128 ∧ Lib.decodeN n b0 b1 b2 b3 = (b0, 1)) ∨
    (b0 = 194 ∧ 2 ≤ n ∧ 128 ≤ b1 ∧ b1 < 192 ∧ Lib.decodeN n b0 b1 b2 b3 = (b1, 2)) ∨
    (225 ≤ b0 ∧ b0 ≤ 227 ∧ 3 ≤ n ∧ 128 ≤ b1 ∧ b1 < 192 ∧ 128 ≤ b2 ∧ b2 < 192 ∧ Lib.decodeN n b0 b1 b2 b3 = ((b0 - 224) * 4096 + (b1 - 128) * 64 + (b2 - 128), 3)) := by
  rw [isSp_iff] at h
  by_cases c1 : b0 < 128
  · exact .inl ⟨c1, by unfold Lib.decodeN; rw [if_pos c1]⟩
  · right
    unfold Lib.decodeN at h ⊢
    rw [if_neg c1] at h ⊢
    by_cases c2 : b0 / 32 = 6 ∧ (1 < n ∧ b1 / 64 = 2)
    · rw [if_pos c2] at h ⊢
      by_cases c3 : b0 % 32 * 64 + b1 % 64 ≥ 128
      · rw [if_pos c3] at h ⊢
        dsimp only at h
        refine .inl ⟨by omega, by omega, by omega, by omega, Prod.ext (by dsimp only; omega) rfl⟩
      · rw [if_neg c3] at h
        dsimp only at h
        omega
    · rw [if_neg c2] at h ⊢
      by_cases c4 : b0 / 16 = 14 ∧ (1 < n ∧ b1 / 64 = 2) ∧ (2 < n ∧ b2 / 64 = 2)
      · rw [if_pos c4] at h ⊢
        split at h
        · rename_i c5
          rw [if_pos c5]
          dsimp only at h
          refine .inr ⟨by omega, by omega, by omega, by omega, by omega, by omega, by omega, Prod.ext (by dsimp only; omega) rfl⟩
        · dsimp only at h
          omega
      · rw [if_neg c4] at h
        exfalso
        split at h
        · split at h <;> (dsimp only at h; omega)
        · dsimp only at h
          omega
end Go.Proofs.Ytjebadadimejpaa

namespace Go.Proofs.Ytjebadadimejpaa
open Go.RowKit
set_option linter.unusedVariables false

set_option maxRecDepth 100000 in
set_option maxHeartbeats 1000000 in
theorem sp_yes_g (r : Nat) (w : World) (h : isSp r = true) : Calls Try.prog 35 #[.int .i32 r] w fun e w' => e = .returned (.bool true) ∧ w = w' := by
  have hc : (r = 9 ∨ r = 10 ∨ r = 11 ∨ r = 12 ∨ r = 13) ∨ (8192 ≤ r ∧ r ≤ 8202) ∨ r = 32 ∨ r = 133 ∨ r = 160 ∨ r = 5760 ∨ r = 8232 ∨ r = 8233 ∨ r = 8239 ∨ r = 8287 ∨ r = 12288 := by
    rw [isSp_iff] at h; omega
  rcases hc with (rfl | rfl | rfl | rfl | rfl) | hc | rfl | rfl | rfl | rfl | rfl | rfl | rfl | rfl | rfl
  case inr.inl =>
    obtain ⟨h1, h2⟩ := hc
    have z9 : ((r : Int) == 9) = false := beq_eq_false_iff_ne.2 (by omega)
    have z10 : ((r : Int) == 10) = false := beq_eq_false_iff_ne.2 (by omega)
    have z11 : ((r : Int) == 11) = false := beq_eq_false_iff_ne.2 (by omega)
    have z12 : ((r : Int) == 12) = false := beq_eq_false_iff_ne.2 (by omega)
    have z13 : ((r : Int) == 13) = false := beq_eq_false_iff_ne.2 (by omega)
    have z32 : ((r : Int) == 32) = false := beq_eq_false_iff_ne.2 (by omega)
    have z133 : ((r : Int) == 133) = false := beq_eq_false_iff_ne.2 (by omega)
    have z160 : ((r : Int) == 160) = false := beq_eq_false_iff_ne.2 (by omega)
    have z5760 : ((r : Int) == 5760) = false := beq_eq_false_iff_ne.2 (by omega)
    have z8232 : ((r : Int) == 8232) = false := beq_eq_false_iff_ne.2 (by omega)
    have z8233 : ((r : Int) == 8233) = false := beq_eq_false_iff_ne.2 (by omega)
    have z8239 : ((r : Int) == 8239) = false := beq_eq_false_iff_ne.2 (by omega)
    have z8287 : ((r : Int) == 8287) = false := beq_eq_false_iff_ne.2 (by omega)
    have z12288 : ((r : Int) == 12288) = false := beq_eq_false_iff_ne.2 (by omega)
    have y1 : decide ((8192 : Int) ≤ (r : Int)) = true := by simp; omega
    have y2 : decide ((r : Int) ≤ 8202) = true := by simp; omega
    clear h
    go_enter Try.func35, Try.ntmps35
    go_wp2_with fail
    go_ret
    exact ⟨rfl, rfl⟩
  all_goals
    clear h
    go_enter Try.func35, Try.ntmps35
    go_wp2_with fail
    go_ret
    exact ⟨rfl, rfl⟩

set_option maxRecDepth 100000 in
set_option maxHeartbeats 1000000 in
theorem sp_no_g (r : Nat) (w : World) (h : isSp r = false) : Calls Try.prog 35 #[.int .i32 r] w fun e w' => e = .returned (.bool false) ∧ w = w' := by
  have hn : ¬ ((9 ≤ r ∧ r ≤ 13) ∨ r = 32 ∨ r = 133 ∨ r = 160 ∨ r = 5760 ∨ (8192 ≤ r ∧ r ≤ 8202) ∨ r = 8232 ∨ r = 8233 ∨ r = 8239 ∨ r = 8287 ∨ r = 12288) := by
    rw [← isSp_iff, h]; simp
  have z9 : ((r : Int) == 9) = false := beq_eq_false_iff_ne.2 (by omega)
  have z10 : ((r : Int) == 10) = false := beq_eq_false_iff_ne.2 (by omega)
  have z11 : ((r : Int) == 11) = false := beq_eq_false_iff_ne.2 (by omega)
  have z12 : ((r : Int) == 12) = false := beq_eq_false_iff_ne.2 (by omega)
  have z13 : ((r : Int) == 13) = false := beq_eq_false_iff_ne.2 (by omega)
  have z32 : ((r : Int) == 32) = false := beq_eq_false_iff_ne.2 (by omega)
  have z133 : ((r : Int) == 133) = false := beq_eq_false_iff_ne.2 (by omega)
  have z160 : ((r : Int) == 160) = false := beq_eq_false_iff_ne.2 (by omega)
  have z5760 : ((r : Int) == 5760) = false := beq_eq_false_iff_ne.2 (by omega)
  have z8232 : ((r : Int) == 8232) = false := beq_eq_false_iff_ne.2 (by omega)
  have z8233 : ((r : Int) == 8233) = false := beq_eq_false_iff_ne.2 (by omega)
  have z8239 : ((r : Int) == 8239) = false := beq_eq_false_iff_ne.2 (by omega)
  have z8287 : ((r : Int) == 8287) = false := beq_eq_false_iff_ne.2 (by omega)
  have z12288 : ((r : Int) == 12288) = false := beq_eq_false_iff_ne.2 (by omega)
  clear h
  by_cases hr : 8192 ≤ r
  · have h2 : 8202 < r := by omega
    have y1 : decide ((8192 : Int) ≤ (r : Int)) = true := by simp; omega
    have y2 : decide ((r : Int) ≤ 8202) = false := by simp; omega
    clear hn
    go_enter Try.func35, Try.ntmps35
    go_wp2_with fail
    go_ret
    exact ⟨rfl, rfl⟩
  · have y1 : decide ((8192 : Int) ≤ (r : Int)) = false := by simp; omega
    clear hn
    go_enter Try.func35, Try.ntmps35
    go_wp2_with fail
    go_ret
    exact ⟨rfl, rfl⟩

end Go.Proofs.Ytjebadadimejpaa

namespace Go.Proofs.Ytjebadadimejpaa
open Go.RowKit
set_option linter.unusedVariables false

theorem Try.infoStr : (Try.prog.info? 9).map (fun i => (i.zero, i.size, i.bytes)) = some (some (.string ⟨#[]⟩), 1, 16) := by kernel_rfl

/-- Texts, as values. -/
def strs (l : List (List UInt8)) : List Value := l.map fun x => Value.string ⟨x.toArray⟩
theorem strs_length (l : List (List UInt8)) : (strs l).length = l.length := by simp [strs]
theorem strs_at {l : List (List UInt8)} {i : Nat} (h : i < l.length) : (strs l)[i]'(by rw [strs_length]; exact h) = .string ⟨l[i].toArray⟩ := by simp [strs]
theorem strs_snoc (l : List (List UInt8)) (x : List UInt8) : strs (l ++ [x]) = strs l ++ [.string ⟨x.toArray⟩] := by simp [strs]
theorem ext_str (s : ByteArray) (a b : Nat) : s.extract a b = ⟨((s.data.toList.drop a).take (b - a)).toArray⟩ := by
  apply ByteArray.ext
  apply Array.ext'
  rw [Lib.extract_data]
theorem wsB_iff (c : UInt8) : wsB c = true ↔ c.toNat = 32 ∨ c.toNat = 9 ∨ c.toNat = 10 ∨ c.toNat = 13 ∨ c.toNat = 12 := by
  have e : ∀ d : UInt8, (c == d) = true ↔ c.toNat = d.toNat := fun d => by rw [beq_iff_eq]; exact UInt8.toNat_inj.symm
  unfold wsB
  simp only [Bool.or_eq_true, e]
  rw [or_assoc, or_assoc, or_assoc]
  exact Iff.rfl

set_option maxRecDepth 100000 in
theorem space_any (c : UInt8) (w : World) : Calls Try.prog 26 #[.int .u8 c.toNat] w fun e w' => e = .returned (.bool (wsB c)) ∧ w = w' := by
  cases hw : wsB c
  · have h : ¬ (c.toNat = 32 ∨ c.toNat = 9 ∨ c.toNat = 10 ∨ c.toNat = 13 ∨ c.toNat = 12) := by rw [← wsB_iff, hw]; simp
    have z1 : ((c.toNat : Int) == 32) = false := beq_eq_false_iff_ne.2 (by omega)
    have z2 : ((c.toNat : Int) == 9) = false := beq_eq_false_iff_ne.2 (by omega)
    have z3 : ((c.toNat : Int) == 10) = false := beq_eq_false_iff_ne.2 (by omega)
    have z4 : ((c.toNat : Int) == 13) = false := beq_eq_false_iff_ne.2 (by omega)
    have z5 : ((c.toNat : Int) == 12) = false := beq_eq_false_iff_ne.2 (by omega)
    clear h hw
    go_enter Try.func26, Try.ntmps26
    go_wp2_with fail
    go_ret
    exact ⟨rfl, rfl⟩
  · have h := (wsB_iff c).1 hw
    clear hw
    rcases h with h | h | h | h | h
    all_goals
      rw [h]
      clear h
      go_enter Try.func26, Try.ntmps26
      go_wp2_with fail
      go_ret
      exact ⟨rfl, rfl⟩

theorem own_sl {w : World} {base e size n : Nat} {v : Value} {xs : List Value} (h : w.ownsRow base e size v n xs) : ∃ a c, v = .slice a n c := by
  rcases h.2 with ⟨hv, h0⟩ | ⟨g, cap, cur, hv, _⟩
  · exact ⟨none, 0, by rw [hv, h0]⟩
  · exact ⟨_, cap, hv⟩

def StrsPost (l : List (List UInt8)) (w : World) (e : Ending) (w' : World) : Prop :=
  ∃ a c, e = .returned (.slice a l.length c) ∧ w'.ownsRow w.heap.size 9 1 (.slice a l.length c) l.length (strs l) ∧ Below w.heap.size w w'
def WordsRel (s : ByteArray) (W : World) (v fr x : Value) (wr : World) : Prop :=
  ∃ (k f : Nat) (acc : List (List UInt8)) (a : Option Addr) (c : Nat), k ≤ s.size + 1 ∧ f ≤ k ∧ (k = s.size + 1 → f = k) ∧ x = .int .i64 (k : Nat) ∧ fr = .int .i64 (f : Nat) ∧ v = .slice a acc.length c ∧
    wr.ownsRow W.heap.size 9 1 (.slice a acc.length c) acc.length (strs acc) ∧ Hid (words s.data.toList = acc ++ wds ((s.data.toList.drop f).take (k - f)) (s.data.toList.drop k)) ∧ acc.length ≤ k ∧ Below W.heap.size W wr

theorem words_go {l : List UInt8} {k f : Nat} {acc : List (List UInt8)} {c : UInt8} (hf : f ≤ k) (hk : l[k]? = some c) (hc : wsB c = false) (h : words l = acc ++ wds ((l.drop f).take (k - f)) (l.drop k)) :
    words l = acc ++ wds ((l.drop f).take (k + 1 - f)) (l.drop (k + 1)) := by
  rw [h, Lib.drop_at hk, wds_no _ hc, Lib.piece_more hf hk]
theorem words_cut {l : List UInt8} {k f : Nat} {acc : List (List UInt8)} (hf : f ≤ k) (hkl : k ≤ l.length) (hc : ∀ c, l[k]? = some c → wsB c = true) (h : words l = acc ++ wds ((l.drop f).take (k - f)) (l.drop k)) :
    words l = (if f < k then acc ++ [(l.drop f).take (k - f)] else acc) ++ wds ((l.drop (k + 1)).take (k + 1 - (k + 1))) (l.drop (k + 1)) := by
  have h1 : wds ((l.drop f).take (k - f)) (l.drop k) = (if (l.drop f).take (k - f) = [] then [] else [(l.drop f).take (k - f)]) ++ wds [] (l.drop (k + 1)) := by
    cases hk : l[k]? with
    | none =>
      have : l.length ≤ k := List.getElem?_eq_none_iff.1 hk
      rw [List.drop_of_length_le this, List.drop_of_length_le (by omega : l.length ≤ k + 1), wds, wds]; simp
    | some c => rw [Lib.drop_at hk, wds_ws _ (hc c hk)]
  rw [h, h1, Nat.sub_self, List.take_zero]
  by_cases hlt : f < k
  · rw [if_pos hlt, if_neg (Lib.piece_ne hlt hkl), List.append_assoc]
  · obtain rfl : f = k := by omega
    simp

set_option maxRecDepth 100000 in
set_option maxHeartbeats 2000000 in
theorem wordsOf_any (s : ByteArray) (hs : s.size ≤ 2147483647) (w : World) : Calls Try.prog 20 #[.string s] w (StrsPost (words s.data.toList) w) := by
  obtain ⟨i0, hinf, hz0, hz1, hz2⟩ := info_parts Try.infoStr
  have hsl : s.data.toList.length = s.size := rfl
  have HL := Lib.hid hsl
  clear hsl
  go_enter Try.func20, Try.ntmps20
  go_wp2_with fail
  go_loopw [3, 4, 5] (fun v fr x wr => WordsRel s w v fr x wr) (fun _ _ x _ => s.size + 1 - (intOf x).toNat)
  case atStart => exact ⟨0, 0, [], none, 0, by omega, by omega, (fun h => by omega), rfl, rfl, rfl, World.ownsRow_nil _ _ _ _, (by simp [Hid, words]), by simp, Below.refl _ _⟩
  case round =>
    obtain ⟨k, f, acc, a, c, hk, hf, hfin, rfl, rfl, rfl, hown, hw, hal, hb⟩ := hrel
    have HB := Lib.hid hb
    have HW := Lib.hid hown
    have HFin := Lib.hid hfin
    have hsz := hb.size
    clear hb hown hfin
    by_cases hle : k ≤ s.size
    · have HCut := Lib.hid (fun h => words_cut (l := s.data.toList) hf (by have := HL.out; omega) h hw.out)
      have HX : Hid (s.extract f k = ⟨((s.data.toList.drop f).take (k - f)).toArray⟩) := ext_str s f k
      by_cases hlt : k < s.size
      · have hgk : s.data.toList[k]? = some s[k] := by
          rw [List.getElem?_eq_getElem (by have := HL.out; omega)]; rfl
        have HSp := Lib.hid (space_any s[k] wr)
        cases hc : wsB s[k]
        · have HN := Lib.hid (words_go hf hgk hc hw.out)
          rw [hc] at HSp
          clear hw HCut hgk hc
          go_wp2_with fail
          refine HSp.out.mono ?_
          rintro e w1 ⟨rfl, rfl⟩
          go_wp2_with fail
          go_roundw
          case rel => exact ⟨k + 1, f, acc, a, c, by omega, by omega, (fun h => by omega), by go_num, rfl, rfl, HW.out, HN.out, by omega, HB.out⟩
          case measure => simp [intOf]; omega
        · have HN := Lib.hid (HCut.out (fun d hd => by rw [hgk] at hd; cases hd; exact hc))
          rw [hc] at HSp
          clear hw HCut hgk hc
          by_cases hfk : f < k
          · rw [if_pos hfk] at HN
            go_wp2_with fail
            refine HSp.out.mono ?_
            rintro e w1 ⟨rfl, rfl⟩
            go_wp2_with (at_builtin; refine wpList_append_own _ rfl _ _ 23 rfl w.heap.size 9 i0 (.string ⟨#[]⟩) 1 16 Try.underlying23 hinf hz0 hz1 hz2 rfl (by decide) _ _ _ rfl (HW.out.alloc _) ⟨wr.heap.size, 0, none⟩ 1 1 [.string (s.extract f k)] rfl rfl (cell_one_new _ _ _) (by intro u hu; simp at hu; subst hu; rfl) (by unfold maxLen; omega) (by omega) (by simp; omega) ?_)
            intro v' w3 hown' hgrow _
            obtain ⟨a3, c3, hv2⟩ := own_sl hown'
            rw [hv2] at hown' ⊢
            have hb1 : Below w.heap.size w w3 := (HB.out.alloc hsz _).grown hgrow (by simp; omega) (fun q hq => (HW.out.lt q hq).1)
            have HO1 : Hid (w3.ownsRow w.heap.size 9 1 (.slice a3 (acc.length + 1) c3) (acc.length + 1) (strs (acc ++ [(s.data.toList.drop f).take (k - f)]))) := by
              rw [Hid, strs_snoc, ← HX.out]; exact hown'
            clear hown' hgrow hv2
            go_wp2_with fail
            go_roundw
            case rel => exact ⟨k + 1, k + 1, _, a3, c3, by omega, by omega, (fun h => by omega), by go_num, by go_num, by rw [List.length_append]; rfl, by rw [List.length_append]; exact HO1.out, HN.out, by rw [List.length_append]; simp; omega, hb1⟩
            case measure => simp [intOf]; omega
          · rw [if_neg hfk] at HN
            go_wp2_with fail
            refine HSp.out.mono ?_
            rintro e w1 ⟨rfl, rfl⟩
            go_wp2_with fail
            go_roundw
            case rel => exact ⟨k + 1, k + 1, acc, a, c, by omega, by omega, (fun h => by omega), by go_num, by go_num, rfl, HW.out, HN.out, by omega, HB.out⟩
            case measure => simp [intOf]; omega
      · have HN := Lib.hid (HCut.out (fun d hd => by rw [List.getElem?_eq_none (by have := HL.out; omega)] at hd; cases hd))
        clear hw HCut
        by_cases hfk : f < k
        · rw [if_pos hfk] at HN
          go_wp2_with (at_builtin; refine wpList_append_own _ rfl _ _ 23 rfl w.heap.size 9 i0 (.string ⟨#[]⟩) 1 16 Try.underlying23 hinf hz0 hz1 hz2 rfl (by decide) _ _ _ rfl (HW.out.alloc _) ⟨wr.heap.size, 0, none⟩ 1 1 [.string (s.extract f k)] rfl rfl (cell_one_new _ _ _) (by intro u hu; simp at hu; subst hu; rfl) (by unfold maxLen; omega) (by omega) (by simp; omega) ?_)
          intro v' w3 hown' hgrow _
          obtain ⟨a3, c3, hv2⟩ := own_sl hown'
          rw [hv2] at hown' ⊢
          have hb1 : Below w.heap.size w w3 := (HB.out.alloc hsz _).grown hgrow (by simp; omega) (fun q hq => (HW.out.lt q hq).1)
          have HO1 : Hid (w3.ownsRow w.heap.size 9 1 (.slice a3 (acc.length + 1) c3) (acc.length + 1) (strs (acc ++ [(s.data.toList.drop f).take (k - f)]))) := by
            rw [Hid, strs_snoc, ← HX.out]; exact hown'
          clear hown' hgrow hv2
          go_wp2_with fail
          go_roundw
          case rel => exact ⟨k + 1, k + 1, _, a3, c3, by omega, by omega, (fun h => by omega), by go_num, by go_num, by rw [List.length_append]; rfl, by rw [List.length_append]; exact HO1.out, HN.out, by rw [List.length_append]; simp; omega, hb1⟩
          case measure => simp [intOf]; omega
        · rw [if_neg hfk] at HN
          go_wp2_with fail
          go_roundw
          case rel => exact ⟨k + 1, k + 1, acc, a, c, by omega, by omega, (fun h => by omega), by go_num, by go_num, rfl, HW.out, HN.out, by omega, HB.out⟩
          case measure => simp [intOf]; omega
    · have e : k = s.size + 1 := by omega
      have e2 : acc = words s.data.toList := by
        have h1 := hw.out
        have h2 := HFin.out e
        rw [h2, Nat.sub_self, List.take_zero, List.drop_of_length_le (by have := HL.out; omega), wds, if_pos rfl, List.append_nil] at h1
        exact h1.symm
      clear e hw HFin
      go_wp2_with fail
      go_ret
      subst e2
      exact ⟨a, c, rfl, HW.out, HB.out⟩
end Go.Proofs.Ytjebadadimejpaa

namespace Go.Proofs.Ytjebadadimejpaa
open Go.RowKit
set_option linter.unusedVariables false

theorem isSp_asc {c : UInt8} (h : c.toNat < 128) : isSp c.toNat = Lib.isSp c := by
  have h1 := isSp_iff c.toNat
  have h2 := isSp_nat c
  cases e1 : isSp c.toNat <;> cases e2 : Lib.isSp c
  · rfl
  · exact absurd (h1.2 (by have := h2.1 e2; omega)) (by simp [e1])
  · exact absurd (h2.2 (by have := h1.1 e1; omega)) (by simp [e2])
  · rfl
theorem asc_at {s : ByteArray} (h : AscT s.data.toList) {k : Nat} (hk : k < s.size) : s[k].toNat < 128 ∧ s[k].toNat ≠ 11 ∧ s.data.toList[k]? = some s[k] := by
  have hk2 : k < s.data.toList.length := hk
  have e : s.data.toList[k] = s[k] := rfl
  have := h _ (List.getElem_mem hk2)
  rw [e] at this
  exact ⟨this.1, this.2, by rw [List.getElem?_eq_getElem hk2, e]⟩

set_option maxRecDepth 100000 in
set_option maxHeartbeats 2000000 in
theorem trimA_any (s : ByteArray) (hA : AscT s.data.toList) (hs : s.size ≤ 2147483647) (w : World) :
    Calls Try.prog 27 #[.string s] w fun e w' => e = .returned (.string ⟨(Lib.trimSpace s.data.toList).toArray⟩) ∧ Below w.heap.size w w' := by
  have HA := Lib.hid hA
  clear hA
  go_enter Try.func27, Try.ntmps27
  go_wp2_with fail
  go_loopw [3, 4] (fun fv tv wr => ∃ k f t : Nat, k ≤ s.size ∧ f ≤ s.size ∧ wr = w.iter s k ∧ fv = .int .i64 f ∧ tv = .int .i64 t ∧ Hid (TrS s.data.toList k f t)) (fun _ _ wr => s.size - wr.iterPos w.heap.size)
  case atStart => exact ⟨0, s.size, 0, Nat.zero_le _, Nat.le_refl _, rfl, rfl, rfl, .none (by simp)⟩
  case round =>
    obtain ⟨k, f, t, hk, hf, rfl, rfl, rfl, hT⟩ := hrel
    by_cases hlt : k < s.size
    · obtain ⟨h1, -, h3⟩ := asc_at HA.out hlt
      have hdec := decode_ascii s k hlt h1
      have hnx := fun ty => run_next_any (P := Try.prog) w s k ty hlt
      rw [hdec] at hnx
      have hie := isSp_asc h1
      have H3 := Lib.hid h3
      obtain ⟨c, hc⟩ : ∃ c, c = s[k] := ⟨_, rfl⟩
      rw [← hc] at hnx hie H3 h1
      clear h3 hdec hc
      cases hsp : Lib.isSp c
      · have HS := Lib.hid (sp_no_g c.toNat (w.iter s (k + 1)) (hie.trans hsp))
        have HN := Lib.hid (trS_no hT.out H3.out hsp)
        clear hie hsp hT
        by_cases hm : f ≤ k
        · have em : min f k = f := by omega
          rw [em] at HN
          go_wp2_with fail
          refine HS.out.mono ?_
          rintro e w1 ⟨rfl, rfl⟩
          go_wp2_with fail
          go_loopw [4] (fun tv w2 => tv = .int .i64 ((k + 1 : Nat) : Int) ∧ w.iter s (k + 1) = w2) (fun _ _ => 0)
          case atStart => exact ⟨by go_num, rfl⟩
          case round =>
            obtain ⟨rfl, rfl⟩ := hrel
            by_cases hl2 : k + 1 < s.size
            · obtain ⟨q1, -, -⟩ := asc_at HA.out hl2
              have e1 : decide ((128 : Int) ≤ ((s[k + 1].toNat : Nat) : Int)) = false := decide_eq_false (by omega)
              obtain ⟨c2, hc2⟩ : ∃ c2, c2 = s[k + 1] := ⟨_, rfl⟩
              rw [← hc2] at e1
              go_wp2_with fail
              go_roundw
              case rel => exact ⟨k + 1, f, k + 1, hlt, by omega, rfl, by go_num, rfl, HN.out⟩
              case measure => simp; omega
            · go_wp2_with fail
              go_roundw
              case rel => exact ⟨k + 1, f, k + 1, hlt, by omega, rfl, by go_num, rfl, HN.out⟩
              case measure => simp; omega
        · have em : min f k = k := by omega
          rw [em] at HN
          go_wp2_with fail
          refine HS.out.mono ?_
          rintro e w1 ⟨rfl, rfl⟩
          go_wp2_with fail
          go_loopw [4] (fun tv w2 => tv = .int .i64 ((k + 1 : Nat) : Int) ∧ w.iter s (k + 1) = w2) (fun _ _ => 0)
          case atStart => exact ⟨by go_num, rfl⟩
          case round =>
            obtain ⟨rfl, rfl⟩ := hrel
            by_cases hl2 : k + 1 < s.size
            · obtain ⟨q1, -, -⟩ := asc_at HA.out hl2
              have e1 : decide ((128 : Int) ≤ ((s[k + 1].toNat : Nat) : Int)) = false := decide_eq_false (by omega)
              obtain ⟨c2, hc2⟩ : ∃ c2, c2 = s[k + 1] := ⟨_, rfl⟩
              rw [← hc2] at e1
              go_wp2_with fail
              go_roundw
              case rel => exact ⟨k + 1, k, k + 1, hlt, by omega, rfl, by go_num, rfl, HN.out⟩
              case measure => simp; omega
            · go_wp2_with fail
              go_roundw
              case rel => exact ⟨k + 1, k, k + 1, hlt, by omega, rfl, by go_num, rfl, HN.out⟩
              case measure => simp; omega
      · have HS := Lib.hid (sp_yes_g c.toNat (w.iter s (k + 1)) (hie.trans hsp))
        have HN := Lib.hid (trS_sp hT.out H3.out hsp)
        clear hie hsp hT
        go_wp2_with fail
        refine HS.out.mono ?_
        rintro e w1 ⟨rfl, rfl⟩
        go_wp2_with fail
        go_roundw
        case rel => exact ⟨k + 1, f, t, hlt, hf, rfl, rfl, rfl, HN.out⟩
        case measure => simp; omega
    · have ek : k = s.size := by omega
      subst ek
      have hnx := fun ty => run_next_end (P := Try.prog) w s s.size ty hlt
      have HB : Hid (Below w.heap.size w (w.iter s s.size)) := (Below.refl _ _).alloc (Nat.le_refl _) _
      have HE : Hid (Lib.trimSpace s.data.toList = if t ≤ f then [] else (s.data.toList.drop f).take (t - f)) := trS_end hT.out
      have ht : t ≤ s.size := by cases hT.out with
        | none _ => omega
        | some _ h2 _ _ _ _ => exact h2
      clear hT
      by_cases htf : t ≤ f
      · have hg : decide (t ≤ f) = true := by simpa using htf
        rw [Hid, if_pos htf] at HE
        go_wp2_with fail
        go_ret
        exact ⟨by rw [HE]; rfl, HB.out⟩
      · have hg : decide (t ≤ f) = false := by simpa using htf
        rw [Hid, if_neg htf] at HE
        go_wp2_with fail
        go_ret
        exact ⟨by rw [HE, ← ext_str]; rfl, HB.out⟩
end Go.Proofs.Ytjebadadimejpaa

namespace Go.Proofs.Ytjebadadimejpaa
open Go.RowKit
set_option linter.unusedVariables false

theorem iterPosF {wr : World} {k : Nat} {s : ByteArray} {p : Nat} (h : wr.heap[k]? = some (.stringIter s p)) : wr.iterPos k = p := by
  unfold World.iterPos; rw [h]

def FldRel (s : ByteArray) (W : World) (v fr : Value) (wr : World) : Prop :=
  ∃ (k f : Nat) (acc : List (List UInt8)) (a : Option Addr) (c : Nat), k ≤ s.size ∧ f ≤ k ∧ wr.heap[W.heap.size]? = some (.stringIter s k) ∧ v = .slice a acc.length c ∧ ((f = k ∧ fr = .int .i64 (-1)) ∨ (f < k ∧ fr = .int .i64 (f : Nat))) ∧
    Hid (wr.ownsRow (W.heap.size + 1) 9 1 (.slice a acc.length c) acc.length (strs acc)) ∧ Hid (words s.data.toList = acc ++ wds ((s.data.toList.drop f).take (k - f)) (s.data.toList.drop k)) ∧ acc.length ≤ k ∧ Hid (Below W.heap.size W wr) ∧ W.heap.size < wr.heap.size

theorem FldRel.pos {s : ByteArray} {W : World} {v fr : Value} {wr : World} {k : Nat} (h : wr.heap[W.heap.size]? = some (.stringIter s k)) : wr.iterPos W.heap.size = k := iterPosF h

/-- The row of the call under the iterator's move. -/
theorem own_iterAt {w : World} {B e size n : Nat} {v : Value} {xs : List Value} (h : w.ownsRow B e size v n xs) {k : Nat} (hk : k < B) (s : ByteArray) (pos : Nat) : (w.iterAt k s pos).ownsRow B e size v n xs :=
  own_kept h (fun b hb _ => Lib.iterAt_other w k b s pos (by omega))

set_option maxRecDepth 100000 in
set_option maxHeartbeats 4000000 in
theorem fieldsA_any (s : ByteArray) (hA : AscT s.data.toList) (hs : s.size ≤ 2147483647) (w : World) : Calls Try.prog 39 #[.string s] w (StrsPost (words s.data.toList) w) := by
  obtain ⟨i0, hinf, hz0, hz1, hz2⟩ := info_parts Try.infoStr
  have hsl : s.data.toList.length = s.size := rfl
  have HL := Lib.hid hsl
  have HA := Lib.hid hA
  clear hsl hA
  go_enter Try.func39, Try.ntmps39
  go_wp2_with fail
  go_loopw [3, 4] (fun v fr wr => FldRel s w v fr wr) (fun _ _ wr => s.size - wr.iterPos w.heap.size)
  case atStart => exact ⟨0, 0, [], none, 0, by omega, by omega, World.iter_heap w s 0, rfl, .inl ⟨rfl, rfl⟩, World.ownsRow_nil _ _ _ _, (by simp [Hid, words]), by simp, (Below.refl _ _).alloc (Nat.le_refl _) _, by show _ < (Array.push _ _).size; rw [Array.size_push]; omega⟩
  case round =>
    obtain ⟨k, f, acc, a, c, hk, hf, hit, rfl, hfr, hown, hw, hal, hb, hsz⟩ := hrel
    have HP0 := Lib.hid (iterPosF hit)
    have HX : Hid (s.extract f k = ⟨((s.data.toList.drop f).take (k - f)).toArray⟩) := ext_str s f k
    by_cases hlt : k < s.size
    · obtain ⟨h1, h11, h3⟩ := asc_at HA.out hlt
      have hnx := fun ty => Lib.run_next_ascii_at (P := Try.prog) wr w.heap.size s k ty hit hlt h1
      have hie := (isSp_asc h1).trans (asc_sp h11)
      have hit2 := Lib.iterAt_heap wr w.heap.size s k (k + 1) hit
      have hb2 := Lib.below_iterAt hb.out (k := w.heap.size) (Nat.le_refl _) s (k + 1)
      have ho2 := own_iterAt hown.out (k := w.heap.size) (by omega) s (k + 1)
      have hsz2 : w.heap.size < (wr.iterAt w.heap.size s (k + 1)).heap.size := by rw [Lib.iterAt_size]; exact hsz
      have HCut := Lib.hid (fun h => words_cut (l := s.data.toList) hf (by have := HL.out; omega) h hw.out)
      have HGo := Lib.hid (fun h => words_go (l := s.data.toList) hf h3 h hw.out)
      obtain ⟨W1, hW1⟩ : ∃ W1, W1 = wr.iterAt w.heap.size s (k + 1) := ⟨_, rfl⟩
      obtain ⟨ch, hch⟩ : ∃ ch, ch = s[k] := ⟨_, rfl⟩
      rw [← hW1] at hnx hit2 hb2 ho2 hsz2
      rw [← hch] at hnx hie HGo h3
      have H3 := Lib.hid h3
      have HO := Lib.hid ho2
      have HB := Lib.hid hb2
      have HIt := Lib.hid hit2
      clear hW1 hch h1 h11 h3 hit hown hb ho2 hb2 hit2 hsz hw
      cases hsp : wsB ch
      · have HS := Lib.hid (sp_no_g ch.toNat W1 (hie.trans hsp))
        have HN := Lib.hid (HGo.out hsp)
        clear HCut HGo hie hsp
        rcases hfr with ⟨rfl, rfl⟩ | ⟨hfk, rfl⟩
        · go_wp2_with fail
          refine HS.out.mono ?_
          rintro e w1 ⟨rfl, rfl⟩
          go_wp2_with fail
          go_roundw
          case rel => exact ⟨f + 1, f, acc, a, c, hlt, by omega, HIt.out, rfl, .inr ⟨by omega, rfl⟩, HO.out, HN.out, by omega, HB.out, hsz2⟩
          case measure => rw [HP0.out, iterPosF HIt.out]; omega
        · go_wp2_with fail
          refine HS.out.mono ?_
          rintro e w1 ⟨rfl, rfl⟩
          go_wp2_with fail
          go_roundw
          case rel => exact ⟨k + 1, f, acc, a, c, hlt, by omega, HIt.out, rfl, .inr ⟨by omega, rfl⟩, HO.out, HN.out, by omega, HB.out, hsz2⟩
          case measure => rw [HP0.out, iterPosF HIt.out]; omega
      · have HS := Lib.hid (sp_yes_g ch.toNat W1 (hie.trans hsp))
        have HN := Lib.hid (HCut.out (fun d hd => by rw [H3.out] at hd; cases hd; exact hsp))
        clear HCut HGo hie hsp
        rcases hfr with ⟨rfl, rfl⟩ | ⟨hfk, rfl⟩
        · rw [if_neg (Nat.lt_irrefl _)] at HN
          go_wp2_with fail
          refine HS.out.mono ?_
          rintro e w1 ⟨rfl, rfl⟩
          go_wp2_with fail
          go_roundw
          case rel => exact ⟨f + 1, f + 1, acc, a, c, hlt, by omega, HIt.out, rfl, .inl ⟨rfl, rfl⟩, HO.out, HN.out, by omega, HB.out, hsz2⟩
          case measure => rw [HP0.out, iterPosF HIt.out]; omega
        · rw [if_pos hfk] at HN
          go_wp2_with fail
          refine HS.out.mono ?_
          rintro e w1 ⟨rfl, rfl⟩
          obtain ⟨W2, hW2⟩ : ∃ W2, W2 = W1.alloc (.cells #[.string (s.extract f k)] 9) := ⟨_, rfl⟩
          go_wp2_with (at_builtin; refine wpList_append_own _ rfl _ _ 23 rfl (w.heap.size + 1) 9 i0 (.string ⟨#[]⟩) 1 16 Try.underlying23 hinf hz0 hz1 hz2 rfl (by decide) _ _ _ rfl (HO.out.alloc _) ⟨W1.heap.size, 0, none⟩ 1 1 [.string (s.extract f k)] rfl rfl (cell_one_new _ _ _) (by intro u hu; simp at hu; subst hu; rfl) (by unfold maxLen; omega) (by omega) (by simp; omega) ?_)
          intro v' w3 hown' hgrow _
          obtain ⟨a3, c3, hv2⟩ := own_sl hown'
          rw [hv2] at hown' ⊢
          have hne : some w.heap.size ≠ (Value.slice a acc.length c).ownBlock := fun e => by have := (HO.out.lt _ e.symm).1; omega
          have hb1 : Below w.heap.size w w3 := (HB.out.alloc (Nat.le_of_lt hsz2) _).grown hgrow (by simp; omega) (fun q hq => by have := (HO.out.lt q hq).1; omega)
          have hi1 : w3.heap[w.heap.size]? = some (.stringIter s (k + 1)) := by
            rw [hgrow.block _ (by simp; omega) hne, Below.heap_alloc _ _ _ hsz2]; exact HIt.out
          have hs3 : w.heap.size < w3.heap.size := (Array.getElem?_eq_some_iff.1 hi1).1
          have HO1 : Hid (w3.ownsRow (w.heap.size + 1) 9 1 (.slice a3 (acc.length + 1) c3) (acc.length + 1) (strs (acc ++ [(s.data.toList.drop f).take (k - f)]))) := by
            rw [Hid, strs_snoc, ← HX.out]; exact hown'
          have HI1 := Lib.hid hi1
          have HB1 := Lib.hid hb1
          clear hown' hgrow hv2 hne hb1 hi1 hW2
          go_wp2_with fail
          go_roundw
          case rel => exact ⟨k + 1, k + 1, _, a3, c3, hlt, by omega, HI1.out, by rw [List.length_append]; rfl, .inl ⟨rfl, rfl⟩, by rw [List.length_append]; exact HO1.out, HN.out, by rw [List.length_append]; simp; omega, HB1.out, hs3⟩
          case measure => rw [HP0.out, iterPosF HI1.out]; omega
    · have ek : k = s.size := by omega
      subst ek
      have hnx := fun ty => Lib.run_next_end_at (P := Try.prog) wr w.heap.size s s.size ty hit (by omega)
      have hend := words_cut (l := s.data.toList) hf (by have := HL.out; omega) (fun d hd => by rw [List.getElem?_eq_none (by have := HL.out; omega)] at hd; cases hd) hw.out
      have HE : Hid (words s.data.toList = if f < s.size then acc ++ [(s.data.toList.drop f).take (s.size - f)] else acc) := by
        have e0 : s.data.toList.drop (s.size + 1) = [] := List.drop_of_length_le (by have := HL.out; omega)
        rw [Hid, hend, e0, Nat.sub_self, List.take_zero, show wds [] [] = [] from rfl, List.append_nil]
      have HO := Lib.hid hown.out
      clear hit hend hw
      rcases hfr with ⟨rfl, rfl⟩ | ⟨hfk, rfl⟩
      · rw [if_neg (Nat.lt_irrefl _)] at HE
        go_wp2_with fail
        go_ret
        unfold StrsPost
        rw [HE.out]
        exact ⟨a, c, rfl, own_base HO.out (Nat.le_succ _), hb.out⟩
      · rw [if_pos hfk] at HE
        go_wp2_with (at_builtin; refine wpList_append_own _ rfl _ _ 23 rfl (w.heap.size + 1) 9 i0 (.string ⟨#[]⟩) 1 16 Try.underlying23 hinf hz0 hz1 hz2 rfl (by decide) _ _ _ rfl (HO.out.alloc _) ⟨wr.heap.size, 0, none⟩ 1 1 [.string (s.extract f s.size)] rfl rfl (cell_one_new _ _ _) (by intro u hu; simp at hu; subst hu; rfl) (by unfold maxLen; omega) (by omega) (by simp; omega) ?_)
        intro v' w3 hown' hgrow _
        obtain ⟨a3, c3, hv2⟩ := own_sl hown'
        rw [hv2] at hown' ⊢
        have hb1 : Below w.heap.size w w3 := (hb.out.alloc (Nat.le_of_lt hsz) _).grown hgrow (by simp; omega) (fun q hq => by have := (HO.out.lt q hq).1; omega)
        have HO1 : Hid (w3.ownsRow (w.heap.size + 1) 9 1 (.slice a3 (acc.length + 1) c3) (acc.length + 1) (strs (acc ++ [(s.data.toList.drop f).take (s.size - f)]))) := by
          rw [Hid, strs_snoc, ← HX.out]; exact hown'
        have HB1 := Lib.hid hb1
        clear hown' hgrow hv2 hb1
        go_wp2_with fail
        go_ret
        unfold StrsPost
        rw [HE.out, List.length_append]
        exact ⟨a3, c3, rfl, own_base HO1.out (Nat.le_succ _), HB1.out⟩
end Go.Proofs.Ytjebadadimejpaa

namespace Go.Proofs.Ytjebadadimejpaa
open Go.RowKit
set_option linter.unusedVariables false

theorem toLb (s : ByteArray) : s.toList = s.data.toList := ByteArray.toList_eq s
def stB (s : List UInt8) (a : Nat) (p : List UInt8) : Bool := decide (a + p.length ≤ s.length) && ((s.drop a).take p.length == p)
/-- No instance before a place, and no room for one from there on. -/
theorem conN {s p : List UInt8} {k : Nat} (h : ∀ j, j < k → j + p.length ≤ s.length → stB s j p = false) (hk : s.length < k + p.length) : Lib.contains s p = false := by
  rw [Bool.eq_false_iff]
  intro q
  obtain ⟨A, B, e⟩ := (contains_iff s p).1 q
  have hl : A.length + p.length ≤ s.length := by rw [e]; simp
  have := h A.length (by omega) hl
  unfold stB at this
  rw [decide_eq_true hl, Bool.true_and, beq_eq_false_iff_ne] at this
  apply this
  rw [e, List.append_assoc, List.drop_left, List.take_left]
theorem conY {s p : List UInt8} {k : Nat} (h : stB s k p = true) : Lib.contains s p = true := by
  unfold stB at h
  rw [Bool.and_eq_true, beq_iff_eq] at h
  replace h := h.2
  refine (contains_iff s p).2 ⟨s.take k, (s.drop k).drop p.length, ?_⟩
  rw [List.append_assoc]
  conv => rhs; rhs; lhs; rw [← h]
  rw [List.take_append_drop, List.take_append_drop]


def IdxPost_g (s p : ByteArray) (w : World) (e : Ending) (w' : World) : Prop := ∃ z : Int, e = .returned (.int .i64 z) ∧ decide (0 ≤ z) = Lib.contains s.data.toList p.data.toList ∧ (∀ i : Nat, z = i → Lib.index s.data.toList p.data.toList = i) ∧ (z < 0 → z = -1) ∧ w = w'
set_option maxRecDepth 100000 in
set_option maxHeartbeats 1000000 in
theorem zzIdx_g (s p : ByteArray) (hs : s.size ≤ 4294967296) (hp : p.size ≤ 4294967296) (w : World) :
    Calls Try.prog 42 #[.string s, .string p] w (IdxPost_g s p w) := by
  have HL : Hid (s.data.toList.length = s.size ∧ p.data.toList.length = p.size) := ⟨rfl, rfl⟩
  go_enter Try.func42, Try.ntmps42
  go_wp2_with fail
  go_loopw [5] (fun x wr => ∃ k : Nat, k ≤ s.size + 1 ∧ x = .int .i64 k ∧ Hid (∀ j, j < k → j + p.data.toList.length ≤ s.data.toList.length → stB s.data.toList j p.data.toList = false) ∧ w = wr) (fun x _ => s.size + 1 - (intOf x).toNat)
  case atStart => exact ⟨0, Nat.zero_le _, rfl, (fun j h => by omega), rfl⟩
  case round =>
    obtain ⟨k, hk, rfl, hno, rfl⟩ := hrel
    by_cases hle : k + p.size ≤ s.size
    · have HX : Hid (((s.extract k (k + p.size)).toList == p.toList) = stB s.data.toList k p.data.toList) := by
        rw [Hid, toLb, toLb, Lib.extract_data, Nat.add_sub_cancel_left]
        unfold stB
        have := HL.out
        rw [decide_eq_true (by omega), Bool.true_and, this.2]
      cases hb : stB s.data.toList k p.data.toList
      · have HN : Hid (∀ j, j < k + 1 → j + p.data.toList.length ≤ s.data.toList.length → stB s.data.toList j p.data.toList = false) := by
          intro j hj h2
          by_cases e : j = k
          · subst e; exact hb
          · exact hno.out j (by omega) h2
        have hx := HX.out.trans hb
        clear hno hb HX
        go_wp2_with fail
        go_roundw
        case rel => exact ⟨k + 1, by omega, by go_num, HN.out, by trivial⟩
        case measure => simp [intOf]; omega
      · have HF := Lib.hid (conY hb)
        have HIx : Hid (Lib.index s.data.toList p.data.toList = k) := by
          have hlen := HL.out
          refine Lib.index_first (by omega) ?_ (fun j hj => ?_)
          · rw [Lib.occAt_iff_take _ _ _ (by omega)]
            unfold stB at hb
            rw [Bool.and_eq_true] at hb; exact hb.2
          · rw [Lib.occAt_iff_take _ _ _ (by omega)]
            have := hno.out j hj (by omega)
            unfold stB at this
            rw [decide_eq_true (by omega), Bool.true_and] at this; exact this
        have hx := HX.out.trans hb
        clear hno hb HX
        go_wp2_with fail
        go_ret
        exact ⟨k, rfl, by rw [HF.out]; simp, (fun i h => by rw [HIx.out]; exact h), (fun h => by omega), rfl⟩
    · have HF := Lib.hid (conN hno.out (by have := HL.out; omega))
      clear hno
      go_wp2_with fail
      go_ret
      exact ⟨-1, rfl, by rw [HF.out]; rfl, (fun i h => by omega), (fun _ => rfl), rfl⟩

set_option maxRecDepth 100000 in
theorem zzCon_g (s p : ByteArray) (hs : s.size ≤ 4294967296) (hp : p.size ≤ 4294967296) (w : World) :
    Calls Try.prog 31 #[.string s, .string p] w fun e w' => e = .returned (.bool (Lib.contains s.data.toList p.data.toList)) ∧ w = w' := by
  go_enter Try.func31, Try.ntmps31
  go_wp2_with fail
  refine (zzIdx_g s p hs hp w).mono ?_
  rintro e w1 ⟨z, rfl, hz, _, _, rfl⟩
  have HZ := Lib.hid hz
  clear hz
  go_wp2_with fail
  go_ret
  exact ⟨by rw [← HZ.out]; rfl, rfl⟩
end Go.Proofs.Ytjebadadimejpaa

namespace Go.Proofs.Ytjebadadimejpaa
open Go.RowKit
set_option linter.unusedVariables false

theorem Try.infoU8 : (Try.prog.info? 5).map (fun i => (i.zero, i.size, i.bytes)) = some (some (.int .u8 0), 1, 1) := by kernel_rfl

theorem strCells_of (l : List UInt8) : Lib.strCells ⟨l.toArray⟩ = Lib.byteCells l := by
  unfold Lib.strCells Lib.byteCells; simp
theorem byteCells_append (l m : List UInt8) : Lib.byteCells (l ++ m) = Lib.byteCells l ++ Lib.byteCells m := by simp [Lib.byteCells]

/-- The bytes of a buffer of at least one byte, as a text. -/
theorem buf_text {B : Nat} {v : Value} {l : List UInt8} {W0 w : World} (h : Lib.OwnBuf B 5 v l.length (Lib.byteCells l) W0 w) (hl : l ≠ []) : (convert 71 9 v).run Try.prog w = .ok (.string ⟨l.toArray⟩) w := by
  have hl0 : 0 < l.length := List.length_pos_iff.2 hl
  rcases h.1.2 with ⟨_, h0⟩ | ⟨g, cap, cur, fz, rfl, _⟩
  · omega
  · refine run_convert_bytes_back (P := Try.prog) w 71 9 5 ⟨g, 0, none⟩ cap l Try.underlying71 Try.underlying5 Try.underlying9 fun j hj => ?_
    exact h.1.cells (g := g) (by simp [Value.ownBlock]) j (.int .u8 (l[j].toNat : Int)) (by simp [Lib.byteCells, List.getElem?_eq_getElem hj])

theorem repl_fuel {old new : List UInt8} (ho : old ≠ []) : ∀ (f f' : Nat) (s : List UInt8), s.length < f → s.length < f' → repl old new f s = repl old new f' s := by
  intro f
  induction f with
  | zero => intro f' s h; omega
  | succ f ih =>
    intro f' s h1 h2
    obtain ⟨f2, rfl⟩ : ∃ f2, f' = f2 + 1 := ⟨f' - 1, by omega⟩
    unfold repl
    have hol : 0 < old.length := List.length_pos_iff.2 ho
    by_cases h : Lib.index s old < 0
    · rw [if_pos h, if_pos h]
    · rw [if_neg h, if_neg h]
      obtain ⟨B, e1, e2⟩ := index_parts (s := s) (old := old) (by omega)
      have hB : B.length < s.length := by
        have := congrArg List.length e1
        simp only [List.length_append] at this
        omega
      rw [e2, ih f2 B (by omega) (by omega)]

theorem repl_len {old new : List UInt8} (hn : new.length ≤ old.length) : ∀ (f : Nat) (s : List UInt8), (repl old new f s).length ≤ s.length := by
  intro f
  induction f with
  | zero => intro s; exact Nat.le_refl _
  | succ f ih =>
    intro s
    unfold repl
    by_cases h : Lib.index s old < 0
    · rw [if_pos h]; exact Nat.le_refl _
    · rw [if_neg h]
      obtain ⟨B, e1, e2⟩ := index_parts (s := s) (old := old) (by omega)
      rw [e2]
      have h1 := ih B
      have h2 := congrArg List.length e1
      simp only [List.length_append] at h2 ⊢
      omega

set_option maxRecDepth 100000 in
set_option maxHeartbeats 4000000 in
theorem replaceAll_any (s old new : ByteArray) (hs : s.size ≤ 2147483647) (ho : 0 < old.size) (hoz : old.size ≤ 2147483647) (hn : new.size ≤ old.size) (hne : s.data.toList ≠ []) (hnn : new.data.toList ≠ []) (w : World) :
    Calls Try.prog 32 #[.string s, .string old, .string new] w fun e w' => e = .returned (.string ⟨(repl old.data.toList new.data.toList (s.size + 1) s.data.toList).toArray⟩) ∧ Below w.heap.size w w' := by
  obtain ⟨i0, hinf, hz0, hz1, hz2⟩ := info_parts Try.infoU8
  have hol : old.data.toList.length = old.size := rfl
  have hnl : new.data.toList.length = new.size := rfl
  have hsl : s.data.toList.length = s.size := rfl
  obtain ⟨R, hR⟩ : ∃ R, R = repl old.data.toList new.data.toList (s.size + 1) s.data.toList := ⟨_, rfl⟩
  rw [← hR]
  have HR := Lib.hid hR
  have HO := Lib.hid hol
  have HN := Lib.hid hnl
  have HS := Lib.hid hsl
  have HNe := Lib.hid hne
  have HNn := Lib.hid hnn
  clear hR hol hnl hsl hne hnn
  go_enter Try.func32, Try.ntmps32
  go_wp2_with fail
  go_loopw [0, 7] (fun sv v wr => ∃ (rest : ByteArray) (acc : List UInt8) (fu : Nat), sv = .string rest ∧ rest.size < fu ∧ Hid (acc ++ repl old.data.toList new.data.toList fu rest.data.toList = R) ∧ acc.length + rest.size ≤ s.size ∧ (acc ≠ [] ∨ rest = s) ∧ Hid (Lib.OwnBuf w.heap.size 5 v acc.length (Lib.byteCells acc) w wr)) (fun sv _ _ => match sv with | .string x => x.size | _ => 0)
  case atStart => exact ⟨s, [], s.size + 1, rfl, by omega, by rw [Hid, List.nil_append]; exact HR.out.symm, by simp, .inr rfl, World.ownsRowF_of (World.ownsRow_nil _ _ _ _), Below.refl _ _, Nat.le_refl _⟩
  case round =>
    obtain ⟨rest, acc, fu, rfl, hfu, hacc, hle, hor, hbuf⟩ := hrel
    have HIx := Lib.hid (zzIdx_g rest old (by omega) (by omega) wr)
    go_wp2_with fail
    refine HIx.out.mono ?_
    rintro e w1 ⟨z, rfl, hz1', hz2', hz3', rfl⟩
    have HAc := Lib.hid hacc.out
    have HBf := Lib.hid hbuf.out
    by_cases hz : z < 0
    · have hno : Lib.index rest.data.toList old.data.toList < 0 := by
        have h1 : Lib.contains rest.data.toList old.data.toList = false := by rw [← hz1']; exact decide_eq_false (by omega)
        exact index_no h1
      have HFin : Hid (acc ++ rest.data.toList = R) := by
        obtain ⟨f2, rfl⟩ : ∃ f2, fu = f2 + 1 := ⟨fu - 1, by omega⟩
        have := HAc.out
        unfold repl at this
        rw [if_pos hno] at this
        exact this
      have HNz : Hid (acc ++ rest.data.toList ≠ []) := by
        rcases hor with h | h
        · intro e; exact h (List.append_eq_nil_iff.1 e).1
        · intro e; exact HNe.out (by rw [← h]; exact (List.append_eq_nil_iff.1 e).2)
      have ez : decide (z < 0) = true := decide_eq_true hz
      have hl0 : rest.data.toList.length = rest.size := rfl
      have HL0 := Lib.hid hl0
      clear hno hz1' hz2' hz3' hacc hbuf hor hz hl0
      go_wp2_with (at_builtin; refine Lib.wpList_append_text rfl _ _ 71 9 rfl w.heap.size 5 i0 Try.underlying71 Try.underlying9 hinf hz0 hz1 hz2 _ acc.length (Lib.byteCells acc) rfl w HBf.out rest rfl (by omega) ?_)
      intro v' w' hb'
      have hb2 : Lib.OwnBuf w.heap.size 5 v' (acc ++ rest.data.toList).length (Lib.byteCells (acc ++ rest.data.toList)) w w' := by
        rw [byteCells_append, List.length_append, HL0.out]; exact hb'
      have hcv := buf_text hb2 HNz.out
      rw [HFin.out] at hcv
      have HBe : Hid (Below w.heap.size w w') := hb'.2.1
      clear hb' hb2
      go_wp2_with fail
      go_ret
      exact ⟨rfl, HBe.out⟩
    · obtain ⟨i, rfl⟩ : ∃ i : Nat, z = i := ⟨z.toNat, by omega⟩
      have hix := hz2' i rfl
      obtain ⟨B, e1, e2⟩ := index_parts (s := rest.data.toList) (old := old.data.toList) (by omega)
      rw [hix, Int.toNat_natCast] at e1 e2
      have hrl : rest.data.toList.length = rest.size := rfl
      have hlen := congrArg List.length e1
      simp only [List.length_append, List.length_take, hrl, HO.out] at hlen
      have hi1 : i + old.size ≤ rest.size := by
        rcases Nat.lt_or_ge rest.size i with h | h
        · have h0 : rest.data.toList.take i = rest.data.toList := List.take_of_length_le (by rw [hrl]; omega)
          rw [h0] at e1
          have := congrArg List.length e1
          simp only [List.length_append, hrl, HO.out] at this
          omega
        · omega
      have ez : decide ((i : Int) < 0) = false := decide_eq_false (by omega)
      have HT : Hid ((rest.extract 0 i).data.toList = rest.data.toList.take i ∧ (rest.extract 0 i).size = i) := by
        constructor
        · rw [ext_str]; simp
        · rw [ByteArray.size_extract]; omega
      have HD : Hid ((rest.extract (i + old.size) rest.size).data.toList = B ∧ (rest.extract (i + old.size) rest.size).size = rest.size - (i + old.size)) := by
        constructor
        · rw [ext_str]
          show (rest.data.toList.drop (i + old.size)).take _ = B
          rw [HO.out] at e2
          rw [List.take_of_length_le (by rw [List.length_drop, hrl]; omega)]
          exact e2
        · rw [ByteArray.size_extract]; omega
      obtain ⟨f2, rfl⟩ : ∃ f2, fu = f2 + 1 := ⟨fu - 1, by omega⟩
      have HNext : Hid ((acc ++ (rest.extract 0 i).data.toList ++ new.data.toList) ++ repl old.data.toList new.data.toList f2 (rest.extract (i + old.size) rest.size).data.toList = R) := by
        have := HAc.out
        unfold repl at this
        rw [if_neg (by omega), hix, Int.toNat_natCast, e2] at this
        rw [Hid, HT.out.1, HD.out.1, ← this]; simp
      have HNz : Hid (acc ++ (rest.extract 0 i).data.toList ++ new.data.toList ≠ []) := by
        intro e; exact HNn.out (List.append_eq_nil_iff.1 e).2
      have hts := HT.out.2
      have hds := HD.out.2
      clear hix e1 e2 hlen hz1' hz2' hz3' hacc hbuf hor hz hrl
      obtain ⟨pre, hpre⟩ : ∃ pre, pre = rest.extract 0 i := ⟨_, rfl⟩
      rw [← hpre] at HT HNext HNz hts
      obtain ⟨post, hpost⟩ : ∃ post, post = rest.extract (i + old.size) rest.size := ⟨_, rfl⟩
      rw [← hpost] at HD HNext hds
      subst hpre
      subst hpost
      go_wp2_with (at_builtin; refine Lib.wpList_append_text rfl _ _ 71 9 rfl w.heap.size 5 i0 Try.underlying71 Try.underlying9 hinf hz0 hz1 hz2 _ acc.length (Lib.byteCells acc) rfl w HBf.out (rest.extract 0 i) rfl (by omega) ?_)
      intro v1 w1 hb1
      have HB1 : Hid (Lib.OwnBuf w.heap.size 5 v1 (acc ++ (rest.extract 0 i).data.toList).length (Lib.byteCells (acc ++ (rest.extract 0 i).data.toList)) w w1) := by
        rw [Hid, byteCells_append, List.length_append, show (rest.extract 0 i).data.toList.length = i from HT.out.2]; exact hb1
      obtain ⟨acc2, hacc2⟩ : ∃ acc2, acc2 = acc ++ (rest.extract 0 i).data.toList := ⟨_, rfl⟩
      have hl2 : acc2.length = acc.length + i := by rw [hacc2, List.length_append, show (rest.extract 0 i).data.toList.length = i from HT.out.2]
      rw [← hacc2] at HB1 HNext HNz
      clear hb1 hacc2
      go_wp2_with (at_builtin; refine Lib.wpList_append_text rfl _ _ 71 9 rfl w.heap.size 5 i0 Try.underlying71 Try.underlying9 hinf hz0 hz1 hz2 _ _ (Lib.byteCells acc2) rfl w HB1.out new rfl (by omega) ?_)
      intro v2 w2 hb2
      have HB2 : Hid (Lib.OwnBuf w.heap.size 5 v2 (acc2 ++ new.data.toList).length (Lib.byteCells (acc2 ++ new.data.toList)) w w2) := by
        have e : (acc2 ++ new.data.toList).length = acc2.length + new.size := List.length_append
        rw [Hid, byteCells_append _ new.data.toList, e, hl2]; exact hb2
      clear hb2
      go_wp2_with fail
      go_roundw
      case rel => exact ⟨rest.extract (i + old.size) rest.size, acc2 ++ new.data.toList, f2, rfl, by omega, HNext.out, by rw [List.length_append]; have h2 : new.data.toList.length = new.size := rfl; omega, .inl (by intro e; exact HNn.out (List.append_eq_nil_iff.1 e).2), HB2.out⟩
      case measure => simp only [ByteArray.size_extract]; omega
end Go.Proofs.Ytjebadadimejpaa

namespace Go.Proofs.Ytjebadadimejpaa
set_option linter.unusedVariables false

/-- A name: printable. -/
def NmT (c : List UInt8) : Prop := c ≠ [] ∧ ∀ x ∈ c, 33 ≤ x.toNat ∧ x.toNat ≤ 126
theorem NmT.cn {c : List UInt8} (h : NmT c) : CN c := ⟨h.1, fun x hx => by
  have := h.2 x hx
  cases e : wsB x
  · rfl
  · have := (wsB_nat x).1 e; omega⟩
theorem NmT.asc {c : List UInt8} (h : NmT c) : AscT c := fun x hx => by have := h.2 x hx; omega

theorem asc_append {a b : List UInt8} (h1 : AscT a) (h2 : AscT b) : AscT (a ++ b) := fun c hc => by
  rcases List.mem_append.1 hc with h | h
  · exact h1 c h
  · exact h2 c h
theorem asc_blank : AscT [32] := fun c hc => by rw [List.mem_singleton] at hc; subst hc; decide
theorem asc_sub {a b : List UInt8} (h : AscT b) (hs : ∀ c ∈ a, c ∈ b) : AscT a := fun c hc => h c (hs c hc)

theorem repl_mem {old new : List UInt8} : ∀ (f : Nat) (s : List UInt8), ∀ c ∈ repl old new f s, c ∈ s ∨ c ∈ new := by
  intro f
  induction f with
  | zero => intro s c hc; exact .inl hc
  | succ f ih =>
    intro s c hc
    unfold repl at hc
    by_cases h : Lib.index s old < 0
    · rw [if_pos h] at hc; exact .inl hc
    · rw [if_neg h] at hc
      rcases List.mem_append.1 hc with hc | hc
      · rcases List.mem_append.1 hc with hc | hc
        · exact .inl (List.mem_of_mem_take hc)
        · exact .inr hc
      · rcases ih _ c hc with h1 | h1
        · exact .inl (List.mem_of_mem_drop h1)
        · exact .inr h1

/-- A class toggled (how = true) or added. -/
def stX (how : Bool) (X c : List UInt8) : List UInt8 := if how then togX X c else addX X c

theorem stX_asc {how : Bool} {X c : List UInt8} (h : AscT X) (hc : AscT c) : AscT (stX how X c) := by
  unfold stX
  cases how
  · simp only [Bool.false_eq_true, if_false]
    unfold addX
    split
    · exact h
    · exact asc_append (asc_append h hc) asc_blank
  · simp only [if_true]
    unfold togX
    split
    · exact fun x hx => by
        rcases repl_mem _ _ x hx with h1 | h1
        · exact h x h1
        · exact asc_blank x h1
    · exact asc_append (asc_append h hc) asc_blank
theorem stX_len {how : Bool} {X c : List UInt8} : (stX how X c).length ≤ X.length + c.length + 1 := by
  unfold stX
  cases how
  · simp only [Bool.false_eq_true, if_false]
    unfold addX
    split
    · omega
    · simp; omega
  · simp only [if_true]
    unfold togX
    split
    · have := repl_len (old := blk c) (new := [32]) (by unfold blk; simp) (X.length + 1) X
      omega
    · simp; omega

def stAll (how : Bool) (X : List UInt8) (ns : List (List UInt8)) : List UInt8 := ns.foldl (stX how) X
theorem stAll_snoc (how : Bool) (X : List UInt8) (ns : List (List UInt8)) (c : List UInt8) : stAll how X (ns ++ [c]) = stX how (stAll how X ns) c := by simp [stAll]
theorem stAll_asc {how : Bool} : ∀ {ns : List (List UInt8)} {X : List UInt8}, AscT X → (∀ c ∈ ns, AscT c) → AscT (stAll how X ns) := by
  intro ns
  induction ns with
  | nil => intro X h _; exact h
  | cons c ns ih => intro X h hc; exact ih (stX_asc h (hc c (by simp))) fun x hx => hc x (by simp [hx])
theorem stAll_len {how : Bool} {m : Nat} : ∀ {ns : List (List UInt8)} {X : List UInt8}, (∀ c ∈ ns, c.length ≤ m) → (stAll how X ns).length ≤ X.length + ns.length * (m + 1) := by
  intro ns
  induction ns with
  | nil => intro X _; simp [stAll]
  | cons c ns ih =>
    intro X hc
    have h1 := ih (X := stX how X c) fun x hx => hc x (by simp [hx])
    have h2 := stX_len (how := how) (X := X) (c := c)
    have h3 := hc c (by simp)
    show (stAll how (stX how X c) ns).length ≤ _
    rw [List.length_cons, Nat.add_mul, Nat.one_mul]
    omega

/-- Names joined by blanks. -/
theorem join_words : ∀ (ns : List (List UInt8)), (∀ c ∈ ns, CN c) → words (Lib.join ns [32]) = ns := by
  intro ns
  induction ns with
  | nil => intro _; rfl
  | cons a ns ih =>
    intro h
    have ha := h a (by simp)
    have hn := fun x hx => h x (List.mem_cons_of_mem _ hx)
    cases ns with
    | nil =>
      have : Lib.join [a] [32] = a := by simp [Lib.join, List.intercalate]
      rw [this]; exact words_one ha.ws ha.ne
    | cons b ns =>
      have : Lib.join (a :: b :: ns) [32] = a ++ 32 :: Lib.join (b :: ns) [32] := by simp [Lib.join, List.intercalate]
      rw [this, words_cat (by decide), words_one ha.ws ha.ne, ih hn]; rfl
theorem join_mem : ∀ (ns : List (List UInt8)), ∀ x ∈ Lib.join ns [32], x = 32 ∨ ∃ c ∈ ns, x ∈ c := by
  intro ns
  induction ns with
  | nil => intro x hx; simp [Lib.join, List.intercalate] at hx
  | cons a ns ih =>
    intro x hx
    cases ns with
    | nil =>
      have : Lib.join [a] [32] = a := by simp [Lib.join, List.intercalate]
      rw [this] at hx
      exact .inr ⟨a, by simp, hx⟩
    | cons b ns =>
      have : Lib.join (a :: b :: ns) [32] = a ++ 32 :: Lib.join (b :: ns) [32] := by simp [Lib.join, List.intercalate]
      rw [this] at hx
      rcases List.mem_append.1 hx with h | h
      · exact .inr ⟨a, by simp, h⟩
      · rcases List.mem_cons.1 h with h | h
        · exact .inl h
        · rcases ih x h with h | ⟨c, hc, hx⟩
          · exact .inl h
          · exact .inr ⟨c, List.mem_cons_of_mem _ hc, hx⟩
theorem join_asc {ns : List (List UInt8)} (h : ∀ c ∈ ns, NmT c) : AscT (Lib.join ns [32]) := fun x hx => by
  rcases join_mem ns x hx with h1 | ⟨c, hc, hx⟩
  · subst h1; decide
  · exact (h c hc).asc x hx
theorem join_len {m : Nat} : ∀ (ns : List (List UInt8)), (∀ c ∈ ns, c.length ≤ m) → (Lib.join ns [32]).length ≤ ns.length * (m + 1) := by
  intro ns
  induction ns with
  | nil => intro _; simp [Lib.join, List.intercalate]
  | cons a ns ih =>
    intro h
    have h1 := h a (by simp)
    have h2 := ih fun x hx => h x (List.mem_cons_of_mem _ hx)
    rw [List.length_cons, Nat.add_mul, Nat.one_mul]
    cases ns with
    | nil =>
      have : Lib.join [a] [32] = a := by simp [Lib.join, List.intercalate]
      rw [this]; omega
    | cons b ns =>
      have : Lib.join (a :: b :: ns) [32] = a ++ 32 :: Lib.join (b :: ns) [32] := by simp [Lib.join, List.intercalate]
      rw [this, List.length_append, List.length_cons]; omega
end Go.Proofs.Ytjebadadimejpaa
