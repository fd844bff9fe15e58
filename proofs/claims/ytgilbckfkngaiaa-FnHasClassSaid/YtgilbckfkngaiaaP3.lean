/- FnHasClass: words, classes, the walk (joined). -/
import Derived.Lib.IndexMore
import Derived.Lib.IndexLaws
import Derived.Lib.Space
import Derived.Test.YtgilbckfkngaiaaRows
import Derived.WalkKit
import Derived.WalkSpells
import Derived.WalkLawsBesides
import Derived.Lib.Hide
import Derived.Laws.AppendOwn
import Derived.Maps.AppendAt
import Derived.Below
import Derived.LoopTactic
import Derived.Lib.FieldsLaws
import Derived.Lib.IndexBytes
import Derived.Lib.Case
import Derived.Lib.BufferWrite
import Derived.Deep.OwnRows
import Derived.Test.YtgilbckfkngaiaaT40
import Derived.Test.YtgilbckfkngaiaaT111
import Derived.Test.YtgilbckfkngaiaaT28
import Derived.Test.YtgilbckfkngaiaaT30
namespace Go.Proofs.Ytgilbckfkngaiaa
set_option linter.unusedVariables false

/-- White space of HTML. -/
def wsB (c : UInt8) : Bool := c == 32 || c == 9 || c == 10 || c == 13 || c == 12

def wds : List UInt8 → List UInt8 → List (List UInt8)
  | cur, [] => if cur = [] then [] else [cur]
  | cur, c :: l => if wsB c = true then (if cur = [] then wds [] l else cur :: wds [] l) else wds (cur ++ [c]) l
/-- The words of a text. -/
def words (l : List UInt8) : List (List UInt8) := wds [] l

theorem wds_ws {cur : List UInt8} {c : UInt8} (l : List UInt8) (h : wsB c = true) : wds cur (c :: l) = (if cur = [] then [] else [cur]) ++ wds [] l := by
  rw [wds, if_pos h]
  split <;> simp
theorem wds_no {cur : List UInt8} {c : UInt8} (l : List UInt8) (h : wsB c = false) : wds cur (c :: l) = wds (cur ++ [c]) l := by
  rw [wds, if_neg (by simp [h])]
theorem wds_cat {c : UInt8} (h : wsB c = true) (b : List UInt8) : ∀ (a cur : List UInt8), wds cur (a ++ c :: b) = wds cur a ++ wds [] b := by
  intro a
  induction a with
  | nil => intro cur; rw [List.nil_append, wds_ws _ h]; rfl
  | cons x a ih =>
    intro cur
    rw [List.cons_append]
    cases hx : wsB x
    · rw [wds_no _ hx, wds_no _ hx, ih]
    · rw [wds_ws _ hx, wds_ws _ hx, ih, List.append_assoc]
theorem words_cat {c : UInt8} (h : wsB c = true) (a b : List UInt8) : words (a ++ c :: b) = words a ++ words b := wds_cat h b a []
theorem words_front {c : UInt8} (h : wsB c = true) (b : List UInt8) : words (c :: b) = words b := by simpa [words, wds] using words_cat h [] b
theorem words_back {c : UInt8} (h : wsB c = true) (a : List UInt8) : words (a ++ [c]) = words a := by simpa [words, wds] using words_cat h a []
theorem wds_one : ∀ (l cur : List UInt8), (∀ c ∈ l, wsB c = false) → wds cur l = if cur ++ l = [] then [] else [cur ++ l] := by
  intro l
  induction l with
  | nil => intro cur _; rw [List.append_nil]; rfl
  | cons x l ih =>
    intro cur h
    rw [wds_no _ (h x (by simp)), ih _ (fun c hc => h c (by simp [hc])), List.append_assoc]
    rfl
theorem words_one {l : List UInt8} (h : ∀ c ∈ l, wsB c = false) (hne : l ≠ []) : words l = [l] := by
  unfold words
  rw [wds_one _ _ h, List.nil_append, if_neg hne]

theorem wds_mem : ∀ (l cur w : List UInt8), (∀ c ∈ cur, wsB c = false) → w ∈ wds cur l → w ≠ [] ∧ (∀ c ∈ w, wsB c = false) ∧ ∃ pre post, cur ++ l = pre ++ w ++ post ∧ (pre = [] ∨ ∃ p c, pre = p ++ [c] ∧ wsB c = true) ∧ (post = [] ∨ ∃ c p, post = c :: p ∧ wsB c = true) := by
  intro l
  induction l with
  | nil =>
    intro cur w hc hw
    rw [wds] at hw
    split at hw
    · simp at hw
    · rename_i hne
      rw [List.mem_singleton] at hw
      subst hw
      exact ⟨hne, hc, [], [], by simp, .inl rfl, .inl rfl⟩
  | cons x l ih =>
    intro cur w hc hw
    cases hx : wsB x
    · rw [wds_no _ hx] at hw
      have h := ih (cur ++ [x]) w (by intro c hm; rw [List.mem_append, List.mem_singleton] at hm; rcases hm with hm | rfl; exact hc c hm; exact hx) hw
      rwa [List.append_assoc] at h
    · rw [wds_ws _ hx, List.mem_append] at hw
      rcases hw with hw | hw
      · split at hw
        · simp at hw
        · rename_i hne
          rw [List.mem_singleton] at hw
          subst hw
          exact ⟨hne, hc, [], x :: l, by simp, .inl rfl, .inr ⟨x, l, rfl, hx⟩⟩
      · obtain ⟨h1, h2, pre, post, h3, h4, h5⟩ := ih [] w (by simp) hw
        refine ⟨h1, h2, cur ++ x :: pre, post, ?_, ?_, h5⟩
        · rw [List.nil_append] at h3; rw [h3]; simp
        · rcases h4 with rfl | ⟨p, c, rfl, hc2⟩
          · exact .inr ⟨cur, x, rfl, hx⟩
          · exact .inr ⟨cur ++ x :: p, c, by simp, hc2⟩
theorem words_mem {l w : List UInt8} (h : w ∈ words l) : w ≠ [] ∧ (∀ c ∈ w, wsB c = false) ∧ ∃ pre post, l = pre ++ w ++ post ∧ (pre = [] ∨ ∃ p c, pre = p ++ [c] ∧ wsB c = true) ∧ (post = [] ∨ ∃ c p, post = c :: p ∧ wsB c = true) :=
  wds_mem l [] w (by simp) h
theorem words_len_mem {l w : List UInt8} (h : w ∈ words l) : w.length ≤ l.length := by
  obtain ⟨_, _, pre, post, e, _⟩ := words_mem h
  rw [e]; simp; omega
theorem wds_count : ∀ (l cur : List UInt8), (wds cur l).length ≤ l.length + (if cur = [] then 0 else 1) := by
  intro l
  induction l with
  | nil => intro cur; rw [wds]; split <;> simp
  | cons x l ih =>
    intro cur
    cases hx : wsB x
    · rw [wds_no _ hx]
      have := ih (cur ++ [x])
      rw [if_neg (by simp)] at this
      rw [List.length_cons]; split <;> omega
    · rw [wds_ws _ hx, List.length_append, List.length_cons]
      have := ih []
      rw [if_pos rfl] at this
      split <;> simp <;> omega
theorem words_count (l : List UInt8) : (words l).length ≤ l.length := by
  have := wds_count l []
  rwa [if_pos rfl] at this

/-- A word is in a text, all white space of which are blanks, just if it stands there between blanks. -/
theorem words_between {l w : List UInt8} (hl : ∀ c ∈ l, wsB c = true → c = 32) (hw : ∀ c ∈ w, wsB c = false) (hne : w ≠ []) :
    w ∈ words l ↔ ∃ A B, 32 :: l ++ [32] = A ++ (32 :: w ++ [32]) ++ B := by
  constructor
  · intro h
    obtain ⟨_, _, pre, post, e, h1, h2⟩ := words_mem h
    have hp : ∃ A, 32 :: pre = A ++ [32] := by
      rcases h1 with rfl | ⟨p, c, rfl, hc⟩
      · exact ⟨[], rfl⟩
      · have : c = 32 := hl c (by rw [e]; simp) hc
        exact ⟨32 :: p, by rw [this]; simp⟩
    have hq : ∃ B, post ++ [32] = 32 :: B := by
      rcases h2 with rfl | ⟨c, p, rfl, hc⟩
      · exact ⟨[], rfl⟩
      · have : c = 32 := hl c (by rw [e]; simp) hc
        exact ⟨p ++ [32], by rw [this]; simp⟩
    obtain ⟨A, hA⟩ := hp
    obtain ⟨B, hB⟩ := hq
    refine ⟨A, B, ?_⟩
    have : 32 :: l ++ [32] = (32 :: pre) ++ w ++ (post ++ [32]) := by rw [e]; simp
    rw [this, hA, hB]; simp
  · rintro ⟨A, B, e⟩
    have e1 : words (32 :: l ++ [32]) = words l := by
      rw [words_back (by decide), words_front (by decide)]
    have e2 : words (A ++ (32 :: w ++ [32]) ++ B) = words A ++ ([w] ++ words B) := by
      have : A ++ (32 :: w ++ [32]) ++ B = A ++ 32 :: (w ++ 32 :: B) := by simp
      rw [this, words_cat (by decide), words_cat (by decide), words_one hw hne]
    rw [← e1, e, e2]; simp

theorem contains_iff (s sub : List UInt8) : Lib.contains s sub = true ↔ ∃ A B, s = A ++ sub ++ B := by
  unfold Lib.contains
  rw [decide_eq_true_eq]
  constructor
  · intro h
    rcases Lib.index_spec s sub with ⟨h1, _⟩ | ⟨i, h1, h2, h3, _⟩
    · omega
    · unfold Lib.occAt at h3
      obtain ⟨B, hB⟩ := List.isPrefixOf_iff_prefix.1 h3
      exact ⟨s.take i, B, by rw [List.append_assoc, hB, List.take_append_drop]⟩
  · rintro ⟨A, B, rfl⟩
    rcases Lib.index_spec (A ++ sub ++ B) sub with ⟨_, h2⟩ | ⟨i, h1, _⟩
    · have := h2 A.length (by simp)
      unfold Lib.occAt at this
      rw [List.append_assoc, List.drop_left] at this
      rw [List.isPrefixOf_iff_prefix.2 (List.prefix_append _ _)] at this
      cases this
    · omega
/-- Small letters. -/
def smB (c : UInt8) : UInt8 := if 65 ≤ c ∧ c ≤ 90 then c + 32 else c
theorem wsB_sm : ∀ c : UInt8, wsB (smB c) = wsB c := by
  intro c
  unfold smB
  split
  · rename_i h
    have h1 : 65 ≤ c.toNat := by simpa [UInt8.le_iff_toNat_le] using h.1
    have h2 : c.toNat ≤ 90 := by simpa [UInt8.le_iff_toNat_le] using h.2
    have e : ∀ (d : UInt8) (n : Nat), d.toNat = n → (n < 65) → (c == d) = false ∧ (c + 32 == d) = false := by
      intro d n hd hn
      have e3 : (c + 32).toNat = c.toNat + 32 := by rw [UInt8.toNat_add]; show (c.toNat + 32) % 256 = _; omega
      constructor
      · rw [beq_eq_false_iff_ne]; intro q; rw [q] at h1; omega
      · rw [beq_eq_false_iff_ne]; intro q; rw [q] at e3; omega
    unfold wsB
    simp [e 32 32 rfl (by decide), e 9 9 rfl (by decide), e 10 10 rfl (by decide), e 13 13 rfl (by decide), e 12 12 rfl (by decide)]
  · rfl
theorem wds_sm : ∀ (l cur : List UInt8), wds (cur.map smB) (l.map smB) = (wds cur l).map (List.map smB) := by
  intro l
  induction l with
  | nil => intro cur; simp only [List.map_nil, wds]; cases cur <;> simp
  | cons x l ih =>
    intro cur
    rw [List.map_cons]
    cases hx : wsB x
    · rw [wds_no _ hx, wds_no _ (by rw [wsB_sm]; exact hx), ← ih]; simp
    · rw [wds_ws _ hx, wds_ws _ (by rw [wsB_sm]; exact hx), List.map_append, ← ih]
      cases cur <;> simp
theorem words_sm (l : List UInt8) : words (l.map smB) = (words l).map (List.map smB) := wds_sm l []
end Go.Proofs.Ytgilbckfkngaiaa

namespace Go.Proofs.Ytgilbckfkngaiaa
set_option linter.unusedVariables false

/-- A name between blanks. -/
def blk (c : List UInt8) : List UInt8 := 32 :: c ++ [32]
/-- A text of classes: it begins and ends with a blank, and has no other white space. -/
structure CT (X : List UInt8) : Prop where
  front : ∃ m, X = 32 :: m
  back : ∃ m, X = m ++ [32]
  ws : ∀ c ∈ X, wsB c = true → c = 32
/-- A name of a class. -/
structure CN (c : List UInt8) : Prop where
  ne : c ≠ []
  ws : ∀ x ∈ c, wsB x = false

theorem CT.has {X c : List UInt8} (h : CT X) (hc : CN c) : Lib.contains X (blk c) = true ↔ c ∈ words X := by
  rw [contains_iff]
  have e1 : words (32 :: X ++ [32]) = words X := by rw [words_back (by decide), words_front (by decide)]
  constructor
  · rintro ⟨A, B, e⟩
    refine (words_between h.ws hc.ws hc.ne).2 ⟨32 :: A, B ++ [32], ?_⟩
    rw [e]; unfold blk; simp
  · intro hw
    obtain ⟨_, _, pre, post, e, h1, h2⟩ := words_mem hw
    have hp : ∃ A, pre = A ++ [32] := by
      rcases h1 with rfl | ⟨p, x, rfl, hx⟩
      · obtain ⟨m, hm⟩ := h.front
        rw [List.nil_append] at e
        obtain ⟨y, c', rfl⟩ := List.exists_cons_of_ne_nil hc.ne
        rw [hm] at e
        have : (32 : UInt8) = y := by simpa using congrArg List.head? e
        have h3 := hc.ws y (by simp)
        rw [← this] at h3; cases h3
      · have : x = 32 := h.ws x (by rw [e]; simp) hx
        exact ⟨p, by rw [this]⟩
    have hq : ∃ B, post = 32 :: B := by
      rcases h2 with rfl | ⟨x, p, rfl, hx⟩
      · obtain ⟨m, hm⟩ := h.back
        rw [List.append_nil] at e
        rcases List.eq_nil_or_concat c with hn | ⟨c', y, rfl⟩
        · exact absurd hn hc.ne
        · rw [hm, List.concat_eq_append, ← List.append_assoc] at e
          have : (32 : UInt8) = y := by simpa using (congrArg List.getLast? e)
          have h3 := hc.ws y (by simp)
          rw [← this] at h3; cases h3
      · have : x = 32 := h.ws x (by rw [e]; simp) hx
        exact ⟨p, by rw [this]⟩
    obtain ⟨A, rfl⟩ := hp
    obtain ⟨B, rfl⟩ := hq
    exact ⟨A, B, by rw [e]; unfold blk; simp⟩

/-- What the program's helper for replacing gives. -/
def repl (old new : List UInt8) : Nat → List UInt8 → List UInt8
  | 0, s => s
  | f + 1, s => if Lib.index s old < 0 then s else s.take (Lib.index s old).toNat ++ new ++ repl old new f (s.drop ((Lib.index s old).toNat + old.length))

theorem index_parts {s old : List UInt8} (h : 0 ≤ Lib.index s old) : ∃ B, s = s.take (Lib.index s old).toNat ++ old ++ B ∧ s.drop ((Lib.index s old).toNat + old.length) = B := by
  rcases Lib.index_spec s old with ⟨h1, _⟩ | ⟨i, h1, h2, h3, _⟩
  · omega
  · rw [h1]
    unfold Lib.occAt at h3
    obtain ⟨B, hB⟩ := List.isPrefixOf_iff_prefix.1 h3
    refine ⟨B, ?_, ?_⟩
    · rw [Int.toNat_natCast, List.append_assoc, hB, List.take_append_drop]
    · rw [Int.toNat_natCast, ← List.drop_drop, ← hB, List.drop_left]
theorem index_no {s old : List UInt8} (h : Lib.contains s old = false) : Lib.index s old < 0 := by
  unfold Lib.contains at h
  rw [decide_eq_false_iff_not] at h; omega
theorem repl_no {s old new : List UInt8} (h : Lib.contains s old = false) : ∀ f, repl old new f s = s := by
  intro f
  cases f with
  | zero => rfl
  | succ f => rw [repl, if_pos (index_no h)]

/-- A class toggled. -/
def togX (X c : List UInt8) : List UInt8 := if Lib.contains X (blk c) = true then repl (blk c) [32] (X.length + 1) X else X ++ c ++ [32]
/-- A class added, unless it is there. -/
def addX (X c : List UInt8) : List UInt8 := if Lib.contains X (blk c) = true then X else X ++ c ++ [32]

theorem CT.more {X c : List UInt8} (h : CT X) (hc : CN c) : CT (X ++ c ++ [32]) ∧ words (X ++ c ++ [32]) = words X ++ [c] := by
  obtain ⟨m, hm⟩ := h.front
  obtain ⟨b, hb⟩ := h.back
  refine ⟨⟨⟨m ++ c ++ [32], by rw [hm]; simp⟩, ⟨X ++ c, rfl⟩, fun x hx hw => ?_⟩, ?_⟩
  · rw [List.mem_append, List.mem_append, List.mem_singleton] at hx
    rcases hx with (hx | hx) | hx
    · exact h.ws x hx hw
    · have := hc.ws x hx; rw [hw] at this; cases this
    · exact hx
  · have e : X ++ c ++ [32] = b ++ 32 :: (c ++ [32]) := by rw [hb]; simp
    rw [e, words_cat (by decide), words_back (by decide), words_one hc.ws hc.ne, hb, words_back (by decide)]
theorem CT.less {X c : List UInt8} (h : CT X) (hc : CN c) (hn : (words X).Nodup) (hw : c ∈ words X) :
    ∃ A B, X = A ++ blk c ++ B ∧ togX X c = A ++ 32 :: B ∧ CT (togX X c) ∧ words X = words A ++ c :: words B ∧ words (togX X c) = words A ++ words B := by
  have hcon := (h.has hc).2 hw
  have h0 : 0 ≤ Lib.index X (blk c) := by unfold Lib.contains at hcon; exact decide_eq_true_eq.mp hcon
  obtain ⟨B, e1, e2⟩ := index_parts h0
  obtain ⟨A, hA⟩ : ∃ A, A = X.take (Lib.index X (blk c)).toNat := ⟨_, rfl⟩
  rw [← hA] at e1
  have ew : words X = words A ++ c :: words B := by
    have : X = A ++ 32 :: (c ++ 32 :: B) := by rw [e1]; unfold blk; simp
    rw [this, words_cat (by decide), words_cat (by decide), words_one hc.ws hc.ne]; rfl
  have hnB : Lib.contains B (blk c) = false := by
    rw [Bool.eq_false_iff]
    intro q
    obtain ⟨A2, B2, e3⟩ := (contains_iff _ _).1 q
    have : B = A2 ++ 32 :: (c ++ 32 :: B2) := by rw [e3]; unfold blk; simp
    have hB : c ∈ words B := by
      rw [this, words_cat (by decide), words_cat (by decide), words_one hc.ws hc.ne]; simp
    rw [ew, List.nodup_append] at hn
    exact (List.nodup_cons.1 hn.2.1).1 hB
  have et : togX X c = A ++ 32 :: B := by
    unfold togX
    rw [if_pos hcon, repl, if_neg (by omega), e2, repl_no hnB, ← hA]; simp
  refine ⟨A, B, e1, et, ?_, ew, ?_⟩
  · rw [et]
    obtain ⟨m, hm⟩ := h.front
    obtain ⟨b, hb⟩ := h.back
    refine ⟨?_, ?_, fun x hx hxw => ?_⟩
    · cases A with
      | nil => exact ⟨B, rfl⟩
      | cons y A =>
        rw [hm] at e1
        have : (32 : UInt8) = y := by simpa using congrArg List.head? e1
        exact ⟨A ++ 32 :: B, by rw [← this]; rfl⟩
    · rcases List.eq_nil_or_concat B with rfl | ⟨B', y, rfl⟩
      · exact ⟨A, rfl⟩
      · rw [hb, List.concat_eq_append, ← List.append_assoc] at e1
        have : (32 : UInt8) = y := by simpa using congrArg List.getLast? e1
        exact ⟨A ++ 32 :: B', by rw [← this, List.concat_eq_append]; simp⟩
    · have : x ∈ X := by
        rw [e1]; unfold blk
        rw [List.mem_append, List.mem_cons] at hx
        rcases hx with hx | hx | hx
        · simp [hx]
        · simp [hx]
        · simp [hx]
      exact h.ws x this hxw
  · rw [et, words_cat (by decide)]

/-- A toggled class is there just if it was not; all others stay. -/
theorem CT.tog {X c : List UInt8} (h : CT X) (hc : CN c) (hn : (words X).Nodup) :
    CT (togX X c) ∧ (words (togX X c)).Nodup ∧ ∀ v, v ∈ words (togX X c) ↔ (v ∈ words X ∧ v ≠ c) ∨ (v = c ∧ c ∉ words X) := by
  by_cases hw : c ∈ words X
  · obtain ⟨A, B, _, _, h3, h4, h5⟩ := h.less hc hn hw
    rw [h4] at hn ⊢
    rw [h5]
    have hn2 := List.nodup_append.1 hn
    have hn3 := List.nodup_cons.1 hn2.2.1
    refine ⟨h3, ?_, fun v => ?_⟩
    · exact hn.sublist ((List.Sublist.refl _).append (List.sublist_cons_self _ _))
    · simp only [List.mem_append, List.mem_cons, true_or, or_true, not_true_eq_false, and_false, or_false]
      constructor
      · rintro (q | q)
        · exact ⟨.inl q, fun e => hn2.2.2 v q c (by simp) e⟩
        · exact ⟨.inr (.inr q), fun e => hn3.1 (e ▸ q)⟩
      · rintro ⟨q | q | q, hne⟩
        · exact .inl q
        · exact absurd q hne
        · exact .inr q
  · have hcon : Lib.contains X (blk c) = false := by
      rw [Bool.eq_false_iff]; intro q; exact hw ((h.has hc).1 q)
    have et : togX X c = X ++ c ++ [32] := by unfold togX; rw [if_neg (by simp [hcon])]
    obtain ⟨h1, h2⟩ := h.more hc
    rw [et, h2]
    refine ⟨h1, ?_, fun v => ?_⟩
    · rw [List.nodup_append]
      exact ⟨hn, by simp, fun a ha b hb e => hw (by rw [List.mem_singleton] at hb; rw [← hb, ← e]; exact ha)⟩
    · rw [List.mem_append, List.mem_singleton]
      constructor
      · rintro (q | q)
        · exact .inl ⟨q, fun e => hw (e ▸ q)⟩
        · exact .inr ⟨q, hw⟩
      · rintro (⟨q, _⟩ | ⟨q, _⟩)
        · exact .inl q
        · exact .inr q

/-- White space cut off at both ends changes no words. -/
theorem words_dropWhile : ∀ (l : List UInt8), (∀ c ∈ l, Lib.isSp c = true → wsB c = true) → words (l.dropWhile Lib.isSp) = words l := by
  intro l
  induction l with
  | nil => intro _; rfl
  | cons x l ih =>
    intro h
    rw [List.dropWhile_cons]
    split
    · rename_i hx
      rw [ih (fun c hc => h c (by simp [hc])), words_front (h x (by simp) hx)]
    · rfl
theorem words_dropR : ∀ (l : List UInt8), (∀ c ∈ l, Lib.isSp c = true → wsB c = true) → words ((l.dropWhile Lib.isSp).reverse) = words l.reverse := by
  intro l
  induction l with
  | nil => intro _; rfl
  | cons x l ih =>
    intro h
    rw [List.dropWhile_cons]
    split
    · rename_i hx
      rw [ih (fun c hc => h c (by simp [hc])), List.reverse_cons, words_back (h x (by simp) hx)]
    · rfl
theorem words_trim {l : List UInt8} (h : ∀ c ∈ l, Lib.isSp c = true → wsB c = true) : words (Lib.trimSpace l) = words l := by
  unfold Lib.trimSpace
  have h2 : ∀ c ∈ l.dropWhile Lib.isSp, Lib.isSp c = true → wsB c = true := fun c hc => h c ((List.dropWhile_suffix _).subset hc)
  rw [words_dropR _ (fun c hc => h2 c (List.mem_reverse.1 hc)), List.reverse_reverse, words_dropWhile _ h]
end Go.Proofs.Ytgilbckfkngaiaa

namespace Go.Proofs.Ytgilbckfkngaiaa
open Go.RowKit
set_option linter.unusedVariables false

theorem Try.infoStr : (Try.prog.info? 9).map (fun i => (i.zero, i.size, i.bytes)) = some (some (.string ⟨#[]⟩), 1, 16) := by kernel_rfl

/-- Texts, as values. -/
def strs (l : List (List UInt8)) : List Value := l.map fun x => Value.string ⟨x.toArray⟩
theorem strs_length (l : List (List UInt8)) : (strs l).length = l.length := by simp [strs]
theorem strs_at {l : List (List UInt8)} {i : Nat} (h : i < l.length) : (strs l)[i]'(by rw [strs_length]; exact h) = .string ⟨l[i].toArray⟩ := by simp [strs]
theorem strs_snoc (l : List (List UInt8)) (x : List UInt8) : strs (l ++ [x]) = strs l ++ [.string ⟨x.toArray⟩] := by simp [strs]
theorem ext_str (s : ByteArray) (a b : Nat) : s.extract a b = ⟨((s.data.toList.drop a).take (b - a)).toArray⟩ := by
  apply ByteArray.ext
  apply Array.ext'
  rw [Lib.extract_data]
theorem wsB_iff (c : UInt8) : wsB c = true ↔ c.toNat = 32 ∨ c.toNat = 9 ∨ c.toNat = 10 ∨ c.toNat = 13 ∨ c.toNat = 12 := by
  have e : ∀ d : UInt8, (c == d) = true ↔ c.toNat = d.toNat := fun d => by rw [beq_iff_eq]; exact UInt8.toNat_inj.symm
  unfold wsB
  simp only [Bool.or_eq_true, e]
  rw [or_assoc, or_assoc, or_assoc]
  exact Iff.rfl

set_option maxRecDepth 100000 in
theorem space_any (c : UInt8) (w : World) : Calls Try.prog 109 #[.int .u8 c.toNat] w fun e w' => e = .returned (.bool (wsB c)) ∧ w = w' := by
  cases hw : wsB c
  · have h : ¬ (c.toNat = 32 ∨ c.toNat = 9 ∨ c.toNat = 10 ∨ c.toNat = 13 ∨ c.toNat = 12) := by rw [← wsB_iff, hw]; simp
    have z1 : ((c.toNat : Int) == 32) = false := beq_eq_false_iff_ne.2 (by omega)
    have z2 : ((c.toNat : Int) == 9) = false := beq_eq_false_iff_ne.2 (by omega)
    have z3 : ((c.toNat : Int) == 10) = false := beq_eq_false_iff_ne.2 (by omega)
    have z4 : ((c.toNat : Int) == 13) = false := beq_eq_false_iff_ne.2 (by omega)
    have z5 : ((c.toNat : Int) == 12) = false := beq_eq_false_iff_ne.2 (by omega)
    clear h hw
    go_enter Try.func109, Try.ntmps109
    go_wp2_with fail
    go_ret
    exact ⟨rfl, rfl⟩
  · have h := (wsB_iff c).1 hw
    clear hw
    rcases h with h | h | h | h | h
    all_goals
      rw [h]
      clear h
      go_enter Try.func109, Try.ntmps109
      go_wp2_with fail
      go_ret
      exact ⟨rfl, rfl⟩

theorem own_sl {w : World} {base e size n : Nat} {v : Value} {xs : List Value} (h : w.ownsRow base e size v n xs) : ∃ a c, v = .slice a n c := by
  rcases h.2 with ⟨hv, h0⟩ | ⟨g, cap, cur, hv, _⟩
  · exact ⟨none, 0, by rw [hv, h0]⟩
  · exact ⟨_, cap, hv⟩

def StrsPost (l : List (List UInt8)) (w : World) (e : Ending) (w' : World) : Prop :=
  ∃ a c, e = .returned (.slice a l.length c) ∧ w'.ownsRow w.heap.size 9 1 (.slice a l.length c) l.length (strs l) ∧ Below w.heap.size w w'
def WordsRel (s : ByteArray) (W : World) (v fr x : Value) (wr : World) : Prop :=
  ∃ (k f : Nat) (acc : List (List UInt8)) (a : Option Addr) (c : Nat), k ≤ s.size + 1 ∧ f ≤ k ∧ (k = s.size + 1 → f = k) ∧ x = .int .i64 (k : Nat) ∧ fr = .int .i64 (f : Nat) ∧ v = .slice a acc.length c ∧
    wr.ownsRow W.heap.size 9 1 (.slice a acc.length c) acc.length (strs acc) ∧ Hid (words s.data.toList = acc ++ wds ((s.data.toList.drop f).take (k - f)) (s.data.toList.drop k)) ∧ acc.length ≤ k ∧ Below W.heap.size W wr

theorem words_go {l : List UInt8} {k f : Nat} {acc : List (List UInt8)} {c : UInt8} (hf : f ≤ k) (hk : l[k]? = some c) (hc : wsB c = false) (h : words l = acc ++ wds ((l.drop f).take (k - f)) (l.drop k)) :
    words l = acc ++ wds ((l.drop f).take (k + 1 - f)) (l.drop (k + 1)) := by
  rw [h, Lib.drop_at hk, wds_no _ hc, Lib.piece_more hf hk]
theorem words_cut {l : List UInt8} {k f : Nat} {acc : List (List UInt8)} (hf : f ≤ k) (hkl : k ≤ l.length) (hc : ∀ c, l[k]? = some c → wsB c = true) (h : words l = acc ++ wds ((l.drop f).take (k - f)) (l.drop k)) :
    words l = (if f < k then acc ++ [(l.drop f).take (k - f)] else acc) ++ wds ((l.drop (k + 1)).take (k + 1 - (k + 1))) (l.drop (k + 1)) := by
  have h1 : wds ((l.drop f).take (k - f)) (l.drop k) = (if (l.drop f).take (k - f) = [] then [] else [(l.drop f).take (k - f)]) ++ wds [] (l.drop (k + 1)) := by
    cases hk : l[k]? with
    | none =>
      have : l.length ≤ k := List.getElem?_eq_none_iff.1 hk
      rw [List.drop_of_length_le this, List.drop_of_length_le (by omega : l.length ≤ k + 1), wds, wds]; simp
    | some c => rw [Lib.drop_at hk, wds_ws _ (hc c hk)]
  rw [h, h1, Nat.sub_self, List.take_zero]
  by_cases hlt : f < k
  · rw [if_pos hlt, if_neg (Lib.piece_ne hlt hkl), List.append_assoc]
  · obtain rfl : f = k := by omega
    simp

set_option maxRecDepth 100000 in
set_option maxHeartbeats 2000000 in
theorem wordsOf_any (s : ByteArray) (hs : s.size ≤ 2147483647) (w : World) : Calls Try.prog 71 #[.string s] w (StrsPost (words s.data.toList) w) := by
  obtain ⟨i0, hinf, hz0, hz1, hz2⟩ := info_parts Try.infoStr
  have hsl : s.data.toList.length = s.size := rfl
  have HL := Lib.hid hsl
  clear hsl
  go_enter Try.func71, Try.ntmps71
  go_wp2_with fail
  go_loopw [3, 4, 5] (fun v fr x wr => WordsRel s w v fr x wr) (fun _ _ x _ => s.size + 1 - (intOf x).toNat)
  case atStart => exact ⟨0, 0, [], none, 0, by omega, by omega, (fun h => by omega), rfl, rfl, rfl, World.ownsRow_nil _ _ _ _, (by simp [Hid, words]), by simp, Below.refl _ _⟩
  case round =>
    obtain ⟨k, f, acc, a, c, hk, hf, hfin, rfl, rfl, rfl, hown, hw, hal, hb⟩ := hrel
    have HB := Lib.hid hb
    have HW := Lib.hid hown
    have HFin := Lib.hid hfin
    have hsz := hb.size
    clear hb hown hfin
    by_cases hle : k ≤ s.size
    · have HCut := Lib.hid (fun h => words_cut (l := s.data.toList) hf (by have := HL.out; omega) h hw.out)
      have HX : Hid (s.extract f k = ⟨((s.data.toList.drop f).take (k - f)).toArray⟩) := ext_str s f k
      by_cases hlt : k < s.size
      · have hgk : s.data.toList[k]? = some s[k] := by
          rw [List.getElem?_eq_getElem (by have := HL.out; omega)]; rfl
        have HSp := Lib.hid (space_any s[k] wr)
        cases hc : wsB s[k]
        · have HN := Lib.hid (words_go hf hgk hc hw.out)
          rw [hc] at HSp
          clear hw HCut hgk hc
          go_wp2_with fail
          refine HSp.out.mono ?_
          rintro e w1 ⟨rfl, rfl⟩
          go_wp2_with fail
          go_roundw
          case rel => exact ⟨k + 1, f, acc, a, c, by omega, by omega, (fun h => by omega), by go_num, rfl, rfl, HW.out, HN.out, by omega, HB.out⟩
          case measure => simp [intOf]; omega
        · have HN := Lib.hid (HCut.out (fun d hd => by rw [hgk] at hd; cases hd; exact hc))
          rw [hc] at HSp
          clear hw HCut hgk hc
          by_cases hfk : f < k
          · rw [if_pos hfk] at HN
            go_wp2_with fail
            refine HSp.out.mono ?_
            rintro e w1 ⟨rfl, rfl⟩
            go_wp2_with (at_builtin; refine wpList_append_own _ rfl _ _ 30 rfl w.heap.size 9 i0 (.string ⟨#[]⟩) 1 16 Try.underlying30 hinf hz0 hz1 hz2 rfl (by decide) _ _ _ rfl (HW.out.alloc _) ⟨wr.heap.size, 0, none⟩ 1 1 [.string (s.extract f k)] rfl rfl (cell_one_new _ _ _) (by intro u hu; simp at hu; subst hu; rfl) (by unfold maxLen; omega) (by omega) (by simp; omega) ?_)
            intro v' w3 hown' hgrow _
            obtain ⟨a3, c3, hv2⟩ := own_sl hown'
            rw [hv2] at hown' ⊢
            have hb1 : Below w.heap.size w w3 := (HB.out.alloc hsz _).grown hgrow (by simp; omega) (fun q hq => (HW.out.lt q hq).1)
            have HO1 : Hid (w3.ownsRow w.heap.size 9 1 (.slice a3 (acc.length + 1) c3) (acc.length + 1) (strs (acc ++ [(s.data.toList.drop f).take (k - f)]))) := by
              rw [Hid, strs_snoc, ← HX.out]; exact hown'
            clear hown' hgrow hv2
            go_wp2_with fail
            go_roundw
            case rel => exact ⟨k + 1, k + 1, _, a3, c3, by omega, by omega, (fun h => by omega), by go_num, by go_num, by rw [List.length_append]; rfl, by rw [List.length_append]; exact HO1.out, HN.out, by rw [List.length_append]; simp; omega, hb1⟩
            case measure => simp [intOf]; omega
          · rw [if_neg hfk] at HN
            go_wp2_with fail
            refine HSp.out.mono ?_
            rintro e w1 ⟨rfl, rfl⟩
            go_wp2_with fail
            go_roundw
            case rel => exact ⟨k + 1, k + 1, acc, a, c, by omega, by omega, (fun h => by omega), by go_num, by go_num, rfl, HW.out, HN.out, by omega, HB.out⟩
            case measure => simp [intOf]; omega
      · have HN := Lib.hid (HCut.out (fun d hd => by rw [List.getElem?_eq_none (by have := HL.out; omega)] at hd; cases hd))
        clear hw HCut
        by_cases hfk : f < k
        · rw [if_pos hfk] at HN
          go_wp2_with (at_builtin; refine wpList_append_own _ rfl _ _ 30 rfl w.heap.size 9 i0 (.string ⟨#[]⟩) 1 16 Try.underlying30 hinf hz0 hz1 hz2 rfl (by decide) _ _ _ rfl (HW.out.alloc _) ⟨wr.heap.size, 0, none⟩ 1 1 [.string (s.extract f k)] rfl rfl (cell_one_new _ _ _) (by intro u hu; simp at hu; subst hu; rfl) (by unfold maxLen; omega) (by omega) (by simp; omega) ?_)
          intro v' w3 hown' hgrow _
          obtain ⟨a3, c3, hv2⟩ := own_sl hown'
          rw [hv2] at hown' ⊢
          have hb1 : Below w.heap.size w w3 := (HB.out.alloc hsz _).grown hgrow (by simp; omega) (fun q hq => (HW.out.lt q hq).1)
          have HO1 : Hid (w3.ownsRow w.heap.size 9 1 (.slice a3 (acc.length + 1) c3) (acc.length + 1) (strs (acc ++ [(s.data.toList.drop f).take (k - f)]))) := by
            rw [Hid, strs_snoc, ← HX.out]; exact hown'
          clear hown' hgrow hv2
          go_wp2_with fail
          go_roundw
          case rel => exact ⟨k + 1, k + 1, _, a3, c3, by omega, by omega, (fun h => by omega), by go_num, by go_num, by rw [List.length_append]; rfl, by rw [List.length_append]; exact HO1.out, HN.out, by rw [List.length_append]; simp; omega, hb1⟩
          case measure => simp [intOf]; omega
        · rw [if_neg hfk] at HN
          go_wp2_with fail
          go_roundw
          case rel => exact ⟨k + 1, k + 1, acc, a, c, by omega, by omega, (fun h => by omega), by go_num, by go_num, rfl, HW.out, HN.out, by omega, HB.out⟩
          case measure => simp [intOf]; omega
    · have e : k = s.size + 1 := by omega
      have e2 : acc = words s.data.toList := by
        have h1 := hw.out
        have h2 := HFin.out e
        rw [h2, Nat.sub_self, List.take_zero, List.drop_of_length_le (by have := HL.out; omega), wds, if_pos rfl, List.append_nil] at h1
        exact h1.symm
      clear e hw HFin
      go_wp2_with fail
      go_ret
      subst e2
      exact ⟨a, c, rfl, HW.out, HB.out⟩
end Go.Proofs.Ytgilbckfkngaiaa

namespace Go.Proofs.Ytgilbckfkngaiaa
open Go.RowKit
set_option linter.unusedVariables false

set_option maxRecDepth 100000 in
set_option maxHeartbeats 2000000 in
theorem wordsC_any (s : ByteArray) (hs : s.size ≤ 2147483647) (w : World) : Calls Try.prog 27 #[.string s] w (StrsPost (words s.data.toList) w) := by
  obtain ⟨i0, hinf, hz0, hz1, hz2⟩ := info_parts Try.infoStr
  have hsl : s.data.toList.length = s.size := rfl
  have HL := Lib.hid hsl
  clear hsl
  go_enter Try.func27, Try.ntmps27
  go_wp2_with fail
  go_loopw [3, 4, 5] (fun v fr x wr => WordsRel s w v fr x wr) (fun _ _ x _ => s.size + 1 - (intOf x).toNat)
  case atStart => exact ⟨0, 0, [], none, 0, by omega, by omega, (fun h => by omega), rfl, rfl, rfl, World.ownsRow_nil _ _ _ _, (by simp [Hid, words]), by simp, Below.refl _ _⟩
  case round =>
    obtain ⟨k, f, acc, a, c, hk, hf, hfin, rfl, rfl, rfl, hown, hw, hal, hb⟩ := hrel
    have HB := Lib.hid hb
    have HW := Lib.hid hown
    have HFin := Lib.hid hfin
    have hsz := hb.size
    clear hb hown hfin
    by_cases hle : k ≤ s.size
    · have HCut := Lib.hid (fun h => words_cut (l := s.data.toList) hf (by have := HL.out; omega) h hw.out)
      have HX : Hid (s.extract f k = ⟨((s.data.toList.drop f).take (k - f)).toArray⟩) := ext_str s f k
      by_cases hlt : k < s.size
      · have hgk : s.data.toList[k]? = some s[k] := by
          rw [List.getElem?_eq_getElem (by have := HL.out; omega)]; rfl
        have hwi := wsB_iff s[k]
        cases hc : wsB s[k]
        · have HN := Lib.hid (words_go hf hgk hc hw.out)
          rw [hc] at hwi
          have hn : ¬ (s[k].toNat = 32 ∨ s[k].toNat = 9 ∨ s[k].toNat = 10 ∨ s[k].toNat = 13 ∨ s[k].toNat = 12) := fun h => by cases hwi.2 h
          have z1 : ((s[k].toNat : Int) != 32) = true := by rw [bne_iff_ne]; omega
          have z2 : ((s[k].toNat : Int) != 9) = true := by rw [bne_iff_ne]; omega
          have z3 : ((s[k].toNat : Int) != 10) = true := by rw [bne_iff_ne]; omega
          have z4 : ((s[k].toNat : Int) != 12) = true := by rw [bne_iff_ne]; omega
          have z5 : ((s[k].toNat : Int) != 13) = true := by rw [bne_iff_ne]; omega
          clear hw HCut hgk hc hn hwi
          go_wp2_with fail
          go_roundw
          case rel => exact ⟨k + 1, f, acc, a, c, by omega, by omega, (fun h => by omega), by go_num, rfl, rfl, HW.out, HN.out, by omega, HB.out⟩
          case measure => simp [intOf]; omega
        · have HN := Lib.hid (HCut.out (fun d hd => by rw [hgk] at hd; cases hd; exact hc))
          have hy := hwi.1 hc
          have HNN := Lib.hid HN.out
          clear hw HCut hgk hc hwi HN
          have hz : ∃ z1 z2 z3 z4 z5 : Bool, ((s[k].toNat : Int) != 32) = z1 ∧ ((s[k].toNat : Int) != 9) = z2 ∧ ((s[k].toNat : Int) != 10) = z3 ∧ ((s[k].toNat : Int) != 12) = z4 ∧ ((s[k].toNat : Int) != 13) = z5 ∧ ((z1 = false ∧ z2 = true ∧ z3 = true ∧ z4 = true ∧ z5 = true) ∨ (z1 = true ∧ z2 = false ∧ z3 = true ∧ z4 = true ∧ z5 = true) ∨ (z1 = true ∧ z2 = true ∧ z3 = false ∧ z4 = true ∧ z5 = true) ∨ (z1 = true ∧ z2 = true ∧ z3 = true ∧ z4 = false ∧ z5 = true) ∨ (z1 = true ∧ z2 = true ∧ z3 = true ∧ z4 = true ∧ z5 = false)) := by
            refine ⟨_, _, _, _, _, rfl, rfl, rfl, rfl, rfl, ?_⟩
            rcases hy with hy | hy | hy | hy | hy <;> rw [hy] <;> decide
          clear hy
          obtain ⟨z1, z2, z3, z4, z5, e1, e2, e3, e4, e5, hz⟩ := hz
          rcases hz with ⟨rfl, rfl, rfl, rfl, rfl⟩ | ⟨rfl, rfl, rfl, rfl, rfl⟩ | ⟨rfl, rfl, rfl, rfl, rfl⟩ | ⟨rfl, rfl, rfl, rfl, rfl⟩ | ⟨rfl, rfl, rfl, rfl, rfl⟩
          all_goals
            have HN := Lib.hid HNN.out
            clear HNN
            by_cases hfk : f < k
            · rw [if_pos hfk] at HN
              go_wp2_with (at_builtin; refine wpList_append_own _ rfl _ _ 30 rfl w.heap.size 9 i0 (.string ⟨#[]⟩) 1 16 Try.underlying30 hinf hz0 hz1 hz2 rfl (by decide) _ _ _ rfl (HW.out.alloc _) ⟨wr.heap.size, 0, none⟩ 1 1 [.string (s.extract f k)] rfl rfl (cell_one_new _ _ _) (by intro u hu; simp at hu; subst hu; rfl) (by unfold maxLen; omega) (by omega) (by simp; omega) ?_)
              intro v' w3 hown' hgrow _
              obtain ⟨a3, c3, hv2⟩ := own_sl hown'
              rw [hv2] at hown' ⊢
              have hb1 : Below w.heap.size w w3 := (HB.out.alloc hsz _).grown hgrow (by simp; omega) (fun q hq => (HW.out.lt q hq).1)
              have HO1 : Hid (w3.ownsRow w.heap.size 9 1 (.slice a3 (acc.length + 1) c3) (acc.length + 1) (strs (acc ++ [(s.data.toList.drop f).take (k - f)]))) := by
                rw [Hid, strs_snoc, ← HX.out]; exact hown'
              clear hown' hgrow hv2
              go_wp2_with fail
              go_roundw
              case rel => exact ⟨k + 1, k + 1, _, a3, c3, by omega, by omega, (fun h => by omega), by go_num, by go_num, by rw [List.length_append]; rfl, by rw [List.length_append]; exact HO1.out, HN.out, by rw [List.length_append]; simp; omega, hb1⟩
              case measure => simp [intOf]; omega
            · rw [if_neg hfk] at HN
              go_wp2_with fail
              go_roundw
              case rel => exact ⟨k + 1, k + 1, acc, a, c, by omega, by omega, (fun h => by omega), by go_num, by go_num, rfl, HW.out, HN.out, by omega, HB.out⟩
              case measure => simp [intOf]; omega
      · have HN := Lib.hid (HCut.out (fun d hd => by rw [List.getElem?_eq_none (by have := HL.out; omega)] at hd; cases hd))
        clear hw HCut
        by_cases hfk : f < k
        · rw [if_pos hfk] at HN
          go_wp2_with (at_builtin; refine wpList_append_own _ rfl _ _ 30 rfl w.heap.size 9 i0 (.string ⟨#[]⟩) 1 16 Try.underlying30 hinf hz0 hz1 hz2 rfl (by decide) _ _ _ rfl (HW.out.alloc _) ⟨wr.heap.size, 0, none⟩ 1 1 [.string (s.extract f k)] rfl rfl (cell_one_new _ _ _) (by intro u hu; simp at hu; subst hu; rfl) (by unfold maxLen; omega) (by omega) (by simp; omega) ?_)
          intro v' w3 hown' hgrow _
          obtain ⟨a3, c3, hv2⟩ := own_sl hown'
          rw [hv2] at hown' ⊢
          have hb1 : Below w.heap.size w w3 := (HB.out.alloc hsz _).grown hgrow (by simp; omega) (fun q hq => (HW.out.lt q hq).1)
          have HO1 : Hid (w3.ownsRow w.heap.size 9 1 (.slice a3 (acc.length + 1) c3) (acc.length + 1) (strs (acc ++ [(s.data.toList.drop f).take (k - f)]))) := by
            rw [Hid, strs_snoc, ← HX.out]; exact hown'
          clear hown' hgrow hv2
          go_wp2_with fail
          go_roundw
          case rel => exact ⟨k + 1, k + 1, _, a3, c3, by omega, by omega, (fun h => by omega), by go_num, by go_num, by rw [List.length_append]; rfl, by rw [List.length_append]; exact HO1.out, HN.out, by rw [List.length_append]; simp; omega, hb1⟩
          case measure => simp [intOf]; omega
        · rw [if_neg hfk] at HN
          go_wp2_with fail
          go_roundw
          case rel => exact ⟨k + 1, k + 1, acc, a, c, by omega, by omega, (fun h => by omega), by go_num, by go_num, rfl, HW.out, HN.out, by omega, HB.out⟩
          case measure => simp [intOf]; omega
    · have e : k = s.size + 1 := by omega
      have e2 : acc = words s.data.toList := by
        have h1 := hw.out
        have h2 := HFin.out e
        rw [h2, Nat.sub_self, List.take_zero, List.drop_of_length_le (by have := HL.out; omega), wds, if_pos rfl, List.append_nil] at h1
        exact h1.symm
      clear e hw HFin
      go_wp2_with fail
      go_ret
      subst e2
      exact ⟨a, c, rfl, HW.out, HB.out⟩
end Go.Proofs.Ytgilbckfkngaiaa

namespace Go.Proofs.Ytgilbckfkngaiaa
open Go.RowKit
set_option linter.unusedVariables false

theorem toLb (s : ByteArray) : s.toList = s.data.toList := ByteArray.toList_eq s
def stB (s : List UInt8) (a : Nat) (p : List UInt8) : Bool := decide (a + p.length ≤ s.length) && ((s.drop a).take p.length == p)
/-- No instance before a place, and no room for one from there on. -/
theorem conN {s p : List UInt8} {k : Nat} (h : ∀ j, j < k → j + p.length ≤ s.length → stB s j p = false) (hk : s.length < k + p.length) : Lib.contains s p = false := by
  rw [Bool.eq_false_iff]
  intro q
  obtain ⟨A, B, e⟩ := (contains_iff s p).1 q
  have hl : A.length + p.length ≤ s.length := by rw [e]; simp
  have := h A.length (by omega) hl
  unfold stB at this
  rw [decide_eq_true hl, Bool.true_and, beq_eq_false_iff_ne] at this
  apply this
  rw [e, List.append_assoc, List.drop_left, List.take_left]
theorem conY {s p : List UInt8} {k : Nat} (h : stB s k p = true) : Lib.contains s p = true := by
  unfold stB at h
  rw [Bool.and_eq_true, beq_iff_eq] at h
  replace h := h.2
  refine (contains_iff s p).2 ⟨s.take k, (s.drop k).drop p.length, ?_⟩
  rw [List.append_assoc]
  conv => rhs; rhs; lhs; rw [← h]
  rw [List.take_append_drop, List.take_append_drop]


def IdxPost_g (s p : ByteArray) (w : World) (e : Ending) (w' : World) : Prop := ∃ z : Int, e = .returned (.int .i64 z) ∧ decide (0 ≤ z) = Lib.contains s.data.toList p.data.toList ∧ (∀ i : Nat, z = i → Lib.index s.data.toList p.data.toList = i) ∧ (z < 0 → z = -1) ∧ w = w'
set_option maxRecDepth 100000 in
set_option maxHeartbeats 1000000 in
theorem zzIdx_g (s p : ByteArray) (hs : s.size ≤ 4294967296) (hp : p.size ≤ 4294967296) (w : World) :
    Calls Try.prog 147 #[.string s, .string p] w (IdxPost_g s p w) := by
  have HL : Hid (s.data.toList.length = s.size ∧ p.data.toList.length = p.size) := ⟨rfl, rfl⟩
  go_enter Try.func147, Try.ntmps147
  go_wp2_with fail
  go_loopw [5] (fun x wr => ∃ k : Nat, k ≤ s.size + 1 ∧ x = .int .i64 k ∧ Hid (∀ j, j < k → j + p.data.toList.length ≤ s.data.toList.length → stB s.data.toList j p.data.toList = false) ∧ w = wr) (fun x _ => s.size + 1 - (intOf x).toNat)
  case atStart => exact ⟨0, Nat.zero_le _, rfl, (fun j h => by omega), rfl⟩
  case round =>
    obtain ⟨k, hk, rfl, hno, rfl⟩ := hrel
    by_cases hle : k + p.size ≤ s.size
    · have HX : Hid (((s.extract k (k + p.size)).toList == p.toList) = stB s.data.toList k p.data.toList) := by
        rw [Hid, toLb, toLb, Lib.extract_data, Nat.add_sub_cancel_left]
        unfold stB
        have := HL.out
        rw [decide_eq_true (by omega), Bool.true_and, this.2]
      cases hb : stB s.data.toList k p.data.toList
      · have HN : Hid (∀ j, j < k + 1 → j + p.data.toList.length ≤ s.data.toList.length → stB s.data.toList j p.data.toList = false) := by
          intro j hj h2
          by_cases e : j = k
          · subst e; exact hb
          · exact hno.out j (by omega) h2
        have hx := HX.out.trans hb
        clear hno hb HX
        go_wp2_with fail
        go_roundw
        case rel => exact ⟨k + 1, by omega, by go_num, HN.out, by trivial⟩
        case measure => simp [intOf]; omega
      · have HF := Lib.hid (conY hb)
        have HIx : Hid (Lib.index s.data.toList p.data.toList = k) := by
          have hlen := HL.out
          refine Lib.index_first (by omega) ?_ (fun j hj => ?_)
          · rw [Lib.occAt_iff_take _ _ _ (by omega)]
            unfold stB at hb
            rw [Bool.and_eq_true] at hb; exact hb.2
          · rw [Lib.occAt_iff_take _ _ _ (by omega)]
            have := hno.out j hj (by omega)
            unfold stB at this
            rw [decide_eq_true (by omega), Bool.true_and] at this; exact this
        have hx := HX.out.trans hb
        clear hno hb HX
        go_wp2_with fail
        go_ret
        exact ⟨k, rfl, by rw [HF.out]; simp, (fun i h => by rw [HIx.out]; exact h), (fun h => by omega), rfl⟩
    · have HF := Lib.hid (conN hno.out (by have := HL.out; omega))
      clear hno
      go_wp2_with fail
      go_ret
      exact ⟨-1, rfl, by rw [HF.out]; rfl, (fun i h => by omega), (fun _ => rfl), rfl⟩

set_option maxRecDepth 100000 in
theorem zzCon_g (s p : ByteArray) (hs : s.size ≤ 4294967296) (hp : p.size ≤ 4294967296) (w : World) :
    Calls Try.prog 112 #[.string s, .string p] w fun e w' => e = .returned (.bool (Lib.contains s.data.toList p.data.toList)) ∧ w = w' := by
  go_enter Try.func112, Try.ntmps112
  go_wp2_with fail
  refine (zzIdx_g s p hs hp w).mono ?_
  rintro e w1 ⟨z, rfl, hz, _, _, rfl⟩
  have HZ := Lib.hid hz
  clear hz
  go_wp2_with fail
  go_ret
  exact ⟨by rw [← HZ.out]; rfl, rfl⟩
end Go.Proofs.Ytgilbckfkngaiaa

namespace Go.Proofs.Ytgilbckfkngaiaa
open Go.RowKit
set_option linter.unusedVariables false

def isTr (c : UInt8) : Bool := decide (c.toNat = 9) || decide (c.toNat = 13) || decide (c.toNat = 10)
def trB (c : UInt8) : UInt8 := if isTr c = true then 32 else c
theorem trB_yes {c : UInt8} (h : isTr c = true) : trB c = 32 := if_pos h
theorem trB_no (c : UInt8) (h : isTr c = false) : trB c = c := if_neg (by simp [h])
theorem isTr_iff (c : UInt8) : isTr c = true ↔ c.toNat = 9 ∨ c.toNat = 13 ∨ c.toNat = 10 := by
  unfold isTr; simp [or_assoc]
def trS (s : ByteArray) : ByteArray := ⟨(s.data.toList.map trB).toArray⟩

/-- What stands at place j when the first k bytes are turned. -/
def mxB (s : ByteArray) (k j : Nat) : UInt8 := if j < k then trB (s.data.toList.getD j 0) else s.data.toList.getD j 0

def MxAt (s : ByteArray) (B k : Nat) (w : World) : Prop :=
  (∀ j, j < s.size → w.cell? ⟨B, j, none⟩ = some (.int .u8 ((mxB s k j).toNat : Int))) ∧ (∀ j, j < s.size → w.frozen? ⟨B, j, none⟩ = false)

theorem mxAt_new (s : ByteArray) (w : World) (c : Nat) : MxAt s w.heap.size 0 ((w.alloc (.cells (bytesRow s c) 5 ((bytesRow s c).size, (bytesRow s c).size + 1))).drew) := by
  have hrow : ∀ j, j < s.size → j < (bytesRow s c).size := by intro j hj; simp [bytesRow]; have : s.data.size = s.size := rfl; omega
  refine ⟨fun j hj => ?_, fun j hj => ?_⟩
  · show (w.alloc _).cell? _ = _
    rw [World.cell?_alloc_mark]
    have h : j < s.data.size := hj
    simp [bytesRow, Array.getElem?_append, hj, mxB]
  · show (w.alloc _).frozen? _ = _
    rw [World.frozen?_alloc_mark]
    have := hrow j hj
    simp; omega

theorem mxB_step (s : ByteArray) (k j : Nat) : mxB s (k + 1) j = if j = k then trB (s.data.toList.getD j 0) else mxB s k j := by
  unfold mxB
  by_cases h : j = k
  · subst h; simp
  · rw [if_neg h]
    by_cases h2 : j < k
    · rw [if_pos h2, if_pos (by omega)]
    · rw [if_neg h2, if_neg (by omega)]

theorem mxAt_skip {s : ByteArray} {B k : Nat} {w : World} (h : MxAt s B k w) (hk : isTr (mxB s k k) = false) : MxAt s B (k + 1) w := by
  refine ⟨fun j hj => ?_, h.2⟩
  rw [h.1 j hj, mxB_step]
  by_cases e : j = k
  · subst e
    rw [if_pos rfl]
    have : mxB s j j = s.data.toList.getD j 0 := by simp [mxB]
    rw [this] at hk ⊢
    rw [trB_no _ hk]
  · rw [if_neg e]

theorem mxAt_put {s : ByteArray} {B k : Nat} {w : World} (h : MxAt s B k w) (hlt : k < s.size) (hk : isTr (mxB s k k) = true) :
    MxAt s B (k + 1) (w.setCell ⟨B, k, none⟩ (.int .u8 32)) := by
  refine ⟨fun j hj => ?_, fun j hj => by rw [World.frozen?_setCell]; exact h.2 j hj⟩
  rw [mxB_step]
  by_cases e : j = k
  · subst e
    rw [if_pos rfl, World.cell?_setCell_same _ _ _ (by rw [h.1 j hj])]
    have e2 : mxB s j j = s.data.toList.getD j 0 := by simp [mxB]
    rw [e2] at hk
    rw [trB_yes hk]; rfl
  · rw [if_neg e, World.cell?_setCell_other _ _ _ _ (by simp)]
    exact h.1 j hj

theorem mxAt_back {P : Program} {src dst e : TypeId} {s : ByteArray} {B k : Nat} {w : World} (h : MxAt s B k w) (hk : s.size ≤ k) (cap : Nat)
    (hs : P.underlying src = some (.slice e)) (he : P.underlying e = some (.int .u8)) (hd : P.underlying dst = some .string) :
    (convert src dst (.slice (some ⟨B, 0, none⟩) s.size cap)).run P w = .ok (.string (trS s)) w := by
  have hl : (s.data.toList.map trB).length = s.size := by simp
  have := run_convert_bytes_back (P := P) w src dst e ⟨B, 0, none⟩ cap (s.data.toList.map trB) hs he hd (by
    intro j hj
    rw [hl] at hj
    have h3 : s.data[j]? = some s.data[j] := Array.getElem?_eq_getElem hj
    rw [Addr.add_lit, Nat.zero_add]
    rw [h.1 j hj]
    simp [mxB, show j < k by omega]
    rw [h3]; rfl)
  rw [hl] at this
  exact this

set_option maxRecDepth 100000 in
set_option maxHeartbeats 1000000 in
theorem classTrim_any (s : ByteArray) (w : World) (hs : s.size ≤ 2147483647) :
    Calls Try.prog 113 #[.string s] w fun e w' => e = .returned (.string (trS s)) ∧ Below w.heap.size w w' := by
  have hconv := fun w => run_bytes_of_string (P := Try.prog) w 9 167 5 s Try.underlying9 Try.underlying167 Try.underlying5
  go_enter Try.func113, Try.ntmps113
  go_wp2
  go_loopw [10] (fun i wr => ∃ k : Nat, k ≤ s.size ∧ i = .int .i64 k ∧ MxAt s w.heap.size k wr ∧ w.heap.size < wr.heap.size ∧ Below w.heap.size w wr) (fun i _ => s.size - (intOf i).toNat)
  case atStart => exact ⟨0, Nat.zero_le _, rfl, mxAt_new s w _, by simp, ((Below.refl _ _).alloc (Nat.le_refl _) _).drew⟩
  case round =>
    obtain ⟨k, hk, rfl, hmix, hsz, hb⟩ := hrel
    by_cases hlt : k < s.size
    · have hc : wr.cell? ⟨w.heap.size, k, none⟩ = some (.int .u8 ((mxB s k k).toNat : Int)) := hmix.1 k hlt
      have hf : wr.frozen? ⟨w.heap.size, k, none⟩ = false := hmix.2 k hlt
      have hi := isTr_iff (mxB s k k)
      have HM := Lib.hid hmix
      have HB := Lib.hid hb
      clear hmix hb
      cases ht : isTr (mxB s k k)
      · have HS := Lib.hid (mxAt_skip HM.out ht)
        rw [ht] at hi
        have hn : ¬ ((mxB s k k).toNat = 9 ∨ (mxB s k k).toNat = 13 ∨ (mxB s k k).toNat = 10) := fun h => by cases hi.2 h
        have z1 : (((mxB s k k).toNat : Int) == 9) = false := beq_eq_false_iff_ne.2 (by omega)
        have z2 : (((mxB s k k).toNat : Int) == 13) = false := beq_eq_false_iff_ne.2 (by omega)
        have z3 : (((mxB s k k).toNat : Int) == 10) = false := beq_eq_false_iff_ne.2 (by omega)
        clear hi hn ht
        go_wp2_with fail
        go_roundw
        case rel => exact ⟨k + 1, by omega, by go_num, HS.out, hsz, HB.out⟩
        case measure => simp [intOf]; omega
      · have HS := Lib.hid (mxAt_put HM.out hlt ht)
        have hy := hi.1 ht
        have hz : ∃ z1 z2 z3 : Bool, (((mxB s k k).toNat : Int) == 9) = z1 ∧ (((mxB s k k).toNat : Int) == 13) = z2 ∧ (((mxB s k k).toNat : Int) == 10) = z3 ∧ ((z1 = true ∧ z2 = false ∧ z3 = false) ∨ (z1 = false ∧ z2 = true ∧ z3 = false) ∨ (z1 = false ∧ z2 = false ∧ z3 = true)) := by
          refine ⟨_, _, _, rfl, rfl, rfl, ?_⟩
          rcases hy with hy | hy | hy <;> rw [hy] <;> decide
        clear hi hy ht
        obtain ⟨z1, z2, z3, e1, e2, e3, hz⟩ := hz
        rcases hz with ⟨rfl, rfl, rfl⟩ | ⟨rfl, rfl, rfl⟩ | ⟨rfl, rfl, rfl⟩
        all_goals
          go_wp2_with fail
          go_roundw
          case rel => exact ⟨k + 1, by omega, by go_num, HS.out, by simpa using hsz, HB.out.setCell (Nat.le_refl _) _⟩
          case measure => simp [intOf]; omega
    · have hback := mxAt_back hmix (by omega) (grownCap w s.size 0 5) Try.underlying167 Try.underlying5 Try.underlying9
      go_wp2
      go_ret
      exact ⟨rfl, hb⟩
end Go.Proofs.Ytgilbckfkngaiaa

namespace Go.Proofs.Ytgilbckfkngaiaa
open Go.RowKit
set_option linter.unusedVariables false

def BoolB (b : Bool) (w : World) (e : Ending) (w' : World) : Prop := e = .returned (.bool b) ∧ Below w.heap.size w w'

set_option maxRecDepth 100000 in
set_option maxHeartbeats 1000000 in
theorem word2_any (s v : ByteArray) (hs : s.size ≤ 2147483647) (w : World) :
    Calls Try.prog 31 #[.string s, .string v] w (BoolB (decide (v.data.toList ∈ words s.data.toList)) w) := by
  have HC := Lib.hid (words_count s.data.toList)
  have HL : Hid (s.data.toList.length = s.size) := rfl
  obtain ⟨W, hW⟩ : ∃ W, W = words s.data.toList := ⟨_, rfl⟩
  have HW := Lib.hid (wordsOf_any s hs w)
  rw [← hW] at HW HC ⊢
  have hlen : W.length ≤ 2147483647 := by have := HC.out; have := HL.out; omega
  clear hW
  go_enter Try.func31, Try.ntmps31
  go_wp2_with fail
  refine HW.out.mono ?_
  rintro e w1 ⟨a, c, rfl, hown, hb⟩
  have HO := Lib.hid hown
  have HB := Lib.hid hb
  clear hown hb
  go_wp2_with fail
  go_loopw [6] (fun x wr => ∃ k : Nat, k ≤ W.length ∧ x = .int .i64 k ∧ Hid (v.data.toList ∉ W.take k) ∧ w1 = wr) (fun x _ => W.length - (intOf x).toNat)
  case atStart => exact ⟨0, Nat.zero_le _, rfl, (by simp [Hid]), rfl⟩
  case round =>
    obtain ⟨k, hk, rfl, hno, rfl⟩ := hrel
    by_cases hlt : k < W.length
    · have hcell : ∃ g, a = some ⟨g, 0, none⟩ ∧ w1.cell? ⟨g, k, none⟩ = some (.string ⟨W[k].toArray⟩) := by
        rcases HO.out.2 with ⟨_, h0⟩ | ⟨g, cap, cur, hv, _, hg, _, hcs⟩
        · omega
        · refine ⟨g, by cases hv; rfl, ?_⟩
          have h1 := HO.out.cells (g := g) (by cases hv; rfl) k (.string ⟨W[k].toArray⟩) (by rw [List.getElem?_eq_getElem (by rw [strs_length]; exact hlt), strs_at hlt])
          rw [Addr.add_lit, Nat.zero_add] at h1
          exact h1
      obtain ⟨g, rfl, g1⟩ := hcell
      have hmem : W[k] ∈ W := List.getElem_mem hlt
      have HE : Hid (((⟨W[k].toArray⟩ : ByteArray).toList == v.toList) = (W[k] == v.data.toList)) := by
        rw [Hid, toLb, toLb]
      have HTk : Hid (W.take (k + 1) = W.take k ++ [W[k]]) := List.take_succ_eq_append_getElem hlt
      cases hb : (W[k] == v.data.toList)
      · have HN : Hid (v.data.toList ∉ W.take (k + 1)) := by
          rw [Hid, HTk.out, List.mem_append, List.mem_singleton]
          rintro (h | h)
          · exact hno.out h
          · rw [h] at hb; simp at hb
        rw [hb] at HE
        have he := HE.out
        obtain ⟨x, hx⟩ : ∃ x : ByteArray, x = ⟨W[k].toArray⟩ := ⟨_, rfl⟩
        rw [← hx] at he g1
        clear hno hb HE hx hmem
        go_wp2_with fail
        go_roundw
        case rel => exact ⟨k + 1, by omega, by go_num, HN.out, by trivial⟩
        case measure => simp [intOf]; omega
      · have HF : Hid (decide (v.data.toList ∈ W) = true) := by
          rw [beq_iff_eq] at hb
          rw [Hid, ← hb, decide_eq_true_eq]; exact hmem
        rw [hb] at HE
        have he := HE.out
        obtain ⟨x, hx⟩ : ∃ x : ByteArray, x = ⟨W[k].toArray⟩ := ⟨_, rfl⟩
        rw [← hx] at he g1
        clear hno hb HE hx hmem
        go_wp2_with fail
        go_ret
        exact ⟨by rw [HF.out]; rfl, HB.out⟩
    · have HF : Hid (decide (v.data.toList ∈ W) = false) := by
        have h1 := hno.out
        rw [List.take_of_length_le (by omega)] at h1
        rw [Hid, decide_eq_false_iff_not]; exact h1
      clear hno
      go_wp2_with fail
      go_ret
      exact ⟨by rw [HF.out]; rfl, HB.out⟩

set_option maxRecDepth 100000 in
set_option maxHeartbeats 1000000 in
theorem isWord_any (W : List (List UInt8)) (hlen : W.length ≤ 2147483647) (v : ByteArray) (a : Option Addr) (c : Nat) (w : World) (h : RSl w w.heap.size a (strs W)) :
    Calls Try.prog 70 #[.slice a W.length c, .string v] w fun e w' => e = .returned (.bool (decide (v.data.toList ∈ W))) ∧ w = w' := by
  have HO := Lib.hid h
  clear h
  go_enter Try.func70, Try.ntmps70
  go_wp2_with fail
  go_loopw [5] (fun x wr => ∃ k : Nat, k ≤ W.length ∧ x = .int .i64 k ∧ Hid (v.data.toList ∉ W.take k) ∧ w = wr) (fun x _ => W.length - (intOf x).toNat)
  case atStart => exact ⟨0, Nat.zero_le _, rfl, (by simp [Hid]), rfl⟩
  case round =>
    obtain ⟨k, hk, rfl, hno, rfl⟩ := hrel
    by_cases hlt : k < W.length
    · obtain ⟨b, o, rfl, hbB, hc⟩ := HO.out.at_ (by rw [strs_length]; omega)
      have g1 := hc k (by rw [strs_length]; exact hlt)
      rw [strs_at hlt] at g1
      have hmem : W[k] ∈ W := List.getElem_mem hlt
      have HE : Hid (((⟨W[k].toArray⟩ : ByteArray).toList == v.toList) = (W[k] == v.data.toList)) := by
        rw [Hid, toLb, toLb]
      have HTk : Hid (W.take (k + 1) = W.take k ++ [W[k]]) := List.take_succ_eq_append_getElem hlt
      clear hc
      cases hb : (W[k] == v.data.toList)
      · have HN : Hid (v.data.toList ∉ W.take (k + 1)) := by
          rw [Hid, HTk.out, List.mem_append, List.mem_singleton]
          rintro (h | h)
          · exact hno.out h
          · rw [h] at hb; simp at hb
        rw [hb] at HE
        have he := HE.out
        obtain ⟨x, hx⟩ : ∃ x : ByteArray, x = ⟨W[k].toArray⟩ := ⟨_, rfl⟩
        rw [← hx] at he g1
        clear hno hb HE hx hmem
        go_wp2_with fail
        go_roundw
        case rel => exact ⟨k + 1, by omega, by go_num, HN.out, by trivial⟩
        case measure => simp [intOf]; omega
      · have HF : Hid (decide (v.data.toList ∈ W) = true) := by
          rw [beq_iff_eq] at hb
          rw [Hid, ← hb, decide_eq_true_eq]; exact hmem
        rw [hb] at HE
        have he := HE.out
        obtain ⟨x, hx⟩ : ∃ x : ByteArray, x = ⟨W[k].toArray⟩ := ⟨_, rfl⟩
        rw [← hx] at he g1
        clear hno hb HE hx hmem
        go_wp2_with fail
        go_ret
        exact ⟨ret_b HF.out, rfl⟩
    · have HF : Hid (decide (v.data.toList ∈ W) = false) := by
        have h1 := hno.out
        rw [List.take_of_length_le (by omega)] at h1
        rw [Hid, decide_eq_false_iff_not]; exact h1
      clear hno
      go_wp2_with fail
      go_ret
      exact ⟨ret_b HF.out, rfl⟩

/-- A value of a class attribute: no white space other than blanks, tabs, line ends; each word once. -/
structure SimC (v : ByteArray) : Prop where
  byte : ∀ c ∈ v.data.toList, c.toNat ≠ 12 ∧ c.toNat ≠ 11 ∧ c.toNat < 128
  once : (words v.data.toList).Nodup

def SimPost (v : ByteArray) (w : World) (e : Ending) (w' : World) : Prop := ∃ b, e = .returned (.bool b) ∧ (b = true → SimC v) ∧ Below w.heap.size w w'

theorem nodup_of_take {α : Type} {l : List α} (h : ∀ k (hk : k < l.length), l[k] ∉ l.take k) : l.Nodup := by
  unfold List.Nodup
  rw [List.pairwise_iff_getElem]
  intro i j hi hj hij e
  refine h j hj ?_
  rw [← e]
  exact List.mem_take_iff_getElem.2 ⟨i, by omega, rfl⟩

set_option maxRecDepth 100000 in
set_option maxHeartbeats 2000000 in
theorem simple_any (s : ByteArray) (hs : s.size ≤ 2147483647) (w : World) :
    Calls Try.prog 30 #[.string s] w (SimPost s w) := by
  have HC := Lib.hid (words_count s.data.toList)
  have HL : Hid (s.data.toList.length = s.size) := rfl
  obtain ⟨W, hW⟩ : ∃ W, W = words s.data.toList := ⟨_, rfl⟩
  have HW := Lib.hid (fun w => wordsC_any s hs w)
  rw [← hW] at HW HC
  have hlen : W.length ≤ 2147483647 := by have := HC.out; have := HL.out; omega
  have HWW := Lib.hid hW
  clear hW
  go_enter Try.func30, Try.ntmps30
  go_wp2_with fail
  go_loopw [3] (fun x wr => ∃ k : Nat, k ≤ s.size ∧ x = .int .i64 k ∧ Hid (∀ c ∈ s.data.toList.take k, c.toNat ≠ 12 ∧ c.toNat ≠ 11 ∧ c.toNat < 128) ∧ w = wr) (fun x _ => s.size - (intOf x).toNat)
  case atStart => exact ⟨0, Nat.zero_le _, rfl, (by simp [Hid]), rfl⟩
  case round =>
    obtain ⟨k, hk, rfl, hno, rfl⟩ := hrel
    by_cases hlt : k < s.size
    · have hgk : s.data.toList[k]'(by have := HL.out; omega) = s[k] := rfl
      have HTk : Hid (s.data.toList.take (k + 1) = s.data.toList.take k ++ [s[k]]) := by
        rw [Hid, List.take_succ_eq_append_getElem (by have := HL.out; omega), hgk]
      clear hgk
      by_cases c1 : s[k].toNat = 12
      · have z1 : ((s[k].toNat : Int) == 12) = true := by rw [beq_iff_eq]; omega
        clear c1
        go_wp2_with fail
        go_ret
        exact ⟨false, rfl, (fun h => by cases h), Below.refl _ _⟩
      have z1 : ((s[k].toNat : Int) == 12) = false := beq_eq_false_iff_ne.2 (by omega)
      by_cases c2 : s[k].toNat = 11
      · have z2 : ((s[k].toNat : Int) == 11) = true := by rw [beq_iff_eq]; omega
        clear c1 c2
        go_wp2_with fail
        go_ret
        exact ⟨false, rfl, (fun h => by cases h), Below.refl _ _⟩
      have z2 : ((s[k].toNat : Int) == 11) = false := beq_eq_false_iff_ne.2 (by omega)
      by_cases c3 : 128 ≤ s[k].toNat
      · have z3 : decide ((128 : Int) ≤ (s[k].toNat : Int)) = true := by simp; omega
        clear c1 c2 c3
        go_wp2_with fail
        go_ret
        exact ⟨false, rfl, (fun h => by cases h), Below.refl _ _⟩
      have z3 : decide ((128 : Int) ≤ (s[k].toNat : Int)) = false := by simp; omega
      have HN : Hid (∀ c ∈ s.data.toList.take (k + 1), c.toNat ≠ 12 ∧ c.toNat ≠ 11 ∧ c.toNat < 128) := by
        intro c hc
        rw [HTk.out, List.mem_append, List.mem_singleton] at hc
        rcases hc with hc | rfl
        · exact hno.out c hc
        · exact ⟨c1, c2, by omega⟩
      clear c1 c2 c3 hno HTk
      go_wp2_with fail
      go_roundw
      case rel => exact ⟨k + 1, by omega, by go_num, HN, by trivial⟩
      case measure => simp [intOf]; omega
    · have HF : Hid (∀ c ∈ s.data.toList, c.toNat ≠ 12 ∧ c.toNat ≠ 11 ∧ c.toNat < 128) := by
        have h1 := hno.out
        rw [List.take_of_length_le (by have := HL.out; omega)] at h1
        exact h1
      clear hno
      go_wp2_with fail
      refine (HW.out _).mono ?_
      rintro e w1 ⟨a, c, rfl, hown, hb⟩
      have HB := Lib.hid hb
      obtain ⟨a1, c1, hv, _, hrs⟩ := RSl.own hown
      cases hv
      have hcap : W.length ≤ c := by
        rcases hown.2 with ⟨hv, h0⟩ | ⟨g, cap, cur, hv, _, hg, hle, _⟩
        · omega
        · cases hv; omega
      have HRow := Lib.hid hrs
      clear hown hb hrs
      go_wp2_with fail
      go_loopw [5] (fun x wr => ∃ k : Nat, k ≤ W.length ∧ x = .int .i64 k ∧ Hid (∀ j (hj : j < W.length), j < k → W[j] ∉ W.take j) ∧ Below w1.heap.size w1 wr) (fun x _ => W.length - (intOf x).toNat)
      case atStart => exact ⟨0, Nat.zero_le _, rfl, (fun j _ h => by omega), Below.refl _ _⟩
      case round =>
        obtain ⟨k, hk, rfl, hno, hbr⟩ := hrel
        have HBr := Lib.hid hbr
        clear hbr
        by_cases hlt : k < W.length
        · obtain ⟨b, o, rfl, hbB, hcc⟩ := (HRow.out.up HBr.out).at_ (by rw [strs_length]; omega)
          have g1 := hcc k (by rw [strs_length]; exact hlt)
          rw [strs_at hlt] at g1
          have hkc : k ≤ c := by omega
          have HIs : Hid (∀ V, Below w1.heap.size w1 V → Calls Try.prog 70 #[.slice (some ⟨b, o, none⟩) k c, .string ⟨W[k].toArray⟩] V fun e w' => e = .returned (.bool (decide (W[k] ∈ W.take k))) ∧ V = w') := by
            intro V hV
            have hrow : RSl V V.heap.size (some ⟨b, o, none⟩) (strs (W.take k)) := by
              obtain ⟨b1, o1, e1, hbb, hc⟩ := (HRow.out.up hV).at_ (by rw [strs_length]; omega)
              refine .inr ⟨b1, o1, e1, hbb, fun i hi => ?_⟩
              rw [strs_length] at hi
              have hi3 : i < W.length := by simp at hi; omega
              rw [strs_at hi, hc i (by rw [strs_length]; exact hi3), strs_at hi3, List.getElem_take]
            have := isWord_any (W.take k) (by simp; omega) ⟨W[k].toArray⟩ (some ⟨b, o, none⟩) c V hrow
            rw [List.length_take, Nat.min_eq_left (by omega)] at this
            exact this
          clear hcc
          obtain ⟨x, hx⟩ : ∃ x : ByteArray, x = ⟨W[k].toArray⟩ := ⟨_, rfl⟩
          rw [← hx] at g1 HIs
          clear hx
          by_cases hin : W[k] ∈ W.take k
          · rw [decide_eq_true hin] at HIs
            clear hin
            go_wp2_with fail
            go_quiet ((go_at_call 70; exact quiet_left (HIs.out _ (below_drewN HBr.out _))))
            go_wp2_with fail
            go_ret
            exact ⟨false, rfl, (fun h => by cases h), bnext HB.out (below_drewN HBr.out _)⟩
          · have HN : Hid (∀ j (hj : j < W.length), j < k + 1 → W[j] ∉ W.take j) := by
              intro j hj hjk
              by_cases e : j = k
              · subst e; exact hin
              · exact hno.out j hj (by omega)
            rw [decide_eq_false hin] at HIs
            clear hin hno
            go_wp2_with fail
            go_quiet ((go_at_call 70; exact quiet_left (HIs.out _ (below_drewN HBr.out _))))
            go_wp2_with fail
            go_roundw
            case rel => exact ⟨k + 1, by omega, by go_num, HN, below_drewN HBr.out _⟩
            case measure => simp [intOf]; omega
        · have HN : Hid W.Nodup := nodup_of_take fun j hj => hno.out j hj (by omega)
          go_wp2_with fail
          go_ret
          exact ⟨true, rfl, fun _ => ⟨HF.out, by rw [← HWW.out]; exact HN.out⟩, bnext HB.out HBr.out⟩
end Go.Proofs.Ytgilbckfkngaiaa

namespace Go.Proofs.Ytgilbckfkngaiaa
open Go.RowKit
set_option linter.unusedVariables false

theorem isTr_wsB {c : UInt8} (h : isTr c = true) : wsB c = true := (wsB_iff c).2 (by have := (isTr_iff c).1 h; omega)
theorem wsB_trB (c : UInt8) : wsB (trB c) = wsB c := by
  unfold trB
  split
  · rename_i h
    rw [isTr_wsB h]; rfl
  · rfl
theorem wds_trB : ∀ (l cur : List UInt8), wds cur (l.map trB) = wds cur l := by
  intro l
  induction l with
  | nil => intro cur; rfl
  | cons x l ih =>
    intro cur
    rw [List.map_cons]
    cases hx : wsB x
    · have h2 : trB x = x := trB_no x (by rw [Bool.eq_false_iff]; intro h; rw [isTr_wsB h] at hx; cases hx)
      rw [h2, wds_no _ hx, wds_no _ hx, ih]
    · rw [wds_ws _ hx, wds_ws _ (by rw [wsB_trB]; exact hx), ih]
theorem words_trB (l : List UInt8) : words (l.map trB) = words l := wds_trB l []

def clsK : ByteArray := ⟨#[99, 108, 97, 115, 115]⟩
/-- What the program looks for in the value of a class attribute. -/
def hasC (v name : ByteArray) : Bool := Lib.contains v.data.toList name.data.toList && Lib.contains (blk (v.data.toList.map trB)) (blk name.data.toList)
def hasAt (o : Option At2) (name : ByteArray) : Bool := match o with | some x => hasC x.val name | none => false

theorem hasC_word {v name : ByteArray} (hv : SimC v) (hc : CN name.data.toList) : hasC v name = decide (name.data.toList ∈ words v.data.toList) := by
  have hX : CT (blk (v.data.toList.map trB)) := by
    refine ⟨⟨v.data.toList.map trB ++ [32], rfl⟩, ⟨32 :: v.data.toList.map trB, rfl⟩, fun c hm hw => ?_⟩
    unfold blk at hm
    rw [List.mem_append, List.mem_cons, List.mem_singleton] at hm
    rcases hm with (rfl | hm) | rfl
    · rfl
    · obtain ⟨x, hx, rfl⟩ := List.mem_map.1 hm
      rw [wsB_trB] at hw
      unfold trB
      split
      · rfl
      · rename_i hn
        have h1 := (wsB_iff x).1 hw
        have h2 := hv.byte x hx
        have h3 : ¬ (x.toNat = 9 ∨ x.toNat = 13 ∨ x.toNat = 10) := fun h => hn ((isTr_iff x).2 h)
        have : x.toNat = (32 : UInt8).toNat := by show x.toNat = 32; omega
        exact UInt8.toNat_inj.1 this
    · rfl
  have hW : words (blk (v.data.toList.map trB)) = words v.data.toList := by
    unfold blk
    rw [words_back (by decide), words_front (by decide), words_trB]
  unfold hasC
  rw [Bool.eq_iff_iff, Bool.and_eq_true, decide_eq_true_eq, hX.has hc, hW]
  constructor
  · exact fun h => h.2
  · intro h
    refine ⟨?_, h⟩
    obtain ⟨_, _, pre, post, e, _⟩ := words_mem h
    exact (contains_iff _ _).2 ⟨pre, post, e⟩

theorem blk_bytes (s : ByteArray) : ((⟨#[32]⟩ : ByteArray) ++ s ++ (⟨#[32]⟩ : ByteArray)).data.toList = blk s.data.toList := by
  simp [blk]
theorem trS_size (s : ByteArray) : (trS s).size = s.size := by
  show (trS s).data.size = s.data.size
  simp [trS]
theorem trS_data (s : ByteArray) : (trS s).data.toList = s.data.toList.map trB := by simp [trS]
theorem blk_size (s : ByteArray) : ((⟨#[32]⟩ : ByteArray) ++ s ++ (⟨#[32]⟩ : ByteArray)).size = s.size + 2 := by
  rw [ByteArray.size_append, ByteArray.size_append]
  show 1 + s.size + 1 = _
  omega

set_option maxRecDepth 100000 in
set_option maxHeartbeats 4000000 in
theorem hasClassM_any {t : List Nd} (hR : RightP t) (B0 B L : Nat) (bl : Nat → Nat) (st : Nat → Dn) (ns : List Nat) (hns : ∀ i ∈ ns, i < t.length) (hkd : ∀ i ∈ ns, isEl t i = true) (hlen : ns.length ≤ 1000) (g : Nat) (doc : Option Addr) (name : ByteArray) (hn : name.size ≤ 2147483647) (w : World) (hs : SelOf bl ns B g doc w) (hT : Tree t w B0 L bl st)
    (hats : ∀ i (h : i < t.length), (atsOf t[i]).length ≤ 2147483647 ∧ ∀ x ∈ atsOf t[i], x.val.size ≤ 2147483647) :
    Calls Try.prog 73 #[.pointer (some ⟨g, 0, none⟩), .string name] w fun e w' => e = .returned (.bool (ns.any fun i => hasAt (findA (atsOf (t.getD i default)) clsK) name)) ∧ Below w.heap.size w w' := by
  obtain ⟨a, c, c0, hrow⟩ := hs.places
  have hgl : g < w.heap.size := by
    obtain ⟨_, _, _, h, _⟩ := hs
    exact h.lt
  have HNd : Hid (∀ i, i < t.length → isEl t i = true → ∀ W, Below w.heap.size w W → W.cell? ⟨bl i, 5, none⟩ = some (.int .u32 3) ∧ Calls Try.prog 103 #[.string clsK, .pointer (some ⟨bl i, 0, none⟩)] W (PtrPost (atsOf t[i]!) clsK W)) := by
    intro i hi hk W hW
    have hTW := hT.kept hW
    obtain ⟨y, hy, hy2⟩ := Tree.typ_ hR hTW i hi
    rw [hk, beq_iff_eq] at hy2
    subst hy2
    refine ⟨hy, ?_⟩
    obtain ⟨_, aa, ac, hblk, hrow⟩ := hTW.dom.node i hi
    have hat := (hTW.kin i hi).2.ats
    have h9 : W.cell? ⟨bl i, 9, none⟩ = some (.slice aa (st i).ats.length ac) := by
      rw [cell_of_row W _ _ _ _ _ hblk]; rfl
    rw [hat] at h9 hrow
    rw [getElem!_pos t i hi]
    exact attrPtr_any (bl i) B0 #[] (atsOf t[i]) aa ac clsK W h9 (hats i hi).1 (Array.getElem?_eq_some_iff.1 hblk).1 hrow
  have HV : Hid (∀ i, i < t.length → ∀ x ∈ atsOf t[i]!, x.val.size ≤ 2147483647) := by
    intro i hi x hx
    rw [getElem!_pos t i hi] at hx
    exact (hats i hi).2 x hx
  have HG : Hid (∀ i, i < t.length → atsOf (t.getD i default) = atsOf t[i]!) := by
    intro i hi
    rw [getD_at hi, getElem!_pos t i hi]
  have HRow := Lib.hid hrow
  have HNs := Lib.hid hns
  have HKd := Lib.hid hkd
  obtain ⟨F, hF⟩ : ∃ F : Nat → Bool, F = fun i => hasAt (findA (atsOf (t.getD i default)) clsK) name := ⟨_, rfl⟩
  have HF := Lib.hid hF
  rw [← hF]
  obtain ⟨cl, hcl⟩ : ∃ cl : ByteArray, cl = (⟨#[32]⟩ : ByteArray) ++ name ++ (⟨#[32]⟩ : ByteArray) := ⟨_, rfl⟩
  have hn1 : (⟨#[32]⟩ : ByteArray).size + name.size ≤ 9223372036854775807 := by show 1 + name.size ≤ _; omega
  have hn2 : ((⟨#[32]⟩ : ByteArray) ++ name).size + (⟨#[32]⟩ : ByteArray).size ≤ 9223372036854775807 := by
    rw [ByteArray.size_append]; show 1 + name.size + 1 ≤ _; omega
  have hcls : cl.size ≤ 4294967296 := by rw [hcl, blk_size]; omega
  have HCl : Hid (cl.data.toList = blk name.data.toList) := by rw [Hid, hcl, blk_bytes]
  clear hs hT hats hrow hns hkd hF hR
  go_enter Try.func73, Try.ntmps73
  go_wp2_with fail
  rw [← hcl]
  clear hcl hn1 hn2
  go_loopw [7, 8, 9, 19] (fun x7 x8 x9 x wr => ∃ k : Nat, k ≤ ns.length ∧ x = .int .i64 k ∧ Hid ((ns.take k).any F = false) ∧ Below w.heap.size w wr) (fun _ _ _ x _ => ns.length - (intOf x).toNat)
  case atStart => exact ⟨0, by omega, rfl, rfl, Below.refl _ _⟩
  case round =>
    obtain ⟨k, hk, rfl, hno, hb⟩ := hrel
    have HB := Lib.hid hb
    clear hb
    by_cases hlt : k < ns.length
    · obtain ⟨b, o, rfl, hbB, hc⟩ := (HRow.out.up HB.out).at_ (by rw [ptrs_length]; omega)
      have g1 := hc k (by rw [ptrs_length]; exact hlt)
      rw [ptrs_at hlt] at g1
      obtain ⟨q, hq⟩ : ∃ q, q = ns[k] := ⟨_, rfl⟩
      have hqt : q < t.length := by rw [hq]; exact HNs.out _ (List.getElem_mem hlt)
      have hqe : isEl t q = true := by rw [hq]; exact HKd.out _ (List.getElem_mem hlt)
      have HTk : Hid ((ns.take (k + 1)).any F = ((ns.take k).any F || F q)) := by
        rw [Hid, List.take_succ_eq_append_getElem hlt, List.any_append, hq]; simp
      have HFq : Hid (F q = hasAt (findA (atsOf t[q]!) clsK) name) := by rw [Hid, HF.out, ← HG.out q hqt]
      have HAll : Hid (F q = true → ns.any F = true) := fun h => List.any_eq_true.2 ⟨q, by rw [hq]; exact List.getElem_mem hlt, h⟩
      rw [← hq] at g1
      clear hc hq
      obtain ⟨t5, _⟩ := HNd.out q hqt hqe wr HB.out
      have HAt := Lib.hid ((HNd.out q hqt hqe wr HB.out).2)
      have HVq := Lib.hid (HV.out q hqt)
      obtain ⟨ats, hats⟩ : ∃ l, l = atsOf t[q]! := ⟨_, rfl⟩
      rw [← hats] at HFq HVq HAt
      have g0 := (HB.out.cell (p := ⟨g, 0, none⟩) hgl).trans c0
      clear hats
      go_wp2_with fail
      refine HAt.out.mono ?_
      rintro e w1 ⟨he, hb1⟩
      have HB1 := Lib.hid (bnext HB.out hb1)
      clear hb1
      cases hf : findA ats clsK with
      | none =>
        rw [hf] at he HFq
        dsimp only at he
        subst he
        have HN : Hid ((ns.take (k + 1)).any F = false) := by rw [Hid, HTk.out, hno.out, HFq.out]; rfl
        clear hno hf
        go_wp2_with fail
        go_roundw
        case rel => exact ⟨k + 1, by omega, by go_num, HN, HB1.out⟩
        case measure => simp [intOf]; omega
      | some y =>
        rw [hf] at he HFq
        obtain ⟨b1, o1, rfl, hx⟩ := he
        have hyv := HVq.out y (List.mem_of_find?_eq_some hf)
        have HFy : Hid (F q = hasC y.val name) := HFq.out
        clear hf HFq HVq HAt
        have HC1 := Lib.hid (zzCon_g y.val name (by omega) (by omega) w1)
        cases hc1 : Lib.contains y.val.data.toList name.data.toList
        · rw [hc1] at HC1
          have HN : Hid ((ns.take (k + 1)).any F = false) := by
            rw [Hid, HTk.out, hno.out, HFy.out, hasC, hc1]; rfl
          clear hno hc1
          go_wp2_with fail
          refine HC1.out.mono ?_
          rintro e w2 ⟨rfl, rfl⟩
          go_wp2_with fail
          go_roundw
          case rel => exact ⟨k + 1, by omega, by go_num, HN, HB1.out⟩
          case measure => simp [intOf]; omega
        · rw [hc1] at HC1
          have HFz : Hid (F q = Lib.contains (blk (y.val.data.toList.map trB)) (blk name.data.toList)) := by
            rw [Hid, HFy.out, hasC, hc1, Bool.true_and]
          clear hc1
          go_wp2_with fail
          refine HC1.out.mono ?_
          rintro e w2 ⟨rfl, rfl⟩
          go_wp2_with fail
          refine (classTrim_any y.val _ (by omega)).mono ?_
          rintro e w3 ⟨rfl, hb3⟩
          have HB3 := Lib.hid (bnext HB1.out hb3)
          have hv1 : (⟨#[32]⟩ : ByteArray).size + (trS y.val).size ≤ 9223372036854775807 := by rw [trS_size]; show 1 + y.val.size ≤ _; omega
          have hv2 : ((⟨#[32]⟩ : ByteArray) ++ trS y.val).size + (⟨#[32]⟩ : ByteArray).size ≤ 9223372036854775807 := by
            rw [ByteArray.size_append, trS_size]; show 1 + y.val.size + 1 ≤ _; omega
          have HC2 := Lib.hid (zzCon_g ((⟨#[32]⟩ : ByteArray) ++ trS y.val ++ (⟨#[32]⟩ : ByteArray)) cl (by rw [blk_size, trS_size]; omega) hcls w3)
          rw [blk_bytes, trS_data, HCl.out, ← HFz.out] at HC2
          clear hb3
          cases hr : F q
          · rw [hr] at HC2
            have HN : Hid ((ns.take (k + 1)).any F = false) := by rw [Hid, HTk.out, hno.out, hr]; rfl
            clear hno hr
            go_wp2_with fail
            refine HC2.out.mono ?_
            rintro e w4 ⟨rfl, rfl⟩
            go_wp2_with fail
            go_roundw
            case rel => exact ⟨k + 1, by omega, by go_num, HN, HB3.out⟩
            case measure => simp [intOf]; omega
          · rw [hr] at HC2
            have HN := Lib.hid (HAll.out hr)
            clear hno hr
            go_wp2_with fail
            refine HC2.out.mono ?_
            rintro e w4 ⟨rfl, rfl⟩
            go_wp2_with fail
            go_ret
            exact ⟨ret_b HN.out, HB3.out⟩
    · have HN : Hid (ns.any F = false) := by
        have e : k = ns.length := by omega
        have := hno.out
        rw [e, List.take_length] at this
        exact this
      go_wp2_with fail
      go_ret
      exact ⟨ret_b HN.out, HB.out⟩
end Go.Proofs.Ytgilbckfkngaiaa

namespace Go.Proofs.Ytgilbckfkngaiaa
open Go.RowKit
set_option linter.unusedVariables false

theorem fits_vals {t : List Nd} (hf : fits1 t = true) (i : Nat) (hi : i < t.length) : t[i].attrs.length ≤ 2147483647 ∧ ∀ x ∈ t[i].attrs, x.val.size ≤ 2147483647 := by
  simp only [fits1, Bool.and_eq_true, List.all_eq_true] at hf
  have := hf.2 t[i] (List.getElem_mem hi)
  simp only [fits2, fits3, Bool.and_eq_true, decide_eq_true_eq, List.all_eq_true] at this
  refine ⟨this.2.1, fun x hx => ?_⟩
  have h2 := this.2.2 x hx
  simp only [fits4, Bool.and_eq_true, decide_eq_true_eq] at h2
  exact h2.2

/-- The value of the class attribute of a node. -/
def vC (t : List Nd) (i : Nat) : ByteArray := valA (findA (t.getD i default).attrs clsK)
theorem vC_size {t : List Nd} (hf : fits1 t = true) (i : Nat) (hi : i < t.length) : (vC t i).size ≤ 2147483647 := by
  unfold vC
  rw [getD_at hi]
  cases hq : findA t[i].attrs clsK with
  | none => exact Nat.zero_le _
  | some x => exact (fits_vals hf i hi).2 x (List.mem_of_find?_eq_some hq)

theorem hasAt_word {t : List Nd} {i : Nat} {name : ByteArray} (hv : SimC (vC t i)) (hc : CN name.data.toList) : hasAt (findA (t.getD i default).attrs clsK) name = decide (name.data.toList ∈ words (vC t i).data.toList) := by
  unfold vC at hv ⊢
  cases hq : findA (t.getD i default).attrs clsK with
  | none => simp [hasAt, valA, words, wds]
  | some x =>
    rw [hq] at hv
    exact hasC_word hv hc

theorem ordP_elem {t : List Nd} {l : List Int} {ns : List Nat} (h : ElemP t l ns) : OrdP t.length l ns := ⟨h.eq, h.lt, h.nodup⟩

theorem attr_one {x : Nd} {k : ByteArray} {w w' : World} {e : Ending} (h : AttrPost x.attrs k w e w') : e = .returned (.tuple #[.string (valA (findA x.attrs k)), .bool (findA x.attrs k).isSome]) ∧ Below w.heap.size w w' := by
  obtain ⟨h1, h2⟩ := h
  refine ⟨?_, h2⟩
  cases hq : findA x.attrs k with
  | none => rw [hq] at h1; exact h1
  | some y => rw [hq] at h1; exact h1

set_option maxRecDepth 100000 in
set_option maxHeartbeats 1000000 in
theorem hasClass_any (a : Option Addr) (c : Nat) (t : List Nd) (hf : fits1 t = true) (hR : RightP t) (ad : Option Addr) (c2 : Nat) (l : List Int) (ns : List Nat) (ho : ElemP t l ns) (hl : l.length ≤ 2147483647) (name : ByteArray) (hn : name.size ≤ 2147483647) (w : World) (h : NSl w w.heap.size a t) (hi : ISl w w.heap.size ad l) :
    Calls Try.prog 32 #[.slice a t.length c, .slice ad l.length c2, .string name] w fun e w' => e = .returned (.tuple #[.bool (ns.any fun i => hasAt (findA (t.getD i default).attrs clsK) name), .bool true]) ∧ Below w.heap.size w w' := by
  have HC := Lib.hid (chosen_any a c t hR ad c2 l ns (ordP_elem ho) hl w h hi)
  have HO := Lib.hid ho
  have HR := Lib.hid hR
  have hlen := (ordP_elem ho).len
  have hle := hR.le
  have HF : Hid ((ns.any fun i => hasAt (findA (atsOf (t.getD i default)) clsK) name) = (ns.any fun i => hasAt (findA (t.getD i default).attrs clsK) name)) := by
    rw [Hid, Bool.eq_iff_iff, List.any_eq_true, List.any_eq_true]
    constructor
    · rintro ⟨i, hi, h⟩
      refine ⟨i, hi, ?_⟩
      rw [getD_at (ho.lt i hi)] at h ⊢
      rwa [hR.ats i (ho.lt i hi)] at h
    · rintro ⟨i, hi, h⟩
      refine ⟨i, hi, ?_⟩
      rw [getD_at (ho.lt i hi)] at h ⊢
      rwa [hR.ats i (ho.lt i hi)]
  have HM : Hid (∀ (B0 B L : Nat) (bl : Nat → Nat) (st : Nat → Dn) (g : Nat) (doc : Option Addr) (W : World), SelOf bl ns B g doc W → Tree t W B0 L bl st →
      Calls Try.prog 73 #[.pointer (some ⟨g, 0, none⟩), .string name] W fun e w' => e = .returned (.bool (ns.any fun i => hasAt (findA (t.getD i default).attrs clsK) name)) ∧ Below W.heap.size W w') := by
    intro B0 B L bl st g doc W hs hT
    have := hasClassM_any hR B0 B L bl st ns ho.lt (fun i hi => by unfold isEl; rw [decide_eq_true_eq]; exact ho.kind i hi) (by omega) g doc name hn W hs hT (fun i hi => by rw [hR.ats i hi]; exact fits_vals hf i hi)
    rw [HF.out] at this
    exact this
  clear hR ho h hi HF hlen hle hf
  go_enter Try.func32, Try.ntmps32
  go_wp2_with fail
  refine HC.out.mono ?_
  rintro e w1 ⟨L, bl, st, g, doc, rfl, hL, hT, hs, hb1⟩
  have HP := Lib.hid (HM.out _ _ L bl st g doc w1 hs hT)
  have HB1 := Lib.hid hb1
  clear hs hb1 hT
  go_wp2_with fail
  refine HP.out.mono ?_
  rintro e w2 ⟨rfl, hb2⟩
  have HB2 := Lib.hid (bnext HB1.out hb2)
  clear hb2
  go_wp2_with fail
  go_ret2
  exact ⟨rfl, HB2.out⟩

set_option maxRecDepth 100000 in
set_option maxHeartbeats 1000000 in
theorem attrOf_any (a : Option Addr) (c : Nat) (t : List Nd) (hf : fits1 t = true) (hR : RightP t) (ad : Option Addr) (c2 : Nat) (l : List Int) (ns : List Nat) (ho : OrdP t.length l ns) (hl : l.length ≤ 2147483647) (k : ByteArray) (w : World) (h : NSl w w.heap.size a t) (hi : ISl w w.heap.size ad l) :
    Calls Try.prog 33 #[.slice a t.length c, .slice ad l.length c2, .string k] w fun e w' => e = .returned (.tuple #[.string (valA (headA t ns k)), .bool (headA t ns k).isSome, .bool true]) ∧ Below w.heap.size w w' := by
  have HC := Lib.hid (chosen_any a c t hR ad c2 l ns ho hl w h hi)
  have HO := Lib.hid ho
  have HA : Hid (∀ i (h : i < t.length), (atsOf t[i]).length ≤ 2147483647) := fun i hi => by rw [hR.ats i hi]; exact fits_ats hf i hi
  clear hR ho h hi hf
  go_enter Try.func33, Try.ntmps33
  go_wp2_with fail
  refine HC.out.mono ?_
  rintro e w1 ⟨L, bl, st, g, doc, rfl, hL, hT, hs, hb1⟩
  have HP := Lib.hid (selAttr_any t _ _ L bl st ns HO.out.lt g doc k w1 hs hT HA.out)
  have HB1 := Lib.hid hb1
  clear hs hb1 hT
  go_wp2_with fail
  refine HP.out.mono ?_
  rintro e w2 ⟨rfl, hb2⟩
  have HB2 := Lib.hid (bnext HB1.out hb2)
  clear hb2
  go_wp2_with fail
  go_ret3
  exact ⟨rfl, HB2.out⟩

set_option maxRecDepth 100000 in
set_option maxHeartbeats 2000000 in
theorem FnHasClass_walk (ad : Option Addr) (len c : Nat) (t : List Nd) (a2 : Option Addr) (len2 c2 : Nat) (l : List Int) (name key : ByteArray) (w : World) (h : NSl w w.heap.size ad t ∧ len = t.length) (hi : ISl w w.heap.size a2 l ∧ len2 = l.length ∧ len2 ≤ c2) (hn : name.size ≤ maxLen) (hk : key.size ≤ maxLen) :
    Calls Try.prog 5 #[.slice ad len c, .slice a2 len2 c2, .string name, .string key] w fun e w' => e = .returned (.bool true) ∧ Below w.heap.size w w' := by
  obtain ⟨h, rfl⟩ := h
  obtain ⟨hi, rfl, hc2⟩ := hi
  have HH := Lib.hid h
  have hll := hi.len
  have HI := Lib.hid hi
  unfold maxLen at hll hn hk
  clear h hi
  go_enter Try.func5, Try.ntmps5
  go_wp2_with fail
  refine (zzFits1_any _ _ t _ HH.out).mono ?_
  rintro e w1 ⟨rfl, hb1⟩
  have HB1 := Lib.hid hb1
  clear hb1
  cases hf : fits1 t
  · go_wp2_with fail
    go_ret
    exact ⟨rfl, HB1.out⟩
  by_cases k1 : 2147483647 < l.length
  · go_wp2_with fail
    go_ret
    exact ⟨rfl, HB1.out⟩
  by_cases k2 : 2147483647 < name.size
  · go_wp2_with fail
    go_ret
    exact ⟨rfl, HB1.out⟩
  by_cases k3 : 2147483647 < key.size
  · go_wp2_with fail
    go_ret
    exact ⟨rfl, HB1.out⟩
  go_wp2_with fail
  refine (right_any _ _ t _ (HH.out.up HB1.out) hf).mono ?_
  rintro e w2 ⟨b, rfl, hR, hb2⟩
  have HB2 := Lib.hid (bnext HB1.out hb2)
  clear hb2
  cases b
  · clear hR
    go_wp2_with fail
    go_ret
    exact ⟨rfl, HB2.out⟩
  have HR := Lib.hid (hR rfl)
  have HFit := Lib.hid hf
  have htl := (hR rfl).le
  clear hR
  go_wp2_with fail
  refine (elements_any _ _ t htl _ _ l (by omega) hc2 _ (HH.out.up HB2.out) (HI.out.up HB2.out)).mono ?_
  rintro e w3 ⟨b, rfl, he, hb3⟩
  have HB3 := Lib.hid (bnext HB2.out hb3)
  clear hb3
  cases b
  · clear he
    go_wp2_with fail
    go_ret
    exact ⟨rfl, HB3.out⟩
  obtain ⟨ns, he⟩ := he rfl
  have HE := Lib.hid he
  have HLn := Lib.hid (ordP_elem he).length
  clear he
  have HWc := Lib.hid (words_count name.data.toList)
  have HWd := Lib.hid (fun W => wordsC_any name (by omega) W)
  obtain ⟨Ws, hWs⟩ : ∃ Ws, Ws = words name.data.toList := ⟨_, rfl⟩
  have HWs := Lib.hid hWs
  rw [← hWs] at HWd HWc
  have hwl : Ws.length ≤ 2147483647 := Nat.le_trans HWc.out (by show name.size ≤ _; omega)
  clear hWs HWc
  go_wp2_with fail
  refine (HWd.out _).mono ?_
  rintro e w4 ⟨a4, c4, rfl, hown4, hb4⟩
  have HB4 := Lib.hid (bnext HB3.out hb4)
  clear hb4 hown4
  by_cases k4 : ¬ Ws.length = 1
  · have z1 : ((Ws.length : Int) != 1) = true := by rw [bne_iff_ne]; omega
    clear k4
    go_wp2_with fail
    go_ret
    exact ⟨rfl, HB4.out⟩
  obtain ⟨W0, rfl⟩ : ∃ W0, Ws = [W0] := List.length_eq_one_iff.1 (Decidable.not_not.1 k4)
  clear k4 hwl
  go_wp2_with fail
  refine (HWd.out _).mono ?_
  rintro e w5 ⟨a5, c5, rfl, hown5, hb5⟩
  have HB5 := Lib.hid (bnext HB4.out hb5)
  obtain ⟨a5', c5', hv, _, hrs⟩ := RSl.own hown5
  cases hv
  obtain ⟨b5, o5, rfl, hbB5, hcc⟩ := hrs.at_ (by rw [strs_length]; simp)
  have g5 := hcc 0 (by rw [strs_length]; simp)
  rw [strs_at (by simp), Nat.add_zero] at g5
  simp only [List.getElem_cons_zero] at g5
  have HEq : Hid (((⟨W0.toArray⟩ : ByteArray).toList == name.toList) = (W0 == name.data.toList)) := by
    rw [Hid, toLb, toLb]
  obtain ⟨x0, hx0⟩ : ∃ x : ByteArray, x = ⟨W0.toArray⟩ := ⟨_, rfl⟩
  rw [← hx0] at HEq g5
  simp only [List.length_cons, List.length_nil, Nat.zero_add]
  clear hcc hrs hown5 hb5 hx0
  cases hq : (W0 == name.data.toList)
  · rw [hq] at HEq
    have z1 := HEq.out
    have z2 : (x0.toList != name.toList) = true := by rw [bne, z1]; rfl
    clear hq
    go_wp2_with fail
    go_ret
    exact ⟨rfl, HB5.out⟩
  rw [hq] at HEq
  have z1 := HEq.out
  have z2 : (x0.toList != name.toList) = false := by rw [bne, z1]; rfl
  have HCN : Hid (CN name.data.toList) := by
    have hw := HWs.out
    rw [beq_iff_eq.1 hq] at hw
    have := words_mem (l := name.data.toList) (w := name.data.toList) (by rw [← hw]; simp)
    exact ⟨this.1, this.2.1⟩
  clear hq HEq
  go_wp2_with fail
  refine (name_any key _ (by omega)).mono ?_
  rintro e w6 ⟨b, rfl, rfl⟩
  cases b
  · go_wp2_with fail
    go_ret
    exact ⟨rfl, HB5.out⟩
  obtain ⟨G, hG⟩ : ∃ G : Nat → Bool, G = fun i => decide (name.data.toList ∈ words (vC t i).data.toList) := ⟨_, rfl⟩
  have HG := Lib.hid hG
  clear hG z1 z2 g5 hbB5 HWd HWs
  go_wp2_with fail
  go_loopw [9, 10, 11, 12] (fun wt x v11 v12 wr => ∃ k : Nat, k ≤ l.length ∧ wt = .bool ((ns.take k).any G) ∧ x = .int .i64 k ∧ Hid (∀ i ∈ ns.take k, SimC (vC t i)) ∧ Below w.heap.size w wr) (fun _ x _ _ _ => l.length - (intOf x).toNat)
  case atStart => exact ⟨0, by omega, rfl, rfl, (by simp [Hid]), HB5.out⟩
  case round =>
    obtain ⟨k, hk, rfl, rfl, hsim, hb⟩ := hrel
    have HB := Lib.hid hb
    clear hb
    by_cases hltl : k < l.length
    · have HLt : Hid (k < ns.length) := by have := HLn.out; show k < ns.length; omega
      obtain ⟨b, o, rfl, hbB, hc⟩ := (HI.out.up HB.out).at_ (by omega)
      have g1 := hc k hltl
      rw [(List.getElem_of_eq HE.out.eq _).trans (toI_at HLt.out)] at g1
      obtain ⟨q, hq⟩ : ∃ q, q = ns[k]'HLt.out := ⟨_, rfl⟩
      have hqt : q < t.length := by rw [hq]; exact HE.out.lt _ (List.getElem_mem HLt.out)
      have HTk : Hid (ns.take (k + 1) = ns.take k ++ [q]) := by
        rw [Hid, List.take_succ_eq_append_getElem HLt.out, hq]
      rw [← hq] at g1
      clear hc hq
      obtain ⟨b', o', rfl, hbB', hnn⟩ := (HH.out.up HB.out).at_ (by omega)
      obtain ⟨f1, f2, f3, f4, f5, hok⟩ := hnn q hqt
      have HAt := Lib.hid (attr_any t[q] clsK wr hok.attrs (fits_ats HFit.out q hqt))
      have HVq : Hid (valA (findA t[q].attrs clsK) = vC t q) := by rw [Hid, vC, getD_at hqt]
      have hvs : (vC t q).size ≤ 2147483647 := vC_size HFit.out q hqt
      have HSi := Lib.hid (fun W => simple_any (vC t q) hvs W)
      have HWo := Lib.hid (fun W => word2_any (vC t q) name hvs W)
      have HGq : Hid (G q = decide (name.data.toList ∈ words (vC t q).data.toList)) := by rw [Hid, HG.out]
      rw [← HGq.out] at HWo
      clear hnn hok
      go_wp2_with fail
      refine HAt.out.mono ?_
      intro e w7 he
      obtain ⟨rfl, hb7⟩ := attr_one he
      have HB7 := Lib.hid (bnext HB.out hb7)
      rw [HVq.out]
      clear hb7 he
      go_wp2_with fail
      refine (HSi.out _).mono ?_
      rintro e w8 ⟨b, rfl, hs8, hb8⟩
      have HB8 := Lib.hid (bnext HB7.out hb8)
      have HS8 := Lib.hid hs8
      clear hb8 hs8
      cases b
      · go_wp2_with fail
        go_ret
        exact ⟨rfl, HB8.out⟩
      have HN : Hid (∀ i ∈ ns.take (k + 1), SimC (vC t i)) := by
        intro i hi
        rw [HTk.out, List.mem_append, List.mem_singleton] at hi
        rcases hi with hi | rfl
        · exact hsim.out i hi
        · exact HS8.out rfl
      have HA2 : Hid ((ns.take (k + 1)).any G = ((ns.take k).any G || G q)) := by rw [Hid, HTk.out, List.any_append]; simp
      clear hsim
      cases hw : (ns.take k).any G
      · rw [hw, Bool.false_or] at HA2
        go_wp2_with fail
        refine (HWo.out _).mono ?_
        rintro e w9 ⟨rfl, hb9⟩
        have HB9 := Lib.hid (bnext HB8.out hb9)
        clear hb9
        go_wp2_with fail
        go_roundw
        case rel => exact ⟨k + 1, by omega, by rw [HA2.out], by go_num, HN, HB9.out⟩
        case measure => simp [intOf]; omega
      · rw [hw, Bool.true_or] at HA2
        go_wp2_with fail
        go_roundw
        case rel => exact ⟨k + 1, by omega, by rw [HA2.out], by go_num, HN, HB8.out⟩
        case measure => simp [intOf]; omega
    · have e : k = l.length := by omega
      subst e
      have htk : ns.take l.length = ns := List.take_of_length_le (by have := HLn.out; omega)
      rw [htk] at hsim ⊢
      clear htk
      have HAny : Hid ((ns.any fun i => hasAt (findA (t.getD i default).attrs clsK) name) = ns.any G) := by
        rw [Hid, HG.out, Bool.eq_iff_iff, List.any_eq_true, List.any_eq_true]
        constructor
        · rintro ⟨i, hi, h⟩; exact ⟨i, hi, by rwa [hasAt_word (hsim.out i hi) HCN.out] at h⟩
        · rintro ⟨i, hi, h⟩; exact ⟨i, hi, by rwa [hasAt_word (hsim.out i hi) HCN.out]⟩
      have HHas : Hid (∀ W, Below w.heap.size w W → Calls Try.prog 32 #[.slice ad t.length c, .slice a2 l.length c2, .string name] W fun e w' => e = .returned (.tuple #[.bool (ns.any G), .bool true]) ∧ Below W.heap.size W w') := by
        intro W hW
        have := hasClass_any ad c t HFit.out HR.out a2 c2 l ns HE.out (by omega) name (by omega) W (HH.out.up hW) (HI.out.up hW)
        rw [HAny.out] at this
        exact this
      have HAtr : Hid (∀ W, Below w.heap.size w W → Calls Try.prog 33 #[.slice ad t.length c, .slice a2 l.length c2, .string key] W fun e w' => e = .returned (.tuple #[.string (valA (headA t ns key)), .bool (headA t ns key).isSome, .bool true]) ∧ Below W.heap.size W w') :=
        fun W hW => attrOf_any ad c t HFit.out HR.out a2 c2 l ns (ordP_elem HE.out) (by omega) key W (HH.out.up hW) (HI.out.up hW)
      obtain ⟨R, hR⟩ : ∃ R, R = ns.any G := ⟨_, rfl⟩
      rw [← hR] at HHas ⊢
      clear hR HAny hsim
      go_wp2_with fail
      refine (HHas.out _ HB.out).mono ?_
      rintro e v1 ⟨rfl, hc1⟩
      have HC1 := Lib.hid (bnext HB.out hc1)
      clear hc1
      go_wp2_with fail
      refine (HAtr.out _ HC1.out).mono ?_
      rintro e v2 ⟨rfl, hc2'⟩
      have HC2 := Lib.hid (bnext HC1.out hc2')
      clear hc2'
      have z3 : (R != R) = false := by cases R <;> rfl
      by_cases hl0 : l.length = 0
      · have hns : ns = [] := List.eq_nil_of_length_eq_zero (by have := HLn.out; omega)
        subst hns
        have z4 : ((l.length : Int) == 0) = true := by rw [beq_iff_eq]; omega
        simp only [headA, valA, Option.isSome_none]
        go_wp2_with fail
        go_ret
        exact ⟨rfl, HC2.out⟩
      · have z4 : ((l.length : Int) == 0) = false := beq_eq_false_iff_ne.2 (by omega)
        have HNl : Hid (0 < ns.length) := by have := HLn.out; show 0 < ns.length; omega
        have hltl : 0 < l.length := by omega
        obtain ⟨b, o, rfl, hbB, hc⟩ := (HI.out.up HC2.out).at_ (by omega)
        have g1 := hc 0 hltl
        rw [(List.getElem_of_eq HE.out.eq _).trans (toI_at HNl.out), Nat.add_zero] at g1
        obtain ⟨q, hq⟩ : ∃ q, q = ns[0]'HNl.out := ⟨_, rfl⟩
        have hqt : q < t.length := by rw [hq]; exact HE.out.lt _ (List.getElem_mem HNl.out)
        rw [← hq] at g1
        obtain ⟨b', o', rfl, hbB', hnn⟩ := (HH.out.up HC2.out).at_ (by omega)
        obtain ⟨f1, f2, f3, f4, f5, hok⟩ := hnn q hqt
        have HAt := Lib.hid (attr_any t[q] key v2 hok.attrs (fits_ats HFit.out q hqt))
        have HHd : Hid (headA t ns key = findA t[q].attrs key) := by
          obtain ⟨n0, ms, rfl⟩ := List.exists_cons_of_length_pos HNl.out
          simp only [List.getElem_cons_zero] at hq
          subst hq
          rw [Hid, headA, getD_at hqt, HR.out.ats q hqt]
        rw [HHd.out]
        obtain ⟨r, hr⟩ : ∃ r, r = findA t[q].attrs key := ⟨_, rfl⟩
        have HRr := Lib.hid hr
        rw [← hr]
        clear hnn hok hc hq hr
        have z5 : (r.isSome == r.isSome) = true := beq_self_eq_true _
        have z6 : ((valA r).toList == (valA r).toList) = true := beq_self_eq_true _
        go_wp2_with fail
        refine HAt.out.mono ?_
        intro e v3 he
        obtain ⟨rfl, hc3⟩ := attr_one he
        have HC3 := Lib.hid (bnext HC2.out hc3)
        rw [← HRr.out]
        clear hc3 he
        go_wp2_with fail
        go_ret
        exact ⟨ret_b (by simp), HC3.out⟩
end Go.Proofs.Ytgilbckfkngaiaa
