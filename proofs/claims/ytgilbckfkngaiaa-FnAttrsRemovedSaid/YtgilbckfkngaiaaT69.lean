/- Classes toggled, as texts between blanks. (No program in sight.) -/
import Derived.Test.YtgilbckfkngaiaaT66
import Derived.Lib.Space
namespace Go.Proofs.Ytgilbckfkngaiaa
set_option linter.unusedVariables false

/-- A name between blanks. -/
def blk (c : List UInt8) : List UInt8 := 32 :: c ++ [32]
/-- A text of classes: it begins and ends with a blank, and has no other white space. -/
structure CT (X : List UInt8) : Prop where
  front : ∃ m, X = 32 :: m
  back : ∃ m, X = m ++ [32]
  ws : ∀ c ∈ X, wsB c = true → c = 32
/-- A name of a class. -/
structure CN (c : List UInt8) : Prop where
  ne : c ≠ []
  ws : ∀ x ∈ c, wsB x = false

theorem CT.has {X c : List UInt8} (h : CT X) (hc : CN c) : Lib.contains X (blk c) = true ↔ c ∈ words X := by
  rw [contains_iff]
  have e1 : words (32 :: X ++ [32]) = words X := by rw [words_back (by decide), words_front (by decide)]
  constructor
  · rintro ⟨A, B, e⟩
    refine (words_between h.ws hc.ws hc.ne).2 ⟨32 :: A, B ++ [32], ?_⟩
    rw [e]; unfold blk; simp
  · intro hw
    obtain ⟨_, _, pre, post, e, h1, h2⟩ := words_mem hw
    have hp : ∃ A, pre = A ++ [32] := by
      rcases h1 with rfl | ⟨p, x, rfl, hx⟩
      · obtain ⟨m, hm⟩ := h.front
        rw [List.nil_append] at e
        obtain ⟨y, c', rfl⟩ := List.exists_cons_of_ne_nil hc.ne
        rw [hm] at e
        have : (32 : UInt8) = y := by simpa using congrArg List.head? e
        have h3 := hc.ws y (by simp)
        rw [← this] at h3; cases h3
      · have : x = 32 := h.ws x (by rw [e]; simp) hx
        exact ⟨p, by rw [this]⟩
    have hq : ∃ B, post = 32 :: B := by
      rcases h2 with rfl | ⟨x, p, rfl, hx⟩
      · obtain ⟨m, hm⟩ := h.back
        rw [List.append_nil] at e
        rcases List.eq_nil_or_concat c with hn | ⟨c', y, rfl⟩
        · exact absurd hn hc.ne
        · rw [hm, List.concat_eq_append, ← List.append_assoc] at e
          have : (32 : UInt8) = y := by simpa using (congrArg List.getLast? e)
          have h3 := hc.ws y (by simp)
          rw [← this] at h3; cases h3
      · have : x = 32 := h.ws x (by rw [e]; simp) hx
        exact ⟨p, by rw [this]⟩
    obtain ⟨A, rfl⟩ := hp
    obtain ⟨B, rfl⟩ := hq
    exact ⟨A, B, by rw [e]; unfold blk; simp⟩

/-- What the program's helper for replacing gives. -/
def repl (old new : List UInt8) : Nat → List UInt8 → List UInt8
  | 0, s => s
  | f + 1, s => if Lib.index s old < 0 then s else s.take (Lib.index s old).toNat ++ new ++ repl old new f (s.drop ((Lib.index s old).toNat + old.length))

theorem index_parts {s old : List UInt8} (h : 0 ≤ Lib.index s old) : ∃ B, s = s.take (Lib.index s old).toNat ++ old ++ B ∧ s.drop ((Lib.index s old).toNat + old.length) = B := by
  rcases Lib.index_spec s old with ⟨h1, _⟩ | ⟨i, h1, h2, h3, _⟩
  · omega
  · rw [h1]
    unfold Lib.occAt at h3
    obtain ⟨B, hB⟩ := List.isPrefixOf_iff_prefix.1 h3
    refine ⟨B, ?_, ?_⟩
    · rw [Int.toNat_natCast, List.append_assoc, hB, List.take_append_drop]
    · rw [Int.toNat_natCast, ← List.drop_drop, ← hB, List.drop_left]
theorem index_no {s old : List UInt8} (h : Lib.contains s old = false) : Lib.index s old < 0 := by
  unfold Lib.contains at h
  rw [decide_eq_false_iff_not] at h; omega
theorem repl_no {s old new : List UInt8} (h : Lib.contains s old = false) : ∀ f, repl old new f s = s := by
  intro f
  cases f with
  | zero => rfl
  | succ f => rw [repl, if_pos (index_no h)]

/-- A class toggled. -/
def togX (X c : List UInt8) : List UInt8 := if Lib.contains X (blk c) = true then repl (blk c) [32] (X.length + 1) X else X ++ c ++ [32]
/-- A class added, unless it is there. -/
def addX (X c : List UInt8) : List UInt8 := if Lib.contains X (blk c) = true then X else X ++ c ++ [32]

theorem CT.more {X c : List UInt8} (h : CT X) (hc : CN c) : CT (X ++ c ++ [32]) ∧ words (X ++ c ++ [32]) = words X ++ [c] := by
  obtain ⟨m, hm⟩ := h.front
  obtain ⟨b, hb⟩ := h.back
  refine ⟨⟨⟨m ++ c ++ [32], by rw [hm]; simp⟩, ⟨X ++ c, rfl⟩, fun x hx hw => ?_⟩, ?_⟩
  · rw [List.mem_append, List.mem_append, List.mem_singleton] at hx
    rcases hx with (hx | hx) | hx
    · exact h.ws x hx hw
    · have := hc.ws x hx; rw [hw] at this; cases this
    · exact hx
  · have e : X ++ c ++ [32] = b ++ 32 :: (c ++ [32]) := by rw [hb]; simp
    rw [e, words_cat (by decide), words_back (by decide), words_one hc.ws hc.ne, hb, words_back (by decide)]
theorem CT.less {X c : List UInt8} (h : CT X) (hc : CN c) (hn : (words X).Nodup) (hw : c ∈ words X) :
    ∃ A B, X = A ++ blk c ++ B ∧ togX X c = A ++ 32 :: B ∧ CT (togX X c) ∧ words X = words A ++ c :: words B ∧ words (togX X c) = words A ++ words B := by
  have hcon := (h.has hc).2 hw
  have h0 : 0 ≤ Lib.index X (blk c) := by unfold Lib.contains at hcon; exact decide_eq_true_eq.mp hcon
  obtain ⟨B, e1, e2⟩ := index_parts h0
  obtain ⟨A, hA⟩ : ∃ A, A = X.take (Lib.index X (blk c)).toNat := ⟨_, rfl⟩
  rw [← hA] at e1
  have ew : words X = words A ++ c :: words B := by
    have : X = A ++ 32 :: (c ++ 32 :: B) := by rw [e1]; unfold blk; simp
    rw [this, words_cat (by decide), words_cat (by decide), words_one hc.ws hc.ne]; rfl
  have hnB : Lib.contains B (blk c) = false := by
    rw [Bool.eq_false_iff]
    intro q
    obtain ⟨A2, B2, e3⟩ := (contains_iff _ _).1 q
    have : B = A2 ++ 32 :: (c ++ 32 :: B2) := by rw [e3]; unfold blk; simp
    have hB : c ∈ words B := by
      rw [this, words_cat (by decide), words_cat (by decide), words_one hc.ws hc.ne]; simp
    rw [ew, List.nodup_append] at hn
    exact (List.nodup_cons.1 hn.2.1).1 hB
  have et : togX X c = A ++ 32 :: B := by
    unfold togX
    rw [if_pos hcon, repl, if_neg (by omega), e2, repl_no hnB, ← hA]; simp
  refine ⟨A, B, e1, et, ?_, ew, ?_⟩
  · rw [et]
    obtain ⟨m, hm⟩ := h.front
    obtain ⟨b, hb⟩ := h.back
    refine ⟨?_, ?_, fun x hx hxw => ?_⟩
    · cases A with
      | nil => exact ⟨B, rfl⟩
      | cons y A =>
        rw [hm] at e1
        have : (32 : UInt8) = y := by simpa using congrArg List.head? e1
        exact ⟨A ++ 32 :: B, by rw [← this]; rfl⟩
    · rcases List.eq_nil_or_concat B with rfl | ⟨B', y, rfl⟩
      · exact ⟨A, rfl⟩
      · rw [hb, List.concat_eq_append, ← List.append_assoc] at e1
        have : (32 : UInt8) = y := by simpa using congrArg List.getLast? e1
        exact ⟨A ++ 32 :: B', by rw [← this, List.concat_eq_append]; simp⟩
    · have : x ∈ X := by
        rw [e1]; unfold blk
        rw [List.mem_append, List.mem_cons] at hx
        rcases hx with hx | hx | hx
        · simp [hx]
        · simp [hx]
        · simp [hx]
      exact h.ws x this hxw
  · rw [et, words_cat (by decide)]

/-- A toggled class is there just if it was not; all others stay. -/
theorem CT.tog {X c : List UInt8} (h : CT X) (hc : CN c) (hn : (words X).Nodup) :
    CT (togX X c) ∧ (words (togX X c)).Nodup ∧ ∀ v, v ∈ words (togX X c) ↔ (v ∈ words X ∧ v ≠ c) ∨ (v = c ∧ c ∉ words X) := by
  by_cases hw : c ∈ words X
  · obtain ⟨A, B, _, _, h3, h4, h5⟩ := h.less hc hn hw
    rw [h4] at hn ⊢
    rw [h5]
    have hn2 := List.nodup_append.1 hn
    have hn3 := List.nodup_cons.1 hn2.2.1
    refine ⟨h3, ?_, fun v => ?_⟩
    · exact hn.sublist ((List.Sublist.refl _).append (List.sublist_cons_self _ _))
    · simp only [List.mem_append, List.mem_cons, true_or, or_true, not_true_eq_false, and_false, or_false]
      constructor
      · rintro (q | q)
        · exact ⟨.inl q, fun e => hn2.2.2 v q c (by simp) e⟩
        · exact ⟨.inr (.inr q), fun e => hn3.1 (e ▸ q)⟩
      · rintro ⟨q | q | q, hne⟩
        · exact .inl q
        · exact absurd q hne
        · exact .inr q
  · have hcon : Lib.contains X (blk c) = false := by
      rw [Bool.eq_false_iff]; intro q; exact hw ((h.has hc).1 q)
    have et : togX X c = X ++ c ++ [32] := by unfold togX; rw [if_neg (by simp [hcon])]
    obtain ⟨h1, h2⟩ := h.more hc
    rw [et, h2]
    refine ⟨h1, ?_, fun v => ?_⟩
    · rw [List.nodup_append]
      exact ⟨hn, by simp, fun a ha b hb e => hw (by rw [List.mem_singleton] at hb; rw [← hb, ← e]; exact ha)⟩
    · rw [List.mem_append, List.mem_singleton]
      constructor
      · rintro (q | q)
        · exact .inl ⟨q, fun e => hw (e ▸ q)⟩
        · exact .inr ⟨q, hw⟩
      · rintro (⟨q, _⟩ | ⟨q, _⟩)
        · exact .inl q
        · exact .inr q

/-- White space cut off at both ends changes no words. -/
theorem words_dropWhile : ∀ (l : List UInt8), (∀ c ∈ l, Lib.isSp c = true → wsB c = true) → words (l.dropWhile Lib.isSp) = words l := by
  intro l
  induction l with
  | nil => intro _; rfl
  | cons x l ih =>
    intro h
    rw [List.dropWhile_cons]
    split
    · rename_i hx
      rw [ih (fun c hc => h c (by simp [hc])), words_front (h x (by simp) hx)]
    · rfl
theorem words_dropR : ∀ (l : List UInt8), (∀ c ∈ l, Lib.isSp c = true → wsB c = true) → words ((l.dropWhile Lib.isSp).reverse) = words l.reverse := by
  intro l
  induction l with
  | nil => intro _; rfl
  | cons x l ih =>
    intro h
    rw [List.dropWhile_cons]
    split
    · rename_i hx
      rw [ih (fun c hc => h c (by simp [hc])), List.reverse_cons, words_back (h x (by simp) hx)]
    · rfl
theorem words_trim {l : List UInt8} (h : ∀ c ∈ l, Lib.isSp c = true → wsB c = true) : words (Lib.trimSpace l) = words l := by
  unfold Lib.trimSpace
  have h2 : ∀ c ∈ l.dropWhile Lib.isSp, Lib.isSp c = true → wsB c = true := fun c hc => h c ((List.dropWhile_suffix _).subset hc)
  rw [words_dropR _ (fun c hc => h2 c (List.mem_reverse.1 hc)), List.reverse_reverse, words_dropWhile _ h]
end Go.Proofs.Ytgilbckfkngaiaa
