/- Words between white space. (No program in sight.) -/
import Derived.Lib.IndexMore
import Derived.Lib.IndexLaws
namespace Go.Proofs.Ytmhhfljbocbolaa
set_option linter.unusedVariables false

/-- White space of HTML. -/
def wsB (c : UInt8) : Bool := c == 32 || c == 9 || c == 10 || c == 13 || c == 12

def wds : List UInt8 → List UInt8 → List (List UInt8)
  | cur, [] => if cur = [] then [] else [cur]
  | cur, c :: l => if wsB c = true then (if cur = [] then wds [] l else cur :: wds [] l) else wds (cur ++ [c]) l
/-- The words of a text. -/
def words (l : List UInt8) : List (List UInt8) := wds [] l

theorem wds_ws {cur : List UInt8} {c : UInt8} (l : List UInt8) (h : wsB c = true) : wds cur (c :: l) = (if cur = [] then [] else [cur]) ++ wds [] l := by
  rw [wds, if_pos h]
  split <;> simp
theorem wds_no {cur : List UInt8} {c : UInt8} (l : List UInt8) (h : wsB c = false) : wds cur (c :: l) = wds (cur ++ [c]) l := by
  rw [wds, if_neg (by simp [h])]
theorem wds_cat {c : UInt8} (h : wsB c = true) (b : List UInt8) : ∀ (a cur : List UInt8), wds cur (a ++ c :: b) = wds cur a ++ wds [] b := by
  intro a
  induction a with
  | nil => intro cur; rw [List.nil_append, wds_ws _ h]; rfl
  | cons x a ih =>
    intro cur
    rw [List.cons_append]
    cases hx : wsB x
    · rw [wds_no _ hx, wds_no _ hx, ih]
    · rw [wds_ws _ hx, wds_ws _ hx, ih, List.append_assoc]
theorem words_cat {c : UInt8} (h : wsB c = true) (a b : List UInt8) : words (a ++ c :: b) = words a ++ words b := wds_cat h b a []
theorem words_front {c : UInt8} (h : wsB c = true) (b : List UInt8) : words (c :: b) = words b := by simpa [words, wds] using words_cat h [] b
theorem words_back {c : UInt8} (h : wsB c = true) (a : List UInt8) : words (a ++ [c]) = words a := by simpa [words, wds] using words_cat h a []
theorem wds_one : ∀ (l cur : List UInt8), (∀ c ∈ l, wsB c = false) → wds cur l = if cur ++ l = [] then [] else [cur ++ l] := by
  intro l
  induction l with
  | nil => intro cur _; rw [List.append_nil]; rfl
  | cons x l ih =>
    intro cur h
    rw [wds_no _ (h x (by simp)), ih _ (fun c hc => h c (by simp [hc])), List.append_assoc]
    rfl
theorem words_one {l : List UInt8} (h : ∀ c ∈ l, wsB c = false) (hne : l ≠ []) : words l = [l] := by
  unfold words
  rw [wds_one _ _ h, List.nil_append, if_neg hne]

theorem wds_mem : ∀ (l cur w : List UInt8), (∀ c ∈ cur, wsB c = false) → w ∈ wds cur l → w ≠ [] ∧ (∀ c ∈ w, wsB c = false) ∧ ∃ pre post, cur ++ l = pre ++ w ++ post ∧ (pre = [] ∨ ∃ p c, pre = p ++ [c] ∧ wsB c = true) ∧ (post = [] ∨ ∃ c p, post = c :: p ∧ wsB c = true) := by
  intro l
  induction l with
  | nil =>
    intro cur w hc hw
    rw [wds] at hw
    split at hw
    · simp at hw
    · rename_i hne
      rw [List.mem_singleton] at hw
      subst hw
      exact ⟨hne, hc, [], [], by simp, .inl rfl, .inl rfl⟩
  | cons x l ih =>
    intro cur w hc hw
    cases hx : wsB x
    · rw [wds_no _ hx] at hw
      have h := ih (cur ++ [x]) w (by intro c hm; rw [List.mem_append, List.mem_singleton] at hm; rcases hm with hm | rfl; exact hc c hm; exact hx) hw
      rwa [List.append_assoc] at h
    · rw [wds_ws _ hx, List.mem_append] at hw
      rcases hw with hw | hw
      · split at hw
        · simp at hw
        · rename_i hne
          rw [List.mem_singleton] at hw
          subst hw
          exact ⟨hne, hc, [], x :: l, by simp, .inl rfl, .inr ⟨x, l, rfl, hx⟩⟩
      · obtain ⟨h1, h2, pre, post, h3, h4, h5⟩ := ih [] w (by simp) hw
        refine ⟨h1, h2, cur ++ x :: pre, post, ?_, ?_, h5⟩
        · rw [List.nil_append] at h3; rw [h3]; simp
        · rcases h4 with rfl | ⟨p, c, rfl, hc2⟩
          · exact .inr ⟨cur, x, rfl, hx⟩
          · exact .inr ⟨cur ++ x :: p, c, by simp, hc2⟩
theorem words_mem {l w : List UInt8} (h : w ∈ words l) : w ≠ [] ∧ (∀ c ∈ w, wsB c = false) ∧ ∃ pre post, l = pre ++ w ++ post ∧ (pre = [] ∨ ∃ p c, pre = p ++ [c] ∧ wsB c = true) ∧ (post = [] ∨ ∃ c p, post = c :: p ∧ wsB c = true) :=
  wds_mem l [] w (by simp) h
theorem words_len_mem {l w : List UInt8} (h : w ∈ words l) : w.length ≤ l.length := by
  obtain ⟨_, _, pre, post, e, _⟩ := words_mem h
  rw [e]; simp; omega
theorem wds_count : ∀ (l cur : List UInt8), (wds cur l).length ≤ l.length + (if cur = [] then 0 else 1) := by
  intro l
  induction l with
  | nil => intro cur; rw [wds]; split <;> simp
  | cons x l ih =>
    intro cur
    cases hx : wsB x
    · rw [wds_no _ hx]
      have := ih (cur ++ [x])
      rw [if_neg (by simp)] at this
      rw [List.length_cons]; split <;> omega
    · rw [wds_ws _ hx, List.length_append, List.length_cons]
      have := ih []
      rw [if_pos rfl] at this
      split <;> simp <;> omega
theorem words_count (l : List UInt8) : (words l).length ≤ l.length := by
  have := wds_count l []
  rwa [if_pos rfl] at this

/-- A word is in a text, all white space of which are blanks, just if it stands there between blanks. -/
theorem words_between {l w : List UInt8} (hl : ∀ c ∈ l, wsB c = true → c = 32) (hw : ∀ c ∈ w, wsB c = false) (hne : w ≠ []) :
    w ∈ words l ↔ ∃ A B, 32 :: l ++ [32] = A ++ (32 :: w ++ [32]) ++ B := by
  constructor
  · intro h
    obtain ⟨_, _, pre, post, e, h1, h2⟩ := words_mem h
    have hp : ∃ A, 32 :: pre = A ++ [32] := by
      rcases h1 with rfl | ⟨p, c, rfl, hc⟩
      · exact ⟨[], rfl⟩
      · have : c = 32 := hl c (by rw [e]; simp) hc
        exact ⟨32 :: p, by rw [this]; simp⟩
    have hq : ∃ B, post ++ [32] = 32 :: B := by
      rcases h2 with rfl | ⟨c, p, rfl, hc⟩
      · exact ⟨[], rfl⟩
      · have : c = 32 := hl c (by rw [e]; simp) hc
        exact ⟨p ++ [32], by rw [this]; simp⟩
    obtain ⟨A, hA⟩ := hp
    obtain ⟨B, hB⟩ := hq
    refine ⟨A, B, ?_⟩
    have : 32 :: l ++ [32] = (32 :: pre) ++ w ++ (post ++ [32]) := by rw [e]; simp
    rw [this, hA, hB]; simp
  · rintro ⟨A, B, e⟩
    have e1 : words (32 :: l ++ [32]) = words l := by
      rw [words_back (by decide), words_front (by decide)]
    have e2 : words (A ++ (32 :: w ++ [32]) ++ B) = words A ++ ([w] ++ words B) := by
      have : A ++ (32 :: w ++ [32]) ++ B = A ++ 32 :: (w ++ 32 :: B) := by simp
      rw [this, words_cat (by decide), words_cat (by decide), words_one hw hne]
    rw [← e1, e, e2]; simp

theorem contains_iff (s sub : List UInt8) : Lib.contains s sub = true ↔ ∃ A B, s = A ++ sub ++ B := by
  unfold Lib.contains
  rw [decide_eq_true_eq]
  constructor
  · intro h
    rcases Lib.index_spec s sub with ⟨h1, _⟩ | ⟨i, h1, h2, h3, _⟩
    · omega
    · unfold Lib.occAt at h3
      obtain ⟨B, hB⟩ := List.isPrefixOf_iff_prefix.1 h3
      exact ⟨s.take i, B, by rw [List.append_assoc, hB, List.take_append_drop]⟩
  · rintro ⟨A, B, rfl⟩
    rcases Lib.index_spec (A ++ sub ++ B) sub with ⟨_, h2⟩ | ⟨i, h1, _⟩
    · have := h2 A.length (by simp)
      unfold Lib.occAt at this
      rw [List.append_assoc, List.drop_left] at this
      rw [List.isPrefixOf_iff_prefix.2 (List.prefix_append _ _)] at this
      cases this
    · omega
/-- Small letters. -/
def smB (c : UInt8) : UInt8 := if 65 ≤ c ∧ c ≤ 90 then c + 32 else c
theorem wsB_sm : ∀ c : UInt8, wsB (smB c) = wsB c := by
  intro c
  unfold smB
  split
  · rename_i h
    have h1 : 65 ≤ c.toNat := by simpa [UInt8.le_iff_toNat_le] using h.1
    have h2 : c.toNat ≤ 90 := by simpa [UInt8.le_iff_toNat_le] using h.2
    have e : ∀ (d : UInt8) (n : Nat), d.toNat = n → (n < 65) → (c == d) = false ∧ (c + 32 == d) = false := by
      intro d n hd hn
      have e3 : (c + 32).toNat = c.toNat + 32 := by rw [UInt8.toNat_add]; show (c.toNat + 32) % 256 = _; omega
      constructor
      · rw [beq_eq_false_iff_ne]; intro q; rw [q] at h1; omega
      · rw [beq_eq_false_iff_ne]; intro q; rw [q] at e3; omega
    unfold wsB
    simp [e 32 32 rfl (by decide), e 9 9 rfl (by decide), e 10 10 rfl (by decide), e 13 13 rfl (by decide), e 12 12 rfl (by decide)]
  · rfl
theorem wds_sm : ∀ (l cur : List UInt8), wds (cur.map smB) (l.map smB) = (wds cur l).map (List.map smB) := by
  intro l
  induction l with
  | nil => intro cur; simp only [List.map_nil, wds]; cases cur <;> simp
  | cons x l ih =>
    intro cur
    rw [List.map_cons]
    cases hx : wsB x
    · rw [wds_no _ hx, wds_no _ (by rw [wsB_sm]; exact hx), ← ih]; simp
    · rw [wds_ws _ hx, wds_ws _ (by rw [wsB_sm]; exact hx), List.map_append, ← ih]
      cases cur <;> simp
theorem words_sm (l : List UInt8) : words (l.map smB) = (words l).map (List.map smB) := wds_sm l []
end Go.Proofs.Ytmhhfljbocbolaa
