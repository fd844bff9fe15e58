/- Digits, white space and comments in a text. (No program in sight.) -/
import Derived.Test.YtkdfdfhejibopaaDoorT404
namespace Go.Proofs.YtkdfdfhejibopaaDoor
open Go.RowKit
set_option linter.unusedVariables false

/-- Steps of a relation, one behind the other. -/
inductive Star (R : Nat → Nat → Prop) (k : Nat) : Nat → Prop
  | zero : Star R k k
  | snoc {i m : Nat} : Star R k i → R i m → Star R k m
theorem Star.one {R : Nat → Nat → Prop} {k m : Nat} (h : R k m) : Star R k m := .snoc .zero h
theorem Star.head {R : Nat → Nat → Prop} {k e : Nat} (h : Star R k e) : k = e ∨ ∃ m, R k m ∧ Star R m e := by
  induction h with
  | zero => exact .inl rfl
  | snoc _ hr ih =>
    rcases ih with rfl | ⟨m, h1, h2⟩
    · exact .inr ⟨_, hr, .zero⟩
    · exact .inr ⟨m, h1, h2.snoc hr⟩
theorem Star.rest {R : Nat → Nat → Prop} (det : ∀ i m m', R i m → R i m' → m = m') {k e' : Nat} (h' : Star R k e') (hs' : ∀ m, ¬ R e' m) {i : Nat} (h : Star R k i) : Star R i e' := by
  induction h with
  | zero => exact h'
  | snoc _ hr ih =>
    rcases ih.head with rfl | ⟨c, c1, c2⟩
    · exact absurd hr (hs' _)
    · rw [det _ _ _ hr c1]; exact c2
theorem Star.uniq {R : Nat → Nat → Prop} (det : ∀ i m m', R i m → R i m' → m = m') {k e e' : Nat} (h : Star R k e) (hs : ∀ m, ¬ R e m) (h' : Star R k e') (hs' : ∀ m, ¬ R e' m) : e = e' := by
  rcases (Star.rest det h' hs' h).head with q | ⟨m, q, _⟩
  · exact q
  · exact absurd q (hs m)

/-- Digits. -/
def isDg (c : Nat) : Bool := decide (48 ≤ c ∧ c ≤ 57)
theorem isDg_iff (c : Nat) : isDg c = true ↔ 48 ≤ c ∧ c ≤ 57 := by unfold isDg; rw [decide_eq_true_eq]
theorem isDg_no (c : Nat) : isDg c = false ↔ ¬ (48 ≤ c ∧ c ≤ 57) := by unfold isDg; rw [decide_eq_false_iff_not]
structure DgTo (s : ByteArray) (k j : Nat) : Prop where
  le : k + j ≤ s.size
  all : ∀ x, x < j → isDg (bAt s (k + x)) = true
  stop : isDg (bAt s (k + j)) = false
theorem DgTo.uniq {s : ByteArray} {k j j' : Nat} (h : DgTo s k j) (h' : DgTo s k j') : j = j' := by
  rcases Nat.lt_trichotomy j j' with c | c | c
  · have h1 := h'.all j c
    rw [h.stop] at h1; cases h1
  · exact c
  · have h1 := h.all j' c
    rw [h'.stop] at h1; cases h1
/-- What digits count, and what they count at most. -/
def dgV (s : ByteArray) (k : Nat) : Nat → Nat
  | 0 => 0
  | n + 1 => 10 * dgV s k n + (bAt s (k + n) - 48)
def dgC (s : ByteArray) (k : Nat) : Nat → Nat
  | 0 => 0
  | n + 1 => min (10 * dgC s k n + (bAt s (k + n) - 48)) 100000
theorem dgC_le (s : ByteArray) (k : Nat) : ∀ n, dgC s k n ≤ 100000
  | 0 => by simp [dgC]
  | n + 1 => Nat.min_le_right _ _
theorem dgC_eq (s : ByteArray) (k : Nat) : ∀ n, dgC s k n < 100000 → dgC s k n = dgV s k n
  | 0, _ => rfl
  | n + 1, h => by
    have h1 : dgC s k (n + 1) = min (10 * dgC s k n + (bAt s (k + n) - 48)) 100000 := rfl
    have h2 : 10 * dgC s k n + (bAt s (k + n) - 48) < 100000 := by rw [h1] at h; omega
    have ih := dgC_eq s k n (by omega)
    rw [h1, Nat.min_eq_left (by omega), ih]
    rfl

/-- The end of a comment whose text begins at i; a text without one. -/
def CmTo (s : ByteArray) (i e : Nat) : Prop :=
  ∃ m, i ≤ m ∧ m + 1 < s.size ∧ bAt s m = 42 ∧ bAt s (m + 1) = 47 ∧ e = m + 2 ∧ ∀ x, i ≤ x → x < m → ¬ (bAt s x = 42 ∧ bAt s (x + 1) = 47)
def NoCm (s : ByteArray) (i : Nat) : Prop := ∀ x, i ≤ x → x + 1 < s.size → ¬ (bAt s x = 42 ∧ bAt s (x + 1) = 47)
theorem CmTo.uniq {s : ByteArray} {i e e' : Nat} (h : CmTo s i e) (h' : CmTo s i e') : e = e' := by
  obtain ⟨m, h1, h2, h3, h4, h5, h6⟩ := h
  obtain ⟨n, k1, k2, k3, k4, k5, k6⟩ := h'
  rcases Nat.lt_trichotomy m n with c | c | c
  · exact absurd ⟨h3, h4⟩ (k6 m h1 c)
  · omega
  · exact absurd ⟨k3, k4⟩ (h6 n k1 c)
theorem CmTo.not {s : ByteArray} {i e : Nat} (h : CmTo s i e) (hn : NoCm s i) : False := by
  obtain ⟨m, h1, h2, h3, h4, h5, h6⟩ := h
  exact hn m h1 h2 ⟨h3, h4⟩

/-- One white space, or one comment. -/
def SkR (s : ByteArray) (i m : Nat) : Prop :=
  (i < s.size ∧ isWs (bAt s i) = true ∧ m = i + 1) ∨ (i + 1 < s.size ∧ bAt s i = 47 ∧ bAt s (i + 1) = 42 ∧ CmTo s (i + 2) m)
theorem isWs_47 : isWs 47 = false := by decide
theorem SkR.det {s : ByteArray} (i m m' : Nat) (h : SkR s i m) (h' : SkR s i m') : m = m' := by
  rcases h with ⟨h1, h2, h3⟩ | ⟨h1, h2, h3, h4⟩
  · rcases h' with ⟨k1, k2, k3⟩ | ⟨k1, k2, k3, k4⟩
    · omega
    · rw [k2, isWs_47] at h2; cases h2
  · rcases h' with ⟨k1, k2, k3⟩ | ⟨k1, k2, k3, k4⟩
    · rw [h2, isWs_47] at k2; cases k2
    · exact h4.uniq k4
theorem SkR.lt {s : ByteArray} {i m : Nat} (h : SkR s i m) : i < m ∧ m ≤ s.size ∧ (isWs (bAt s (m - 1)) = true ∨ bAt s (m - 1) = 47) := by
  rcases h with ⟨h1, h2, rfl⟩ | ⟨h1, h2, h3, n, k1, k2, k3, k4, rfl, k6⟩
  · exact ⟨by omega, by omega, .inl (by rw [Nat.add_sub_cancel]; exact h2)⟩
  · exact ⟨by omega, by omega, .inr (by rw [show n + 2 - 1 = n + 1 by omega]; exact k4)⟩
/-- White space and comments from k on go up to e. -/
def Sk (s : ByteArray) (k e : Nat) : Prop := Star (SkR s) k e ∧ e ≤ s.size ∧ ∀ m, ¬ SkR s e m
theorem Sk.uniq {s : ByteArray} {k e e' : Nat} (h : Sk s k e) (h' : Sk s k e') : e = e' := Star.uniq SkR.det h.1 h.2.2 h'.1 h'.2.2
theorem Star.last {s : ByteArray} {k e : Nat} (h : Star (SkR s) k e) : e = k ∨ (k < e ∧ (isWs (bAt s (e - 1)) = true ∨ bAt s (e - 1) = 47)) := by
  induction h with
  | zero => exact .inl rfl
  | snoc _ hr ih =>
    have := hr.lt
    refine .inr ⟨?_, this.2.2⟩
    rcases ih with rfl | ⟨q, _⟩ <;> omega
theorem Sk.ge {s : ByteArray} {k e : Nat} (h : Sk s k e) : k ≤ e := by rcases h.1.last with q | ⟨q, _⟩ <;> omega
/-- Where nothing is skipped any more. -/
theorem sk_stop {s : ByteArray} {e : Nat} (h1 : e < s.size → isWs (bAt s e) = false) (h2 : e + 1 < s.size → bAt s e = 47 → bAt s (e + 1) = 42 → NoCm s (e + 2)) : ∀ m, ¬ SkR s e m := by
  intro m h
  rcases h with ⟨k1, k2, k3⟩ | ⟨k1, k2, k3, k4⟩
  · rw [h1 k1] at k2; cases k2
  · exact k4.not (h2 k1 k2 k3)
end Go.Proofs.YtkdfdfhejibopaaDoor
