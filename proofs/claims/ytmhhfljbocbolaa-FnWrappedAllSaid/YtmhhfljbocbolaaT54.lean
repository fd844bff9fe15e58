/- Whether a node is beneath another one; FindNodes, HasNodes. -/
import Derived.Test.YtmhhfljbocbolaaT50
import Derived.Test.YtmhhfljbocbolaaT43
namespace Go.Proofs.Ytmhhfljbocbolaa
open Go.RowKit
set_option linter.unusedVariables false

/-- j stands beneath i. -/
def und (t : List Nd) (i j : Nat) : Bool := decide (i < j ∧ j < i + sz t i)

theorem und_par {t : List Nd} (hl : Lam t 0 t.length) {i j p : Nat} (hi : i < t.length) (hp : p < t.length) (h : IsPar (sz t) 0 p j) : und t i j = (decide (p = i) || und t i p) := by
  obtain ⟨_, h2, h3, h4⟩ := h
  unfold und
  rw [Bool.eq_iff_iff, Bool.or_eq_true, decide_eq_true_eq, decide_eq_true_eq, decide_eq_true_eq]
  constructor
  · rintro ⟨q1, q2⟩
    rcases Nat.lt_trichotomy p i with e | e | e
    · have := h4 i e q1; omega
    · exact .inl e
    · exact .inr ⟨e, by omega⟩
  · rintro (rfl | ⟨q1, q2⟩)
    · exact ⟨h2, h3⟩
    · have := (hl i (Nat.zero_le _) hi).2.2.2 p q1 q2
      exact ⟨by omega, by omega⟩

/-- Which one of the nodes a pointer leads to, and one more. -/
def idxV (bl : Nat → Nat) (n : Nat) (v : Value) : Nat := match ptrBlk v with | none => 0 | some b => 1 + (List.range n).findIdx fun i => bl i == b
theorem idxV_at {bl : Nat → Nat} {n i : Nat} (hi : i < n) (hinj : ∀ i j, i < n → j < n → bl i = bl j → i = j) : idxV bl n (.pointer (some ⟨bl i, 0, none⟩)) = 1 + i := by
  unfold idxV ptrBlk
  dsimp only
  congr 1
  rw [List.findIdx_eq (by simpa using hi)]
  refine ⟨by simp, fun j hj => ?_⟩
  rw [beq_eq_false_iff_ne, List.getElem_range]
  intro e
  have := hinj j i (by omega) hi e
  omega

end Go.Proofs.Ytmhhfljbocbolaa
