/- The nodes beside a node. (No program in sight.) -/
import Derived.Test.YtmhhfljbocbolaaT70
import Derived.Test.YtmhhfljbocbolaaT62
namespace Go.Proofs.Ytmhhfljbocbolaa
open Go.RowKit
set_option linter.unusedVariables false

theorem kidsFrom_has {t : List Nd} {p i : Nat} (h : ∀ m, p < m → m < i → m + sz t m ≤ i) (hi : i < p + sz t p) : ∀ (f x : Nat), p < x → x ≤ i → p + sz t p ≤ x + f → Lam t x (p + sz t p) → i ∈ kidsFrom t f x (p + sz t p) := by
  intro f
  induction f with
  | zero => intro x _ h1 h2; omega
  | succ f ih =>
    intro x h0 h1 h2 hl
    simp only [kidsFrom]
    rw [if_pos (by omega)]
    by_cases e : x = i
    · rw [e]; simp
    · have l := hl x (Nat.le_refl _) (by omega)
      have := h x h0 (by omega)
      rw [List.mem_cons]
      exact .inr (ih (x + sz t x) (by omega) this (by omega) (hl.from_ (by omega)))
theorem kid_mem {t : List Nd} (hR : RightP t) {p i : Nat} (hp : p < t.length) (h : IsPar (sz t) 0 p i) : i ∈ kidsL t p := by
  obtain ⟨_, h2, h3, h4⟩ := h
  obtain ⟨l1, l2, l3⟩ := hR.lamK hp
  exact kidsFrom_has h4 h3 (sz t p) (p + 1) (by omega) (by omega) (by omega) l1

/-- The kids of the node above, behind a node; ahead of it, the nearest one first; all but it. -/
def behindL (t : List Nd) (i : Nat) : List Nat := match parJ t i i with | none => [] | some p => (kidsL t p).filter fun k => decide (i < k)
def aheadL (t : List Nd) (i : Nat) : List Nat := match parJ t i i with | none => [] | some p => ((kidsL t p).filter fun k => decide (k < i)).reverse
def othersL (t : List Nd) (i : Nat) : List Nat := match parJ t i i with | none => [] | some p => (kidsL t p).filter fun k => !decide (k = i)

theorem asc_parts {K : List Nat} (h : K.Pairwise (· < ·)) {m : Nat} (hm : m < K.length) :
    (K.filter fun k => decide (K[m] < k)) = K.drop (m + 1) ∧ (K.filter fun k => decide (k < K[m])) = K.take m := by
  induction K generalizing m with
  | nil => simp at hm
  | cons x K ih =>
    rw [List.pairwise_cons] at h
    cases m with
    | zero =>
      simp only [List.getElem_cons_zero, Nat.zero_add, List.drop_succ_cons, List.drop_zero, List.take_zero]
      constructor
      · rw [List.filter_cons, if_neg (by simp), List.filter_eq_self]
        intro y hy; simpa using h.1 y hy
      · rw [List.filter_eq_nil_iff]
        intro y hy
        rcases List.mem_cons.1 hy with rfl | hy
        · simp
        · have := h.1 y hy; simp; omega
    | succ m =>
      have hm' : m < K.length := by simpa using hm
      obtain ⟨i1, i2⟩ := ih h.2 hm'
      have hx := h.1 K[m] (List.getElem_mem hm')
      simp only [List.getElem_cons_succ, List.drop_succ_cons, List.take_succ_cons]
      constructor
      · rw [List.filter_cons, if_neg (by simp; omega), i1]
      · rw [List.filter_cons, if_pos (by simpa using hx), i2]

/-- A node's place among its parent's kids. -/
theorem kid_place {t : List Nd} (hR : RightP t) {i p : Nat} (hi : i < t.length) (hp : parJ t i i = some p) :
    p < i ∧ ∃ m, ∃ h : m < (kidsL t p).length, (kidsL t p)[m] = i ∧ behindL t i = (kidsL t p).drop (m + 1) ∧ aheadL t i = ((kidsL t p).take m).reverse := by
  have h1 := (parJ_spec hp).1
  obtain ⟨m, hm, he⟩ := List.getElem_of_mem (kid_mem hR (by omega) (parJ_isPar hp))
  obtain ⟨a1, a2⟩ := asc_parts (kidsL_asc hR (show p < t.length by omega)) hm
  rw [he] at a1 a2
  refine ⟨h1, m, hm, he, ?_, ?_⟩
  · unfold behindL; rw [hp]; exact a1
  · unfold aheadL; rw [hp]; simp only; rw [a2]

theorem beside_mem {t : List Nd} (hR : RightP t) {i : Nat} (hi : i < t.length) :
    (behindL t i).Nodup ∧ (aheadL t i).Nodup ∧ (othersL t i).Nodup ∧ (∀ m ∈ behindL t i, m < t.length) ∧ (∀ m ∈ aheadL t i, m < t.length) ∧ (∀ m ∈ othersL t i, m < t.length) ∧
      (behindL t i).length ≤ 200 ∧ (aheadL t i).length ≤ 200 ∧ (othersL t i).length ≤ 200 := by
  unfold behindL aheadL othersL
  cases hp : parJ t i i with
  | none => simp
  | some p =>
    have h1 := (parJ_spec hp).1
    obtain ⟨k1, k2, k3⟩ := kids_facts hR p (by omega)
    simp only
    refine ⟨k2.filter _, List.pairwise_reverse.2 ((k2.filter _).imp (fun h => Ne.symm h)), k2.filter _, fun m hm => k3 m (List.mem_filter.1 hm).1, fun m hm => k3 m (List.mem_filter.1 (List.mem_reverse.1 hm)).1, fun m hm => k3 m (List.mem_filter.1 hm).1, ?_, ?_, ?_⟩
    · exact Nat.le_trans (List.length_filter_le _ _) k1
    · rw [List.length_reverse]; exact Nat.le_trans (List.length_filter_le _ _) k1
    · exact Nat.le_trans (List.length_filter_le _ _) k1
end Go.Proofs.Ytmhhfljbocbolaa
