/- The texts of a node and of all beneath it. (No program in sight.) -/
import Derived.Test.YtmhhfljbocbolaaT50
namespace Go.Proofs.Ytmhhfljbocbolaa
open Go.RowKit
set_option linter.unusedVariables false

/-- The bytes of a text node; of any other one none. -/
def ownT (t : List Nd) (i : Nat) : List UInt8 := if (t.getD i default).kind = 4 then (t.getD i default).text.data.toList else []
/-- The texts of the nodes from a place on. -/
def txtR (t : List Nd) (k n : Nat) : List UInt8 := (List.range' k n).flatMap (ownT t)
/-- The texts of a node and of all beneath it. -/
def txt (t : List Nd) (i : Nat) : List UInt8 := txtR t i (sz t i)

theorem txtR_zero (t : List Nd) (k : Nat) : txtR t k 0 = [] := rfl
theorem txtR_add (t : List Nd) (k m n : Nat) : txtR t k (m + n) = txtR t k m ++ txtR t (k + m) n := by
  unfold txtR
  rw [← List.range'_append_1, List.flatMap_append]
theorem txtR_succ (t : List Nd) (k n : Nat) : txtR t k (n + 1) = txtR t k n ++ ownT t (k + n) := by
  rw [txtR_add]; simp [txtR]
theorem txtR_cons (t : List Nd) (k n : Nat) : txtR t k (n + 1) = ownT t k ++ txtR t (k + 1) n := by
  rw [Nat.add_comm, txtR_add]; simp [txtR]

theorem txt_kidsFrom (t : List Nd) (e : Nat) : ∀ (f k : Nat), e ≤ k + f → k ≤ e → Lam t k e → (kidsFrom t f k e).flatMap (txt t) = txtR t k (e - k) := by
  intro f
  induction f with
  | zero =>
    intro k h1 h2 _
    rw [show e - k = 0 by omega]; rfl
  | succ f ih =>
    intro k h1 h2 hl
    simp only [kidsFrom]
    by_cases hk : k < e
    · have l := hl k (Nat.le_refl _) hk
      rw [if_pos hk, List.flatMap_cons, ih (k + sz t k) (by omega) l.2.2.1 (hl.from_ (by omega))]
      have : e - k = sz t k + (e - (k + sz t k)) := by omega
      rw [this, txtR_add]; rfl
    · rw [if_neg hk, show e - k = 0 by omega]; rfl

theorem RightP.lamK {t : List Nd} (hR : RightP t) {p : Nat} (hp : p < t.length) : Lam t (p + 1) (p + sz t p) ∧ 1 ≤ sz t p ∧ p + sz t p ≤ t.length := by
  have hlam := hR.lam p (Nat.zero_le _) hp
  refine ⟨fun i q1 q2 => ?_, hlam.2.1, hlam.2.2.1⟩
  have q3 := hR.lam i (Nat.zero_le _) (by have := hlam.2.2.1; omega)
  exact ⟨q3.1, q3.2.1, hlam.2.2.2 i (by omega) q2, q3.2.2.2⟩

/-- A node's texts are its own one, and those of its kids. -/
theorem txt_kids {t : List Nd} (hR : RightP t) {p : Nat} (hp : p < t.length) : txt t p = ownT t p ++ (kidsL t p).flatMap (txt t) := by
  obtain ⟨hl, h1, h2⟩ := hR.lamK hp
  have e : kidsL t p = kidsFrom t (sz t p) (p + 1) (p + sz t p) := rfl
  rw [e, txt_kidsFrom t (p + sz t p) (sz t p) (p + 1) (by omega) (by omega) hl]
  unfold txt
  obtain ⟨n, hn⟩ : ∃ n, sz t p = n + 1 := ⟨sz t p - 1, by omega⟩
  rw [hn, txtR_cons, show p + (n + 1) - (p + 1) = n by omega]

theorem kidsFrom_asc (t : List Nd) (e : Nat) : ∀ (f k : Nat), Lam t k e → (kidsFrom t f k e).Pairwise (· < ·) := by
  intro f
  induction f with
  | zero => intro k _; exact List.Pairwise.nil
  | succ f ih =>
    intro k hl
    simp only [kidsFrom]
    by_cases hk : k < e
    · have l := hl k (Nat.le_refl _) hk
      rw [if_pos hk]
      refine List.Pairwise.cons (fun x hx => ?_) (ih _ (hl.from_ (by omega)))
      have := (kidsFrom_lt t e f _ x hx).1
      omega
    · rw [if_neg hk]; exact List.Pairwise.nil
theorem kidsL_asc {t : List Nd} (hR : RightP t) {p : Nat} (hp : p < t.length) : (kidsL t p).Pairwise (· < ·) := kidsFrom_asc t _ _ _ (hR.lamK hp).1

theorem ownT_len {t : List Nd} (hR : RightP t) (i : Nat) : (ownT t i).length ≤ 4000 := by
  unfold ownT
  split
  · by_cases hi : i < t.length
    · rw [getD_at hi]
      exact hR.text i hi
    · have : t.getD i default = default := by rw [List.getD_eq_getElem?_getD, List.getElem?_eq_none (by omega)]; rfl
      rw [this]; exact Nat.zero_le _
  · exact Nat.zero_le _
theorem txtR_len {t : List Nd} (hR : RightP t) (k : Nat) : ∀ n, (txtR t k n).length ≤ 4000 * n := by
  intro n
  induction n with
  | zero => exact Nat.zero_le _
  | succ n ih =>
    rw [txtR_succ, List.length_append]
    have := ownT_len hR (k + n)
    omega
theorem txt_len {t : List Nd} (hR : RightP t) {i : Nat} (hi : i < t.length) : (txt t i).length ≤ 800000 := by
  have h1 := txtR_len hR i (sz t i)
  have h2 := (hR.lamK hi).2.2
  have h3 := hR.le
  unfold txt
  omega
theorem flat_txt_len {t : List Nd} (hR : RightP t) : ∀ (ns : List Nat), (∀ i ∈ ns, i < t.length) → (ns.flatMap (txt t)).length ≤ 800000 * ns.length := by
  intro ns
  induction ns with
  | nil => intro _; exact Nat.zero_le _
  | cons i ns ih =>
    intro h
    rw [List.flatMap_cons, List.length_append, List.length_cons]
    have h1 := txt_len hR (h i (by simp))
    have h2 := ih (fun k hk => h k (by simp [hk]))
    omega
/-- An element has no text of its own. -/
theorem txt_elem {t : List Nd} (hR : RightP t) {p : Nat} (hp : p < t.length) (hk : t[p].kind = 3) : txt t p = (kidsL t p).flatMap (txt t) := by
  rw [txt_kids hR hp]
  have : ownT t p = [] := by unfold ownT; rw [getD_at hp, if_neg (by omega)]
  rw [this, List.nil_append]
end Go.Proofs.Ytmhhfljbocbolaa
