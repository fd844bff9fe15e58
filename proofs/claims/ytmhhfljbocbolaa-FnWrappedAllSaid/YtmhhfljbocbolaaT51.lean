/- Children of a selection: the program's side. -/
import Derived.Test.YtmhhfljbocbolaaT50
import Derived.Test.YtmhhfljbocbolaaT43
namespace Go.Proofs.Ytmhhfljbocbolaa
open Go.RowKit
set_option linter.unusedVariables false

theorem kids_facts {t : List Nd} (hR : RightP t) (i : Nat) (hi : i < t.length) : (kidsL t i).length ≤ 200 ∧ (kidsL t i).Nodup ∧ ∀ m ∈ kidsL t i, m < t.length := by
  have hlam := hR.lam i (Nat.zero_le _) hi
  have h1 := kidsFrom_len t (i + sz t i) (sz t i) (i + 1)
  have hlt : ∀ m ∈ kidsL t i, m < t.length := by
    intro m hm
    have := kidsFrom_lt t (i + sz t i) (sz t i) (i + 1) m hm
    omega
  have hnd : (kidsL t i).Nodup := by
    have hL : Lam t (i + 1) (i + sz t i) := by
      intro j q1 q2
      have q3 := hR.lam j (Nat.zero_le _) (by omega)
      exact ⟨q3.1, q3.2.1, hlam.2.2.2 j (by omega) q2, q3.2.2.2⟩
    obtain ⟨s1, s2, s3⟩ := kidsFrom_spec t i (sz t i) (i + 1) (by omega) (by have := hlam.2.1; omega) (by have := hlam.2.1; omega) (fun m q1 q2 => by omega) hL
    have e : kidsL t i = kidsFrom t (sz t i) (i + 1) (i + sz t i) := rfl
    rw [← e] at s1 s2 s3
    have hasc : ∀ d k (h : k + d + 1 < (kidsL t i).length), (kidsL t i)[k]'(by omega) < (kidsL t i)[k + d + 1] := by
      intro d
      induction d with
      | zero =>
        intro k h
        have h2 := (s3 k (by omega)).2.2 (by omega)
        have h3 := (hR.lam _ (Nat.zero_le _) (hlt _ (List.getElem_mem (show k < (kidsL t i).length by omega)))).2.1
        show (kidsL t i)[k] < (kidsL t i)[k + 1]
        omega
      | succ d ih =>
        intro k h
        have a1 := ih k (by omega)
        have h2 := (s3 (k + d + 1) (by omega)).2.2 (by omega)
        have h3 := (hR.lam _ (Nat.zero_le _) (hlt _ (List.getElem_mem (show k + d + 1 < (kidsL t i).length by omega)))).2.1
        show (kidsL t i)[k] < (kidsL t i)[k + d + 1 + 1]
        omega
    unfold List.Nodup
    rw [List.pairwise_iff_getElem]
    intro a b ha hb hab e2
    have := hasc (b - a - 1) a (by omega)
    have e3 : a + (b - a - 1) + 1 = b := by omega
    simp only [e3] at this
    omega
  have hle := hR.le
  exact ⟨Nat.le_trans (nodup_len hnd hlt) hle, hnd, hlt⟩

theorem els_facts {t : List Nd} (hR : RightP t) (i : Nat) (hi : i < t.length) : (∀ m ∈ elsOf t (kidsL t i), m < t.length) ∧ (elsOf t (kidsL t i)).Nodup ∧ (elsOf t (kidsL t i)).length ≤ 200 := by
  obtain ⟨h1, h2, h3⟩ := kids_facts hR i hi
  exact ⟨fun m hm => h3 m (List.mem_filter.1 hm).1, h2.filter _, Nat.le_trans (List.length_filter_le _ _) h1⟩

theorem mapN_all {t : List Nd} (hR : RightP t) {ns : List Nat} (hns : ∀ k ∈ ns, k < t.length) : (mapN ns fun i => elsOf t (kidsL t i)).length ≤ t.length ∧ ∀ m ∈ mapN ns fun i => elsOf t (kidsL t i), m < t.length :=
  mapN_facts hR.le (fun i hi => els_facts hR i hi) ns hns

end Go.Proofs.Ytmhhfljbocbolaa
