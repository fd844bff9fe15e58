/- FnAttrOr. -/
import Derived.Test.YtgilbckfkngaiaaT29
namespace Go.Proofs.Ytgilbckfkngaiaa
open Go.RowKit
set_option linter.unusedVariables false

theorem RightP.ats {t : List Nd} (h : RightP t) (i : Nat) (hi : i < t.length) : atsOf t[i] = t[i].attrs := by
  unfold atsOf
  split
  · rename_i hk
    have := (h.node i hi).tag (by omega)
    exact (List.eq_nil_of_length_eq_zero this.2).symm
  · rfl

theorem fits_ats {t : List Nd} (hf : fits1 t = true) (i : Nat) (hi : i < t.length) : t[i].attrs.length ≤ 2147483647 := by
  simp only [fits1, Bool.and_eq_true, List.all_eq_true] at hf
  have := hf.2 t[i] (List.getElem_mem hi)
  simp only [fits2, fits3, Bool.and_eq_true, decide_eq_true_eq] at this
  exact this.2.1
end Go.Proofs.Ytgilbckfkngaiaa
