/- FnChildrenOf: the walk. -/
import Derived.Test.YtgilbckfkngaiaaGreatT51
import Derived.Test.YtgilbckfkngaiaaGreatT52
import Derived.Test.YtgilbckfkngaiaaGreatT44
namespace Go.Proofs.YtgilbckfkngaiaaGreat
open Go.RowKit
set_option linter.unusedVariables false

theorem mapN_toI (ns : List Nat) (fs : Nat → List Nat) (h : ∀ i ∈ ns, (fs i).Nodup) : (toI (mapN ns fs)).Nodup ∧ (toI (mapN ns fs)).length = (onceL (flatI fs ns)).length ∧ ∀ x ∈ toI (mapN ns fs), x ∈ onceL (flatI fs ns) := by
  have hm : ∀ x, x ∈ toI (mapN ns fs) ↔ x ∈ onceL (flatI fs ns) := by
    intro x
    rw [onceL_mem]
    unfold flatI toI
    simp only [List.mem_map, mapN_mem, List.mem_flatMap]
  have hn : (toI (mapN ns fs)).Nodup := by
    unfold toI List.Nodup
    rw [List.pairwise_map]
    exact (mapN_nodup ns fs h).imp (fun h e => h (by omega))
  exact ⟨hn, once_len hn (onceL_nodup _) hm, fun x hx => (hm x).1 hx⟩

end Go.Proofs.YtgilbckfkngaiaaGreat
