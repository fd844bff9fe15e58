/- FnChildrenOf: the walk. -/
import Derived.Test.YtgilbckfkngaiaaT51
import Derived.Test.YtgilbckfkngaiaaT52
import Derived.Test.YtgilbckfkngaiaaT44
namespace Go.Proofs.Ytgilbckfkngaiaa
open Go.RowKit
set_option linter.unusedVariables false

theorem mapN_toI (ns : List Nat) (fs : Nat → List Nat) (h : ∀ i ∈ ns, (fs i).Nodup) : (toI (mapN ns fs)).Nodup ∧ (toI (mapN ns fs)).length = (onceL (flatI fs ns)).length ∧ ∀ x ∈ toI (mapN ns fs), x ∈ onceL (flatI fs ns) := by
  have hm : ∀ x, x ∈ toI (mapN ns fs) ↔ x ∈ onceL (flatI fs ns) := by
    intro x
    rw [onceL_mem]
    unfold flatI toI
    simp only [List.mem_map, mapN_mem, List.mem_flatMap]
  have hn : (toI (mapN ns fs)).Nodup := by
    unfold toI List.Nodup
    rw [List.pairwise_map]
    exact (mapN_nodup ns fs h).imp (fun h e => h (by omega))
  exact ⟨hn, once_len hn (onceL_nodup _) hm, fun x hx => (hm x).1 hx⟩

set_option maxRecDepth 100000 in
theorem by7_any (op : Int) (w : World) : Calls Try.prog 48 #[.int .i64 op] w fun e w' => e = .returned (.agg #[.int .i64 op, .string ⟨#[]⟩, .slice none 0 0, .int .i64 0, .int .i64 0]) ∧ Below w.heap.size w w' := by
  go_enter Try.func48, Try.ntmps48
  go_wp2_with fail
  refine bodyPost_ret (v := .agg #[.int .i64 op, .string ⟨#[]⟩, .slice none 0 0, .int .i64 0, .int .i64 0]) (by simp [results, Try.results48, go_sem]) rfl ⟨rfl, ?_⟩
  exact (Below.refl _ _).alloc (Nat.le_refl _) _

end Go.Proofs.Ytgilbckfkngaiaa
