/- FnNotOf: the walk. -/
import Derived.Test.YtjebadadimejpaaT34
namespace Go.Proofs.Ytjebadadimejpaa
open Go.RowKit
set_option linter.unusedVariables false

theorem ISl.rowI {w : World} {a : Option Addr} {l : List Int} {n : Nat} {ns : List Nat} (h : ISl w w.heap.size a l) (ho : OrdP n l ns) : RSl w w.heap.size a (ivs (toI ns)) := by
  rw [← ho.toI]; exact h.row

theorem quiet_left {P : Program} {f : FuncId} {args : Array Value} {w : World} {n : Nat} {v : Value}
    (h : Calls P f args (w.drewN n) fun e w' => e = .returned v ∧ w.drewN n = w') : Calls P f args (w.drewN n) fun e w'' => e = .returned v ∧ ∃ m, w'' = w.drewN m :=
  h.mono fun _ _ ⟨he, hm⟩ => ⟨he, n, hm.symm⟩

end Go.Proofs.Ytjebadadimejpaa
