/- FnAddOf: the door, and the walk. -/

import Derived.Test.YtmhhfljbocbolaaT42
namespace Go.Proofs.Ytmhhfljbocbolaa
open Go.RowKit
set_option linter.unusedVariables false

/-- A selection of a tree's nodes, whose own row lies behind the tree. -/
def Chosen2Post (t : List Nd) (ns : List Nat) (w : World) (e : Ending) (w' : World) : Prop :=
  ∃ L bl st g doc Bs, e = .returned (.tuple #[.pointer (some ⟨g, 0, none⟩), .slice (some ⟨L, 0, none⟩) t.length t.length, .bool true]) ∧ L < Bs ∧ w.heap.size ≤ Bs ∧ Bs ≤ w'.heap.size ∧ Tree t w' w.heap.size L bl st ∧ SelOf bl ns Bs g doc w' ∧ Below w.heap.size w w'

end Go.Proofs.Ytmhhfljbocbolaa
