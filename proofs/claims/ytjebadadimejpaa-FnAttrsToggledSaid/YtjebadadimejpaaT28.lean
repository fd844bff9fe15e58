/- A selection's attribute: Attr, AttrOr. -/
import Derived.Test.YtjebadadimejpaaT27
namespace Go.Proofs.Ytjebadadimejpaa
open Go.RowKit
set_option linter.unusedVariables false

/-- The attribute of a selection's first node. -/
def headA (t : List Nd) (ns : List Nat) (k : ByteArray) : Option At2 := match ns with | [] => none | i :: _ => findA (atsOf (t.getD i default)) k
def valA (o : Option At2) : ByteArray := match o with | some x => x.val | none => ⟨#[]⟩

end Go.Proofs.Ytjebadadimejpaa
