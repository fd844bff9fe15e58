/- AttrOr of a selection. -/
import Derived.Test.YtgilbckfkngaiaaT28
namespace Go.Proofs.Ytgilbckfkngaiaa
open Go.RowKit
set_option linter.unusedVariables false

def orA (o : Option At2) (d : ByteArray) : ByteArray := match o with | some x => x.val | none => d

end Go.Proofs.Ytgilbckfkngaiaa
