/-
  No cell of these rows narrows 'for every input' (looked for: loops, veiled, ifaces, maps, wideKeys, modest, calm, conditions, laid).
  DERIVED. THE GIVEN ROWS OF THIS SEAT. 18 by the template 'for every input the law returns true; each argument reads behind the call as it read before'; 0 by the template 'total and deterministic' (their statements: YtfebdbfkpmjpeaaTotals.lean).
  GIVEN WITH THE SEED: the statements are not yours to turn. If you find one false, say at which input.
  Laid BY PROGRAM, IN A SANDBOX (cutbox-rows.mjs): the forced cells as the released guide's own fill.sh prints them over the translation 7315070e5a13a416… (all of the seat's roots in one cut). By AI agents, Wed Nov 11 2026. No macro, syntax, notation, axiom, sorry.
-/
import Derived.Test.YtfebdbfkpmjpeaaChecked
import GoSem.Claim
import GoSem.ClaimJoined
import GoSem.ClaimMapViews
import Derived.JoinedTies
import Derived.KernelRfl
namespace Go.Proofs.Ytfebdbfkpmjpeaa
/- THE CELL 'sum', in the pinned program and in every row, IS THE sha256 OF THE DUMP (.gsa) THAT YtfebdbfkpmjpeaaProg.lean LOADS. Nothing in Lean hashes anything: it is a label: what it is worth is what the hold of that sum in a sandbox is worth. -/
noncomputable def Try.pinned : Pinned := { name := "ytfebdbfkpmjpeaa", sum := "7315070e5a13a41614e2f6e51d18d9ff757bff37e06ac544c380f0dbbbbbb890", checked := Try.checked }
namespace Rows
def none {H : Type} : Left H := { results := [], args := [] }

/-- 'laws.FnIsInput': WHATEVER THE INPUT: true; the input reads as it did. -/
def fnIsInputSpec : ChangeSpec := { name := "fnIsInput", fn := fun _ => fun
  | [d1, d2] => { results := [.lit (.bool true)], args := [d1, d2] }
  | _ => none }
def fnIsInputRow : OpenClaim := { program := "ytfebdbfkpmjpeaa", sum := "7315070e5a13a41614e2f6e51d18d9ff757bff37e06ac544c380f0dbbbbbb890", func := "given.example/pub-bosquet/laws.FnIsInput", spec := "fnIsInput", recurses := true, apart := false }
def FnIsInputSaid : Prop := fnIsInputRow.holds Try.pinned (OpenSpec.ofChange fnIsInputSpec)

/-- ITS FALSE NEIGHBOUR: 'it returns false'. Refute it at one input. -/
def fnIsInputWrong : ChangeSpec := { name := "fnIsInput", fn := fun _ => fun
  | [d1, d2] => { results := [.lit (.bool false)], args := [d1, d2] }
  | _ => none }
def FnIsInputWrongFalsely : Prop := fnIsInputRow.holds Try.pinned (OpenSpec.ofChange fnIsInputWrong)

/-- 'laws.FnIsTag': WHATEVER THE INPUT: true; the input reads as it did. -/
def fnIsTagSpec : ChangeSpec := { name := "fnIsTag", fn := fun _ => fun
  | [d1, d2, d3] => { results := [.lit (.bool true)], args := [d1, d2, d3] }
  | _ => none }
def fnIsTagRow : OpenClaim := { program := "ytfebdbfkpmjpeaa", sum := "7315070e5a13a41614e2f6e51d18d9ff757bff37e06ac544c380f0dbbbbbb890", func := "given.example/pub-bosquet/laws.FnIsTag", spec := "fnIsTag", recurses := true, apart := false }
def FnIsTagSaid : Prop := fnIsTagRow.holds Try.pinned (OpenSpec.ofChange fnIsTagSpec)

/-- ITS FALSE NEIGHBOUR: 'it returns false'. Refute it at one input. -/
def fnIsTagWrong : ChangeSpec := { name := "fnIsTag", fn := fun _ => fun
  | [d1, d2, d3] => { results := [.lit (.bool false)], args := [d1, d2, d3] }
  | _ => none }
def FnIsTagWrongFalsely : Prop := fnIsTagRow.holds Try.pinned (OpenSpec.ofChange fnIsTagWrong)

/-- 'laws.FnAttrsRemoved': WHATEVER THE INPUT: true; the input reads as it did. -/
def fnAttrsRemovedSpec : ChangeSpec := { name := "fnAttrsRemoved", fn := fun _ => fun
  | [d1, d2, d3] => { results := [.lit (.bool true)], args := [d1, d2, d3] }
  | _ => none }
def fnAttrsRemovedRow : OpenClaim := { program := "ytfebdbfkpmjpeaa", sum := "7315070e5a13a41614e2f6e51d18d9ff757bff37e06ac544c380f0dbbbbbb890", func := "given.example/pub-bosquet/laws.FnAttrsRemoved", spec := "fnAttrsRemoved", apart := false }
def FnAttrsRemovedSaid : Prop := fnAttrsRemovedRow.holds Try.pinned (OpenSpec.ofChange fnAttrsRemovedSpec)

/-- ITS FALSE NEIGHBOUR: 'it returns false'. Refute it at one input. -/
def fnAttrsRemovedWrong : ChangeSpec := { name := "fnAttrsRemoved", fn := fun _ => fun
  | [d1, d2, d3] => { results := [.lit (.bool false)], args := [d1, d2, d3] }
  | _ => none }
def FnAttrsRemovedWrongFalsely : Prop := fnAttrsRemovedRow.holds Try.pinned (OpenSpec.ofChange fnAttrsRemovedWrong)

/-- 'laws.FnIsEmpty': WHATEVER THE INPUT: true; the input reads as it did. -/
def fnIsEmptySpec : ChangeSpec := { name := "fnIsEmpty", fn := fun _ => fun
  | [d1, d2] => { results := [.lit (.bool true)], args := [d1, d2] }
  | _ => none }
def fnIsEmptyRow : OpenClaim := { program := "ytfebdbfkpmjpeaa", sum := "7315070e5a13a41614e2f6e51d18d9ff757bff37e06ac544c380f0dbbbbbb890", func := "given.example/pub-bosquet/laws.FnIsEmpty", spec := "fnIsEmpty", recurses := true, apart := false }
def FnIsEmptySaid : Prop := fnIsEmptyRow.holds Try.pinned (OpenSpec.ofChange fnIsEmptySpec)

/-- ITS FALSE NEIGHBOUR: 'it returns false'. Refute it at one input. -/
def fnIsEmptyWrong : ChangeSpec := { name := "fnIsEmpty", fn := fun _ => fun
  | [d1, d2] => { results := [.lit (.bool false)], args := [d1, d2] }
  | _ => none }
def FnIsEmptyWrongFalsely : Prop := fnIsEmptyRow.holds Try.pinned (OpenSpec.ofChange fnIsEmptyWrong)

/-- 'laws.FnCountedEnds': WHATEVER THE INPUT: true; the input reads as it did. -/
def fnCountedEndsSpec : ChangeSpec := { name := "fnCountedEnds", fn := fun _ => fun
  | [d1, d2, d3, d4, d5] => { results := [.lit (.bool true)], args := [d1, d2, d3, d4, d5] }
  | _ => none }
def fnCountedEndsRow : OpenClaim := { program := "ytfebdbfkpmjpeaa", sum := "7315070e5a13a41614e2f6e51d18d9ff757bff37e06ac544c380f0dbbbbbb890", func := "given.example/pub-bosquet/laws.FnCountedEnds", spec := "fnCountedEnds", apart := false }
def FnCountedEndsSaid : Prop := fnCountedEndsRow.holds Try.pinned (OpenSpec.ofChange fnCountedEndsSpec)

/-- ITS FALSE NEIGHBOUR: 'it returns false'. Refute it at one input. -/
def fnCountedEndsWrong : ChangeSpec := { name := "fnCountedEnds", fn := fun _ => fun
  | [d1, d2, d3, d4, d5] => { results := [.lit (.bool false)], args := [d1, d2, d3, d4, d5] }
  | _ => none }
def FnCountedEndsWrongFalsely : Prop := fnCountedEndsRow.holds Try.pinned (OpenSpec.ofChange fnCountedEndsWrong)

/-- 'laws.FnSize': WHATEVER THE INPUT: true; the input reads as it did. -/
def fnSizeSpec : ChangeSpec := { name := "fnSize", fn := fun _ => fun
  | [d1, d2] => { results := [.lit (.bool true)], args := [d1, d2] }
  | _ => none }
def fnSizeRow : OpenClaim := { program := "ytfebdbfkpmjpeaa", sum := "7315070e5a13a41614e2f6e51d18d9ff757bff37e06ac544c380f0dbbbbbb890", func := "given.example/pub-bosquet/laws.FnSize", spec := "fnSize", recurses := true, apart := false }
def FnSizeSaid : Prop := fnSizeRow.holds Try.pinned (OpenSpec.ofChange fnSizeSpec)

/-- ITS FALSE NEIGHBOUR: 'it returns false'. Refute it at one input. -/
def fnSizeWrong : ChangeSpec := { name := "fnSize", fn := fun _ => fun
  | [d1, d2] => { results := [.lit (.bool false)], args := [d1, d2] }
  | _ => none }
def FnSizeWrongFalsely : Prop := fnSizeRow.holds Try.pinned (OpenSpec.ofChange fnSizeWrong)

/-- 'laws.FnAddOf': WHATEVER THE INPUT: true; the input reads as it did. -/
def fnAddOfSpec : ChangeSpec := { name := "fnAddOf", fn := fun _ => fun
  | [d1, d2, d3] => { results := [.lit (.bool true)], args := [d1, d2, d3] }
  | _ => none }
def fnAddOfRow : OpenClaim := { program := "ytfebdbfkpmjpeaa", sum := "7315070e5a13a41614e2f6e51d18d9ff757bff37e06ac544c380f0dbbbbbb890", func := "given.example/pub-bosquet/laws.FnAddOf", spec := "fnAddOf", recurses := true, apart := false }
def FnAddOfSaid : Prop := fnAddOfRow.holds Try.pinned (OpenSpec.ofChange fnAddOfSpec)

/-- ITS FALSE NEIGHBOUR: 'it returns false'. Refute it at one input. -/
def fnAddOfWrong : ChangeSpec := { name := "fnAddOf", fn := fun _ => fun
  | [d1, d2, d3] => { results := [.lit (.bool false)], args := [d1, d2, d3] }
  | _ => none }
def FnAddOfWrongFalsely : Prop := fnAddOfRow.holds Try.pinned (OpenSpec.ofChange fnAddOfWrong)

/-- 'laws.FnAttrOr': WHATEVER THE INPUT: true; the input reads as it did. -/
def fnAttrOrSpec : ChangeSpec := { name := "fnAttrOr", fn := fun _ => fun
  | [d1, d2, d3, d4] => { results := [.lit (.bool true)], args := [d1, d2, d3, d4] }
  | _ => none }
def fnAttrOrRow : OpenClaim := { program := "ytfebdbfkpmjpeaa", sum := "7315070e5a13a41614e2f6e51d18d9ff757bff37e06ac544c380f0dbbbbbb890", func := "given.example/pub-bosquet/laws.FnAttrOr", spec := "fnAttrOr", recurses := true, apart := false }
def FnAttrOrSaid : Prop := fnAttrOrRow.holds Try.pinned (OpenSpec.ofChange fnAttrOrSpec)

/-- ITS FALSE NEIGHBOUR: 'it returns false'. Refute it at one input. -/
def fnAttrOrWrong : ChangeSpec := { name := "fnAttrOr", fn := fun _ => fun
  | [d1, d2, d3, d4] => { results := [.lit (.bool false)], args := [d1, d2, d3, d4] }
  | _ => none }
def FnAttrOrWrongFalsely : Prop := fnAttrOrRow.holds Try.pinned (OpenSpec.ofChange fnAttrOrWrong)

/-- 'laws.FnTextParts': WHATEVER THE INPUT: true; the input reads as it did. -/
def fnTextPartsSpec : ChangeSpec := { name := "fnTextParts", fn := fun _ => fun
  | [d1, d2] => { results := [.lit (.bool true)], args := [d1, d2] }
  | _ => none }
def fnTextPartsRow : OpenClaim := { program := "ytfebdbfkpmjpeaa", sum := "7315070e5a13a41614e2f6e51d18d9ff757bff37e06ac544c380f0dbbbbbb890", func := "given.example/pub-bosquet/laws.FnTextParts", spec := "fnTextParts", inPlace := ["internal/abi.NoEscape"], recurses := true, apart := false }
def FnTextPartsSaid : Prop := fnTextPartsRow.holds Try.pinned (OpenSpec.ofChange fnTextPartsSpec)

/-- ITS FALSE NEIGHBOUR: 'it returns false'. Refute it at one input. -/
def fnTextPartsWrong : ChangeSpec := { name := "fnTextParts", fn := fun _ => fun
  | [d1, d2] => { results := [.lit (.bool false)], args := [d1, d2] }
  | _ => none }
def FnTextPartsWrongFalsely : Prop := fnTextPartsRow.holds Try.pinned (OpenSpec.ofChange fnTextPartsWrong)

/-- 'laws.FnNotOf': WHATEVER THE INPUT: true; the input reads as it did. -/
def fnNotOfSpec : ChangeSpec := { name := "fnNotOf", fn := fun _ => fun
  | [d1, d2, d3] => { results := [.lit (.bool true)], args := [d1, d2, d3] }
  | _ => none }
def fnNotOfRow : OpenClaim := { program := "ytfebdbfkpmjpeaa", sum := "7315070e5a13a41614e2f6e51d18d9ff757bff37e06ac544c380f0dbbbbbb890", func := "given.example/pub-bosquet/laws.FnNotOf", spec := "fnNotOf", recurses := true, apart := false }
def FnNotOfSaid : Prop := fnNotOfRow.holds Try.pinned (OpenSpec.ofChange fnNotOfSpec)

/-- ITS FALSE NEIGHBOUR: 'it returns false'. Refute it at one input. -/
def fnNotOfWrong : ChangeSpec := { name := "fnNotOf", fn := fun _ => fun
  | [d1, d2, d3] => { results := [.lit (.bool false)], args := [d1, d2, d3] }
  | _ => none }
def FnNotOfWrongFalsely : Prop := fnNotOfRow.holds Try.pinned (OpenSpec.ofChange fnNotOfWrong)

/-- 'laws.FnTextIn': WHATEVER THE INPUT: true; the input reads as it did. -/
def fnTextInSpec : ChangeSpec := { name := "fnTextIn", fn := fun _ => fun
  | [d1, d2] => { results := [.lit (.bool true)], args := [d1, d2] }
  | _ => none }
def fnTextInRow : OpenClaim := { program := "ytfebdbfkpmjpeaa", sum := "7315070e5a13a41614e2f6e51d18d9ff757bff37e06ac544c380f0dbbbbbb890", func := "given.example/pub-bosquet/laws.FnTextIn", spec := "fnTextIn", inPlace := ["internal/abi.NoEscape"], recurses := true, apart := false }
def FnTextInSaid : Prop := fnTextInRow.holds Try.pinned (OpenSpec.ofChange fnTextInSpec)

/-- ITS FALSE NEIGHBOUR: 'it returns false'. Refute it at one input. -/
def fnTextInWrong : ChangeSpec := { name := "fnTextIn", fn := fun _ => fun
  | [d1, d2] => { results := [.lit (.bool false)], args := [d1, d2] }
  | _ => none }
def FnTextInWrongFalsely : Prop := fnTextInRow.holds Try.pinned (OpenSpec.ofChange fnTextInWrong)

/-- 'laws.FnNotByOthers': WHATEVER THE INPUT: true; the input reads as it did. -/
def fnNotByOthersSpec : ChangeSpec := { name := "fnNotByOthers", fn := fun _ => fun
  | [d1, d2, d3] => { results := [.lit (.bool true)], args := [d1, d2, d3] }
  | _ => none }
def fnNotByOthersRow : OpenClaim := { program := "ytfebdbfkpmjpeaa", sum := "7315070e5a13a41614e2f6e51d18d9ff757bff37e06ac544c380f0dbbbbbb890", func := "given.example/pub-bosquet/laws.FnNotByOthers", spec := "fnNotByOthers", unfollowed := true, recurses := true, apart := false }
def FnNotByOthersSaid : Prop := fnNotByOthersRow.holds Try.pinned (OpenSpec.ofChange fnNotByOthersSpec)

/-- ITS FALSE NEIGHBOUR: 'it returns false'. Refute it at one input. -/
def fnNotByOthersWrong : ChangeSpec := { name := "fnNotByOthers", fn := fun _ => fun
  | [d1, d2, d3] => { results := [.lit (.bool false)], args := [d1, d2, d3] }
  | _ => none }
def FnNotByOthersWrongFalsely : Prop := fnNotByOthersRow.holds Try.pinned (OpenSpec.ofChange fnNotByOthersWrong)

/-- 'laws.FnHasClass': WHATEVER THE INPUT: true; the input reads as it did. -/
def fnHasClassSpec : ChangeSpec := { name := "fnHasClass", fn := fun _ => fun
  | [d1, d2, d3, d4] => { results := [.lit (.bool true)], args := [d1, d2, d3, d4] }
  | _ => none }
def fnHasClassRow : OpenClaim := { program := "ytfebdbfkpmjpeaa", sum := "7315070e5a13a41614e2f6e51d18d9ff757bff37e06ac544c380f0dbbbbbb890", func := "given.example/pub-bosquet/laws.FnHasClass", spec := "fnHasClass", recurses := true, apart := false }
def FnHasClassSaid : Prop := fnHasClassRow.holds Try.pinned (OpenSpec.ofChange fnHasClassSpec)

/-- ITS FALSE NEIGHBOUR: 'it returns false'. Refute it at one input. -/
def fnHasClassWrong : ChangeSpec := { name := "fnHasClass", fn := fun _ => fun
  | [d1, d2, d3, d4] => { results := [.lit (.bool false)], args := [d1, d2, d3, d4] }
  | _ => none }
def FnHasClassWrongFalsely : Prop := fnHasClassRow.holds Try.pinned (OpenSpec.ofChange fnHasClassWrong)

/-- 'laws.FnIsAttr': WHATEVER THE INPUT: true; the input reads as it did. -/
def fnIsAttrSpec : ChangeSpec := { name := "fnIsAttr", fn := fun _ => fun
  | [d1, d2, d3, d4, d5, d6] => { results := [.lit (.bool true)], args := [d1, d2, d3, d4, d5, d6] }
  | _ => none }
def fnIsAttrRow : OpenClaim := { program := "ytfebdbfkpmjpeaa", sum := "7315070e5a13a41614e2f6e51d18d9ff757bff37e06ac544c380f0dbbbbbb890", func := "given.example/pub-bosquet/laws.FnIsAttr", spec := "fnIsAttr", unfollowed := true, recurses := true, apart := false }
def FnIsAttrSaid : Prop := fnIsAttrRow.holds Try.pinned (OpenSpec.ofChange fnIsAttrSpec)

/-- ITS FALSE NEIGHBOUR: 'it returns false'. Refute it at one input. -/
def fnIsAttrWrong : ChangeSpec := { name := "fnIsAttr", fn := fun _ => fun
  | [d1, d2, d3, d4, d5, d6] => { results := [.lit (.bool false)], args := [d1, d2, d3, d4, d5, d6] }
  | _ => none }
def FnIsAttrWrongFalsely : Prop := fnIsAttrRow.holds Try.pinned (OpenSpec.ofChange fnIsAttrWrong)

/-- 'laws.FnHasRoads': WHATEVER THE INPUT: true; the input reads as it did. -/
def fnHasRoadsSpec : ChangeSpec := { name := "fnHasRoads", fn := fun _ => fun
  | [d1, d2, d3] => { results := [.lit (.bool true)], args := [d1, d2, d3] }
  | _ => none }
def fnHasRoadsRow : OpenClaim := { program := "ytfebdbfkpmjpeaa", sum := "7315070e5a13a41614e2f6e51d18d9ff757bff37e06ac544c380f0dbbbbbb890", func := "given.example/pub-bosquet/laws.FnHasRoads", spec := "fnHasRoads", unfollowed := true, recurses := true, apart := false }
def FnHasRoadsSaid : Prop := fnHasRoadsRow.holds Try.pinned (OpenSpec.ofChange fnHasRoadsSpec)

/-- ITS FALSE NEIGHBOUR: 'it returns false'. Refute it at one input. -/
def fnHasRoadsWrong : ChangeSpec := { name := "fnHasRoads", fn := fun _ => fun
  | [d1, d2, d3] => { results := [.lit (.bool false)], args := [d1, d2, d3] }
  | _ => none }
def FnHasRoadsWrongFalsely : Prop := fnHasRoadsRow.holds Try.pinned (OpenSpec.ofChange fnHasRoadsWrong)

/-- 'laws.FnEach': WHATEVER THE INPUT: true; the input reads as it did. -/
def fnEachSpec : ChangeSpec := { name := "fnEach", fn := fun _ => fun
  | [d1, d2, d3] => { results := [.lit (.bool true)], args := [d1, d2, d3] }
  | _ => none }
def fnEachRow : OpenClaim := { program := "ytfebdbfkpmjpeaa", sum := "7315070e5a13a41614e2f6e51d18d9ff757bff37e06ac544c380f0dbbbbbb890", func := "given.example/pub-bosquet/laws.FnEach", spec := "fnEach", unfollowed := true, recurses := true, apart := false }
def FnEachSaid : Prop := fnEachRow.holds Try.pinned (OpenSpec.ofChange fnEachSpec)

/-- ITS FALSE NEIGHBOUR: 'it returns false'. Refute it at one input. -/
def fnEachWrong : ChangeSpec := { name := "fnEach", fn := fun _ => fun
  | [d1, d2, d3] => { results := [.lit (.bool false)], args := [d1, d2, d3] }
  | _ => none }
def FnEachWrongFalsely : Prop := fnEachRow.holds Try.pinned (OpenSpec.ofChange fnEachWrong)

/-- 'laws.FnAttrsToggled': WHATEVER THE INPUT: true; the input reads as it did. -/
def fnAttrsToggledSpec : ChangeSpec := { name := "fnAttrsToggled", fn := fun _ => fun
  | [d1, d2] => { results := [.lit (.bool true)], args := [d1, d2] }
  | _ => none }
def fnAttrsToggledRow : OpenClaim := { program := "ytfebdbfkpmjpeaa", sum := "7315070e5a13a41614e2f6e51d18d9ff757bff37e06ac544c380f0dbbbbbb890", func := "given.example/pub-bosquet/laws.FnAttrsToggled", spec := "fnAttrsToggled", inPlace := ["internal/abi.NoEscape", "internal/bytealg.MakeNoZero"], apart := false }
def FnAttrsToggledSaid : Prop := fnAttrsToggledRow.holds Try.pinned (OpenSpec.ofChange fnAttrsToggledSpec)

/-- ITS FALSE NEIGHBOUR: 'it returns false'. Refute it at one input. -/
def fnAttrsToggledWrong : ChangeSpec := { name := "fnAttrsToggled", fn := fun _ => fun
  | [d1, d2] => { results := [.lit (.bool false)], args := [d1, d2] }
  | _ => none }
def FnAttrsToggledWrongFalsely : Prop := fnAttrsToggledRow.holds Try.pinned (OpenSpec.ofChange fnAttrsToggledWrong)

/-- 'laws.FnChildrenOf': WHATEVER THE INPUT: true; the input reads as it did. -/
def fnChildrenOfSpec : ChangeSpec := { name := "fnChildrenOf", fn := fun _ => fun
  | [d1, d2] => { results := [.lit (.bool true)], args := [d1, d2] }
  | _ => none }
def fnChildrenOfRow : OpenClaim := { program := "ytfebdbfkpmjpeaa", sum := "7315070e5a13a41614e2f6e51d18d9ff757bff37e06ac544c380f0dbbbbbb890", func := "given.example/pub-bosquet/laws.FnChildrenOf", spec := "fnChildrenOf", unfollowed := true, recurses := true, apart := false }
def FnChildrenOfSaid : Prop := fnChildrenOfRow.holds Try.pinned (OpenSpec.ofChange fnChildrenOfSpec)

/-- ITS FALSE NEIGHBOUR: 'it returns false'. Refute it at one input. -/
def fnChildrenOfWrong : ChangeSpec := { name := "fnChildrenOf", fn := fun _ => fun
  | [d1, d2] => { results := [.lit (.bool false)], args := [d1, d2] }
  | _ => none }
def FnChildrenOfWrongFalsely : Prop := fnChildrenOfRow.holds Try.pinned (OpenSpec.ofChange fnChildrenOfWrong)

/- THE SECOND FORM. 'bulk': how many values and letters a reading holds, each counted each time it is reached (what is shared counts as often as it is met; a slice's spare places count too). A statement '..UptoSaid' is the law's where the arguments, and the package variables that the reading takes, are together of bulk at most 1048576: NARROWER than '..Said'. Prove '..Said' where nothing that the law and all that it calls make is longer than what came in: it says more and counts as full. Else prove '..UptoSaid'. A law counts once. -/
mutual
def uptoBulk {H : Type} : DataW H → Nat
  | .lit (.string bytes) => bytes.length + 1
  | .lit _ => 1
  | .nil => 1
  | .ptr d => uptoBulk d + 1
  | .slice elems spare => uptoBulkAll elems + uptoBulkAll spare + 1
  | .agg parts => uptoBulkAll parts + 1
  | .iface _ d => uptoBulk d + 1
  | .map entries => uptoBulkEntries entries + 1
  | .held _ => 1
def uptoBulkAll {H : Type} : List (DataW H) → Nat
  | [] => 0
  | d :: r => uptoBulk d + uptoBulkAll r
def uptoBulkEntries {H : Type} : List (Lit × DataW H) → Nat
  | [] => 0
  | x :: r => uptoBulkEntry x + uptoBulkEntries r
def uptoBulkEntry {H : Type} : Lit × DataW H → Nat
  | (.string bytes, d) => bytes.length + uptoBulk d + 1
  | (_, d) => uptoBulk d + 1
 end
def uptoSmall : (H : Type) → List (DataW H) → Bool := fun _ ds => decide (uptoBulkAll ds ≤ 1048576)
def OpenSpec.upto (s : _root_.Go.ChangeSpec) : _root_.Go.OpenSpec := { _root_.Go.OpenSpec.ofChange s with cond := some uptoSmall }

/-- 'laws.FnIsInput', WHERE WHAT IT READS IS OF BULK AT MOST 1048576: true; the input reads as it did. -/
def fnIsInputUptoRow : OpenClaim := { program := "ytfebdbfkpmjpeaa", sum := "7315070e5a13a41614e2f6e51d18d9ff757bff37e06ac544c380f0dbbbbbb890", func := "given.example/pub-bosquet/laws.FnIsInput", spec := "fnIsInput", recurses := true, apart := false, narrowed := true }
def FnIsInputUptoSaid : Prop := fnIsInputUptoRow.holds Try.pinned (OpenSpec.upto fnIsInputSpec)

/-- 'laws.FnIsTag', WHERE WHAT IT READS IS OF BULK AT MOST 1048576: true; the input reads as it did. -/
def fnIsTagUptoRow : OpenClaim := { program := "ytfebdbfkpmjpeaa", sum := "7315070e5a13a41614e2f6e51d18d9ff757bff37e06ac544c380f0dbbbbbb890", func := "given.example/pub-bosquet/laws.FnIsTag", spec := "fnIsTag", recurses := true, apart := false, narrowed := true }
def FnIsTagUptoSaid : Prop := fnIsTagUptoRow.holds Try.pinned (OpenSpec.upto fnIsTagSpec)

/-- 'laws.FnAttrsRemoved', WHERE WHAT IT READS IS OF BULK AT MOST 1048576: true; the input reads as it did. -/
def fnAttrsRemovedUptoRow : OpenClaim := { program := "ytfebdbfkpmjpeaa", sum := "7315070e5a13a41614e2f6e51d18d9ff757bff37e06ac544c380f0dbbbbbb890", func := "given.example/pub-bosquet/laws.FnAttrsRemoved", spec := "fnAttrsRemoved", apart := false, narrowed := true }
def FnAttrsRemovedUptoSaid : Prop := fnAttrsRemovedUptoRow.holds Try.pinned (OpenSpec.upto fnAttrsRemovedSpec)

/-- 'laws.FnIsEmpty', WHERE WHAT IT READS IS OF BULK AT MOST 1048576: true; the input reads as it did. -/
def fnIsEmptyUptoRow : OpenClaim := { program := "ytfebdbfkpmjpeaa", sum := "7315070e5a13a41614e2f6e51d18d9ff757bff37e06ac544c380f0dbbbbbb890", func := "given.example/pub-bosquet/laws.FnIsEmpty", spec := "fnIsEmpty", recurses := true, apart := false, narrowed := true }
def FnIsEmptyUptoSaid : Prop := fnIsEmptyUptoRow.holds Try.pinned (OpenSpec.upto fnIsEmptySpec)

/-- 'laws.FnCountedEnds', WHERE WHAT IT READS IS OF BULK AT MOST 1048576: true; the input reads as it did. -/
def fnCountedEndsUptoRow : OpenClaim := { program := "ytfebdbfkpmjpeaa", sum := "7315070e5a13a41614e2f6e51d18d9ff757bff37e06ac544c380f0dbbbbbb890", func := "given.example/pub-bosquet/laws.FnCountedEnds", spec := "fnCountedEnds", apart := false, narrowed := true }
def FnCountedEndsUptoSaid : Prop := fnCountedEndsUptoRow.holds Try.pinned (OpenSpec.upto fnCountedEndsSpec)

/-- 'laws.FnSize', WHERE WHAT IT READS IS OF BULK AT MOST 1048576: true; the input reads as it did. -/
def fnSizeUptoRow : OpenClaim := { program := "ytfebdbfkpmjpeaa", sum := "7315070e5a13a41614e2f6e51d18d9ff757bff37e06ac544c380f0dbbbbbb890", func := "given.example/pub-bosquet/laws.FnSize", spec := "fnSize", recurses := true, apart := false, narrowed := true }
def FnSizeUptoSaid : Prop := fnSizeUptoRow.holds Try.pinned (OpenSpec.upto fnSizeSpec)

/-- 'laws.FnAddOf', WHERE WHAT IT READS IS OF BULK AT MOST 1048576: true; the input reads as it did. -/
def fnAddOfUptoRow : OpenClaim := { program := "ytfebdbfkpmjpeaa", sum := "7315070e5a13a41614e2f6e51d18d9ff757bff37e06ac544c380f0dbbbbbb890", func := "given.example/pub-bosquet/laws.FnAddOf", spec := "fnAddOf", recurses := true, apart := false, narrowed := true }
def FnAddOfUptoSaid : Prop := fnAddOfUptoRow.holds Try.pinned (OpenSpec.upto fnAddOfSpec)

/-- 'laws.FnAttrOr', WHERE WHAT IT READS IS OF BULK AT MOST 1048576: true; the input reads as it did. -/
def fnAttrOrUptoRow : OpenClaim := { program := "ytfebdbfkpmjpeaa", sum := "7315070e5a13a41614e2f6e51d18d9ff757bff37e06ac544c380f0dbbbbbb890", func := "given.example/pub-bosquet/laws.FnAttrOr", spec := "fnAttrOr", recurses := true, apart := false, narrowed := true }
def FnAttrOrUptoSaid : Prop := fnAttrOrUptoRow.holds Try.pinned (OpenSpec.upto fnAttrOrSpec)

/-- 'laws.FnTextParts', WHERE WHAT IT READS IS OF BULK AT MOST 1048576: true; the input reads as it did. -/
def fnTextPartsUptoRow : OpenClaim := { program := "ytfebdbfkpmjpeaa", sum := "7315070e5a13a41614e2f6e51d18d9ff757bff37e06ac544c380f0dbbbbbb890", func := "given.example/pub-bosquet/laws.FnTextParts", spec := "fnTextParts", inPlace := ["internal/abi.NoEscape"], recurses := true, apart := false, narrowed := true }
def FnTextPartsUptoSaid : Prop := fnTextPartsUptoRow.holds Try.pinned (OpenSpec.upto fnTextPartsSpec)

/-- 'laws.FnNotOf', WHERE WHAT IT READS IS OF BULK AT MOST 1048576: true; the input reads as it did. -/
def fnNotOfUptoRow : OpenClaim := { program := "ytfebdbfkpmjpeaa", sum := "7315070e5a13a41614e2f6e51d18d9ff757bff37e06ac544c380f0dbbbbbb890", func := "given.example/pub-bosquet/laws.FnNotOf", spec := "fnNotOf", recurses := true, apart := false, narrowed := true }
def FnNotOfUptoSaid : Prop := fnNotOfUptoRow.holds Try.pinned (OpenSpec.upto fnNotOfSpec)

/-- 'laws.FnTextIn', WHERE WHAT IT READS IS OF BULK AT MOST 1048576: true; the input reads as it did. -/
def fnTextInUptoRow : OpenClaim := { program := "ytfebdbfkpmjpeaa", sum := "7315070e5a13a41614e2f6e51d18d9ff757bff37e06ac544c380f0dbbbbbb890", func := "given.example/pub-bosquet/laws.FnTextIn", spec := "fnTextIn", inPlace := ["internal/abi.NoEscape"], recurses := true, apart := false, narrowed := true }
def FnTextInUptoSaid : Prop := fnTextInUptoRow.holds Try.pinned (OpenSpec.upto fnTextInSpec)

/-- 'laws.FnNotByOthers', WHERE WHAT IT READS IS OF BULK AT MOST 1048576: true; the input reads as it did. -/
def fnNotByOthersUptoRow : OpenClaim := { program := "ytfebdbfkpmjpeaa", sum := "7315070e5a13a41614e2f6e51d18d9ff757bff37e06ac544c380f0dbbbbbb890", func := "given.example/pub-bosquet/laws.FnNotByOthers", spec := "fnNotByOthers", unfollowed := true, recurses := true, apart := false, narrowed := true }
def FnNotByOthersUptoSaid : Prop := fnNotByOthersUptoRow.holds Try.pinned (OpenSpec.upto fnNotByOthersSpec)

/-- 'laws.FnHasClass', WHERE WHAT IT READS IS OF BULK AT MOST 1048576: true; the input reads as it did. -/
def fnHasClassUptoRow : OpenClaim := { program := "ytfebdbfkpmjpeaa", sum := "7315070e5a13a41614e2f6e51d18d9ff757bff37e06ac544c380f0dbbbbbb890", func := "given.example/pub-bosquet/laws.FnHasClass", spec := "fnHasClass", recurses := true, apart := false, narrowed := true }
def FnHasClassUptoSaid : Prop := fnHasClassUptoRow.holds Try.pinned (OpenSpec.upto fnHasClassSpec)

/-- 'laws.FnIsAttr', WHERE WHAT IT READS IS OF BULK AT MOST 1048576: true; the input reads as it did. -/
def fnIsAttrUptoRow : OpenClaim := { program := "ytfebdbfkpmjpeaa", sum := "7315070e5a13a41614e2f6e51d18d9ff757bff37e06ac544c380f0dbbbbbb890", func := "given.example/pub-bosquet/laws.FnIsAttr", spec := "fnIsAttr", unfollowed := true, recurses := true, apart := false, narrowed := true }
def FnIsAttrUptoSaid : Prop := fnIsAttrUptoRow.holds Try.pinned (OpenSpec.upto fnIsAttrSpec)

/-- 'laws.FnHasRoads', WHERE WHAT IT READS IS OF BULK AT MOST 1048576: true; the input reads as it did. -/
def fnHasRoadsUptoRow : OpenClaim := { program := "ytfebdbfkpmjpeaa", sum := "7315070e5a13a41614e2f6e51d18d9ff757bff37e06ac544c380f0dbbbbbb890", func := "given.example/pub-bosquet/laws.FnHasRoads", spec := "fnHasRoads", unfollowed := true, recurses := true, apart := false, narrowed := true }
def FnHasRoadsUptoSaid : Prop := fnHasRoadsUptoRow.holds Try.pinned (OpenSpec.upto fnHasRoadsSpec)

/-- 'laws.FnEach', WHERE WHAT IT READS IS OF BULK AT MOST 1048576: true; the input reads as it did. -/
def fnEachUptoRow : OpenClaim := { program := "ytfebdbfkpmjpeaa", sum := "7315070e5a13a41614e2f6e51d18d9ff757bff37e06ac544c380f0dbbbbbb890", func := "given.example/pub-bosquet/laws.FnEach", spec := "fnEach", unfollowed := true, recurses := true, apart := false, narrowed := true }
def FnEachUptoSaid : Prop := fnEachUptoRow.holds Try.pinned (OpenSpec.upto fnEachSpec)

/-- 'laws.FnAttrsToggled', WHERE WHAT IT READS IS OF BULK AT MOST 1048576: true; the input reads as it did. -/
def fnAttrsToggledUptoRow : OpenClaim := { program := "ytfebdbfkpmjpeaa", sum := "7315070e5a13a41614e2f6e51d18d9ff757bff37e06ac544c380f0dbbbbbb890", func := "given.example/pub-bosquet/laws.FnAttrsToggled", spec := "fnAttrsToggled", inPlace := ["internal/abi.NoEscape", "internal/bytealg.MakeNoZero"], apart := false, narrowed := true }
def FnAttrsToggledUptoSaid : Prop := fnAttrsToggledUptoRow.holds Try.pinned (OpenSpec.upto fnAttrsToggledSpec)

/-- 'laws.FnChildrenOf', WHERE WHAT IT READS IS OF BULK AT MOST 1048576: true; the input reads as it did. -/
def fnChildrenOfUptoRow : OpenClaim := { program := "ytfebdbfkpmjpeaa", sum := "7315070e5a13a41614e2f6e51d18d9ff757bff37e06ac544c380f0dbbbbbb890", func := "given.example/pub-bosquet/laws.FnChildrenOf", spec := "fnChildrenOf", unfollowed := true, recurses := true, apart := false, narrowed := true }
def FnChildrenOfUptoSaid : Prop := fnChildrenOfUptoRow.holds Try.pinned (OpenSpec.upto fnChildrenOfSpec)

end Rows
end Go.Proofs.Ytfebdbfkpmjpeaa
