/-
  No cell of these rows narrows 'for every input' (looked for: loops, veiled, ifaces, maps, wideKeys, modest, calm, conditions, laid).
  DERIVED. THE GIVEN ROWS OF THIS SEAT. 12 by the template 'for every input the law returns true; each argument reads behind the call as it read before'; 0 by the template 'total and deterministic' (their statements: YtgilbckfkngaiaaTotals.lean).
  GIVEN WITH THE SEED: the statements are not yours to turn. If you find one false, say at which input.
  Laid BY PROGRAM, IN A SANDBOX (cutbox-rows.mjs): the forced cells as the released guide's own fill.sh prints them over the translation 627d8a2c1061daed… (all of the seat's roots in one cut). By AI agents, Wed Nov 11 2026. No macro, syntax, notation, axiom, sorry.
-/
import Derived.Test.YtgilbckfkngaiaaChecked
import GoSem.Claim
import GoSem.ClaimJoined
import GoSem.ClaimMapViews
import Derived.JoinedTies
import Derived.KernelRfl
namespace Go.Proofs.Ytgilbckfkngaiaa
/- THE CELL 'sum', in the pinned program and in every row, IS THE sha256 OF THE DUMP (.gsa) THAT YtgilbckfkngaiaaProg.lean LOADS. Nothing in Lean hashes anything: it is a label: what it is worth is what the hold of that sum in a sandbox is worth. -/
noncomputable def Try.pinned : Pinned := { name := "ytgilbckfkngaiaa", sum := "627d8a2c1061daedd32d13b196b379ad5e1a15c4b54c129d995da4844fe57ab3", checked := Try.checked }
namespace Rows
def none {H : Type} : Left H := { results := [], args := [] }

/-- 'laws.FnAttrsRemoved': WHATEVER THE INPUT: true; the input reads as it did. -/
def fnAttrsRemovedSpec : ChangeSpec := { name := "fnAttrsRemoved", fn := fun _ => fun
  | [d1, d2, d3] => { results := [.lit (.bool true)], args := [d1, d2, d3] }
  | _ => none }
def fnAttrsRemovedRow : OpenClaim := { program := "ytgilbckfkngaiaa", sum := "627d8a2c1061daedd32d13b196b379ad5e1a15c4b54c129d995da4844fe57ab3", func := "given.example/pub-bosquet/laws.FnAttrsRemoved", spec := "fnAttrsRemoved", apart := false }
def FnAttrsRemovedSaid : Prop := fnAttrsRemovedRow.holds Try.pinned (OpenSpec.ofChange fnAttrsRemovedSpec)

/-- ITS FALSE NEIGHBOUR: 'it returns false'. Refute it at one input. -/
def fnAttrsRemovedWrong : ChangeSpec := { name := "fnAttrsRemoved", fn := fun _ => fun
  | [d1, d2, d3] => { results := [.lit (.bool false)], args := [d1, d2, d3] }
  | _ => none }
def FnAttrsRemovedWrongFalsely : Prop := fnAttrsRemovedRow.holds Try.pinned (OpenSpec.ofChange fnAttrsRemovedWrong)

/-- 'laws.FnCountedEnds': WHATEVER THE INPUT: true; the input reads as it did. -/
def fnCountedEndsSpec : ChangeSpec := { name := "fnCountedEnds", fn := fun _ => fun
  | [d1, d2, d3, d4, d5] => { results := [.lit (.bool true)], args := [d1, d2, d3, d4, d5] }
  | _ => none }
def fnCountedEndsRow : OpenClaim := { program := "ytgilbckfkngaiaa", sum := "627d8a2c1061daedd32d13b196b379ad5e1a15c4b54c129d995da4844fe57ab3", func := "given.example/pub-bosquet/laws.FnCountedEnds", spec := "fnCountedEnds", apart := false }
def FnCountedEndsSaid : Prop := fnCountedEndsRow.holds Try.pinned (OpenSpec.ofChange fnCountedEndsSpec)

/-- ITS FALSE NEIGHBOUR: 'it returns false'. Refute it at one input. -/
def fnCountedEndsWrong : ChangeSpec := { name := "fnCountedEnds", fn := fun _ => fun
  | [d1, d2, d3, d4, d5] => { results := [.lit (.bool false)], args := [d1, d2, d3, d4, d5] }
  | _ => none }
def FnCountedEndsWrongFalsely : Prop := fnCountedEndsRow.holds Try.pinned (OpenSpec.ofChange fnCountedEndsWrong)

/-- 'laws.FnHasClass': WHATEVER THE INPUT: true; the input reads as it did. -/
def fnHasClassSpec : ChangeSpec := { name := "fnHasClass", fn := fun _ => fun
  | [d1, d2, d3, d4] => { results := [.lit (.bool true)], args := [d1, d2, d3, d4] }
  | _ => none }
def fnHasClassRow : OpenClaim := { program := "ytgilbckfkngaiaa", sum := "627d8a2c1061daedd32d13b196b379ad5e1a15c4b54c129d995da4844fe57ab3", func := "given.example/pub-bosquet/laws.FnHasClass", spec := "fnHasClass", recurses := true, apart := false }
def FnHasClassSaid : Prop := fnHasClassRow.holds Try.pinned (OpenSpec.ofChange fnHasClassSpec)

/-- ITS FALSE NEIGHBOUR: 'it returns false'. Refute it at one input. -/
def fnHasClassWrong : ChangeSpec := { name := "fnHasClass", fn := fun _ => fun
  | [d1, d2, d3, d4] => { results := [.lit (.bool false)], args := [d1, d2, d3, d4] }
  | _ => none }
def FnHasClassWrongFalsely : Prop := fnHasClassRow.holds Try.pinned (OpenSpec.ofChange fnHasClassWrong)

/-- 'laws.FnEach': WHATEVER THE INPUT: true; the input reads as it did. -/
def fnEachSpec : ChangeSpec := { name := "fnEach", fn := fun _ => fun
  | [d1, d2, d3] => { results := [.lit (.bool true)], args := [d1, d2, d3] }
  | _ => none }
def fnEachRow : OpenClaim := { program := "ytgilbckfkngaiaa", sum := "627d8a2c1061daedd32d13b196b379ad5e1a15c4b54c129d995da4844fe57ab3", func := "given.example/pub-bosquet/laws.FnEach", spec := "fnEach", unfollowed := true, recurses := true, apart := false }
def FnEachSaid : Prop := fnEachRow.holds Try.pinned (OpenSpec.ofChange fnEachSpec)

/-- ITS FALSE NEIGHBOUR: 'it returns false'. Refute it at one input. -/
def fnEachWrong : ChangeSpec := { name := "fnEach", fn := fun _ => fun
  | [d1, d2, d3] => { results := [.lit (.bool false)], args := [d1, d2, d3] }
  | _ => none }
def FnEachWrongFalsely : Prop := fnEachRow.holds Try.pinned (OpenSpec.ofChange fnEachWrong)

/-- 'laws.FnAttrsToggled': WHATEVER THE INPUT: true; the input reads as it did. -/
def fnAttrsToggledSpec : ChangeSpec := { name := "fnAttrsToggled", fn := fun _ => fun
  | [d1, d2] => { results := [.lit (.bool true)], args := [d1, d2] }
  | _ => none }
def fnAttrsToggledRow : OpenClaim := { program := "ytgilbckfkngaiaa", sum := "627d8a2c1061daedd32d13b196b379ad5e1a15c4b54c129d995da4844fe57ab3", func := "given.example/pub-bosquet/laws.FnAttrsToggled", spec := "fnAttrsToggled", inPlace := ["internal/abi.NoEscape", "internal/bytealg.MakeNoZero"], apart := false }
def FnAttrsToggledSaid : Prop := fnAttrsToggledRow.holds Try.pinned (OpenSpec.ofChange fnAttrsToggledSpec)

/-- ITS FALSE NEIGHBOUR: 'it returns false'. Refute it at one input. -/
def fnAttrsToggledWrong : ChangeSpec := { name := "fnAttrsToggled", fn := fun _ => fun
  | [d1, d2] => { results := [.lit (.bool false)], args := [d1, d2] }
  | _ => none }
def FnAttrsToggledWrongFalsely : Prop := fnAttrsToggledRow.holds Try.pinned (OpenSpec.ofChange fnAttrsToggledWrong)

/-- 'laws.FnParentsOf': WHATEVER THE INPUT: true; the input reads as it did. -/
def fnParentsOfSpec : ChangeSpec := { name := "fnParentsOf", fn := fun _ => fun
  | [d1, d2] => { results := [.lit (.bool true)], args := [d1, d2] }
  | _ => none }
def fnParentsOfRow : OpenClaim := { program := "ytgilbckfkngaiaa", sum := "627d8a2c1061daedd32d13b196b379ad5e1a15c4b54c129d995da4844fe57ab3", func := "given.example/pub-bosquet/laws.FnParentsOf", spec := "fnParentsOf", unfollowed := true, recurses := true, apart := false }
def FnParentsOfSaid : Prop := fnParentsOfRow.holds Try.pinned (OpenSpec.ofChange fnParentsOfSpec)

/-- ITS FALSE NEIGHBOUR: 'it returns false'. Refute it at one input. -/
def fnParentsOfWrong : ChangeSpec := { name := "fnParentsOf", fn := fun _ => fun
  | [d1, d2] => { results := [.lit (.bool false)], args := [d1, d2] }
  | _ => none }
def FnParentsOfWrongFalsely : Prop := fnParentsOfRow.holds Try.pinned (OpenSpec.ofChange fnParentsOfWrong)

/-- 'laws.FnParentsUntilOf': WHATEVER THE INPUT: true; the input reads as it did. -/
def fnParentsUntilOfSpec : ChangeSpec := { name := "fnParentsUntilOf", fn := fun _ => fun
  | [d1, d2, d3] => { results := [.lit (.bool true)], args := [d1, d2, d3] }
  | _ => none }
def fnParentsUntilOfRow : OpenClaim := { program := "ytgilbckfkngaiaa", sum := "627d8a2c1061daedd32d13b196b379ad5e1a15c4b54c129d995da4844fe57ab3", func := "given.example/pub-bosquet/laws.FnParentsUntilOf", spec := "fnParentsUntilOf", unfollowed := true, recurses := true, apart := false }
def FnParentsUntilOfSaid : Prop := fnParentsUntilOfRow.holds Try.pinned (OpenSpec.ofChange fnParentsUntilOfSpec)

/-- ITS FALSE NEIGHBOUR: 'it returns false'. Refute it at one input. -/
def fnParentsUntilOfWrong : ChangeSpec := { name := "fnParentsUntilOf", fn := fun _ => fun
  | [d1, d2, d3] => { results := [.lit (.bool false)], args := [d1, d2, d3] }
  | _ => none }
def FnParentsUntilOfWrongFalsely : Prop := fnParentsUntilOfRow.holds Try.pinned (OpenSpec.ofChange fnParentsUntilOfWrong)

/-- 'laws.FnParentsUntilParts': WHATEVER THE INPUT: true; the input reads as it did. -/
def fnParentsUntilPartsSpec : ChangeSpec := { name := "fnParentsUntilParts", fn := fun _ => fun
  | [d1, d2, d3] => { results := [.lit (.bool true)], args := [d1, d2, d3] }
  | _ => none }
def fnParentsUntilPartsRow : OpenClaim := { program := "ytgilbckfkngaiaa", sum := "627d8a2c1061daedd32d13b196b379ad5e1a15c4b54c129d995da4844fe57ab3", func := "given.example/pub-bosquet/laws.FnParentsUntilParts", spec := "fnParentsUntilParts", unfollowed := true, recurses := true, apart := false }
def FnParentsUntilPartsSaid : Prop := fnParentsUntilPartsRow.holds Try.pinned (OpenSpec.ofChange fnParentsUntilPartsSpec)

/-- ITS FALSE NEIGHBOUR: 'it returns false'. Refute it at one input. -/
def fnParentsUntilPartsWrong : ChangeSpec := { name := "fnParentsUntilParts", fn := fun _ => fun
  | [d1, d2, d3] => { results := [.lit (.bool false)], args := [d1, d2, d3] }
  | _ => none }
def FnParentsUntilPartsWrongFalsely : Prop := fnParentsUntilPartsRow.holds Try.pinned (OpenSpec.ofChange fnParentsUntilPartsWrong)

/-- 'laws.FnPrevOf': WHATEVER THE INPUT: true; the input reads as it did. -/
def fnPrevOfSpec : ChangeSpec := { name := "fnPrevOf", fn := fun _ => fun
  | [d1, d2] => { results := [.lit (.bool true)], args := [d1, d2] }
  | _ => none }
def fnPrevOfRow : OpenClaim := { program := "ytgilbckfkngaiaa", sum := "627d8a2c1061daedd32d13b196b379ad5e1a15c4b54c129d995da4844fe57ab3", func := "given.example/pub-bosquet/laws.FnPrevOf", spec := "fnPrevOf", unfollowed := true, recurses := true, apart := false }
def FnPrevOfSaid : Prop := fnPrevOfRow.holds Try.pinned (OpenSpec.ofChange fnPrevOfSpec)

/-- ITS FALSE NEIGHBOUR: 'it returns false'. Refute it at one input. -/
def fnPrevOfWrong : ChangeSpec := { name := "fnPrevOf", fn := fun _ => fun
  | [d1, d2] => { results := [.lit (.bool false)], args := [d1, d2] }
  | _ => none }
def FnPrevOfWrongFalsely : Prop := fnPrevOfRow.holds Try.pinned (OpenSpec.ofChange fnPrevOfWrong)

/-- 'laws.FnNextChain': WHATEVER THE INPUT: true; the input reads as it did. -/
def fnNextChainSpec : ChangeSpec := { name := "fnNextChain", fn := fun _ => fun
  | [d1, d2] => { results := [.lit (.bool true)], args := [d1, d2] }
  | _ => none }
def fnNextChainRow : OpenClaim := { program := "ytgilbckfkngaiaa", sum := "627d8a2c1061daedd32d13b196b379ad5e1a15c4b54c129d995da4844fe57ab3", func := "given.example/pub-bosquet/laws.FnNextChain", spec := "fnNextChain", unfollowed := true, recurses := true, apart := false }
def FnNextChainSaid : Prop := fnNextChainRow.holds Try.pinned (OpenSpec.ofChange fnNextChainSpec)

/-- ITS FALSE NEIGHBOUR: 'it returns false'. Refute it at one input. -/
def fnNextChainWrong : ChangeSpec := { name := "fnNextChain", fn := fun _ => fun
  | [d1, d2] => { results := [.lit (.bool false)], args := [d1, d2] }
  | _ => none }
def FnNextChainWrongFalsely : Prop := fnNextChainRow.holds Try.pinned (OpenSpec.ofChange fnNextChainWrong)

/-- 'laws.FnParentChild': WHATEVER THE INPUT: true; the input reads as it did. -/
def fnParentChildSpec : ChangeSpec := { name := "fnParentChild", fn := fun _ => fun
  | [d1, d2] => { results := [.lit (.bool true)], args := [d1, d2] }
  | _ => none }
def fnParentChildRow : OpenClaim := { program := "ytgilbckfkngaiaa", sum := "627d8a2c1061daedd32d13b196b379ad5e1a15c4b54c129d995da4844fe57ab3", func := "given.example/pub-bosquet/laws.FnParentChild", spec := "fnParentChild", unfollowed := true, recurses := true, apart := false }
def FnParentChildSaid : Prop := fnParentChildRow.holds Try.pinned (OpenSpec.ofChange fnParentChildSpec)

/-- ITS FALSE NEIGHBOUR: 'it returns false'. Refute it at one input. -/
def fnParentChildWrong : ChangeSpec := { name := "fnParentChild", fn := fun _ => fun
  | [d1, d2] => { results := [.lit (.bool false)], args := [d1, d2] }
  | _ => none }
def FnParentChildWrongFalsely : Prop := fnParentChildRow.holds Try.pinned (OpenSpec.ofChange fnParentChildWrong)

/-- 'laws.FnPositions': WHATEVER THE INPUT: true; the input reads as it did. -/
def fnPositionsSpec : ChangeSpec := { name := "fnPositions", fn := fun _ => fun
  | [d1, d2, d3] => { results := [.lit (.bool true)], args := [d1, d2, d3] }
  | _ => none }
def fnPositionsRow : OpenClaim := { program := "ytgilbckfkngaiaa", sum := "627d8a2c1061daedd32d13b196b379ad5e1a15c4b54c129d995da4844fe57ab3", func := "given.example/pub-bosquet/laws.FnPositions", spec := "fnPositions", unfollowed := true, recurses := true, apart := false }
def FnPositionsSaid : Prop := fnPositionsRow.holds Try.pinned (OpenSpec.ofChange fnPositionsSpec)

/-- ITS FALSE NEIGHBOUR: 'it returns false'. Refute it at one input. -/
def fnPositionsWrong : ChangeSpec := { name := "fnPositions", fn := fun _ => fun
  | [d1, d2, d3] => { results := [.lit (.bool false)], args := [d1, d2, d3] }
  | _ => none }
def FnPositionsWrongFalsely : Prop := fnPositionsRow.holds Try.pinned (OpenSpec.ofChange fnPositionsWrong)

/- THE SECOND FORM. 'bulk': how many values and letters a reading holds, each counted each time it is reached (what is shared counts as often as it is met; a slice's spare places count too). A statement '..UptoSaid' is the law's where the arguments, and the package variables that the reading takes, are together of bulk at most 1048576: NARROWER than '..Said'. Prove '..Said' where nothing that the law and all that it calls make is longer than what came in: it says more and counts as full. Else prove '..UptoSaid'. A law counts once. -/
mutual
def uptoBulk {H : Type} : DataW H → Nat
  | .lit (.string bytes) => bytes.length + 1
  | .lit _ => 1
  | .nil => 1
  | .ptr d => uptoBulk d + 1
  | .slice elems spare => uptoBulkAll elems + uptoBulkAll spare + 1
  | .agg parts => uptoBulkAll parts + 1
  | .iface _ d => uptoBulk d + 1
  | .map entries => uptoBulkEntries entries + 1
  | .held _ => 1
def uptoBulkAll {H : Type} : List (DataW H) → Nat
  | [] => 0
  | d :: r => uptoBulk d + uptoBulkAll r
def uptoBulkEntries {H : Type} : List (Lit × DataW H) → Nat
  | [] => 0
  | x :: r => uptoBulkEntry x + uptoBulkEntries r
def uptoBulkEntry {H : Type} : Lit × DataW H → Nat
  | (.string bytes, d) => bytes.length + uptoBulk d + 1
  | (_, d) => uptoBulk d + 1
 end
def uptoSmall : (H : Type) → List (DataW H) → Bool := fun _ ds => decide (uptoBulkAll ds ≤ 1048576)
def OpenSpec.upto (s : _root_.Go.ChangeSpec) : _root_.Go.OpenSpec := { _root_.Go.OpenSpec.ofChange s with cond := some uptoSmall }

/-- 'laws.FnAttrsRemoved', WHERE WHAT IT READS IS OF BULK AT MOST 1048576: true; the input reads as it did. -/
def fnAttrsRemovedUptoRow : OpenClaim := { program := "ytgilbckfkngaiaa", sum := "627d8a2c1061daedd32d13b196b379ad5e1a15c4b54c129d995da4844fe57ab3", func := "given.example/pub-bosquet/laws.FnAttrsRemoved", spec := "fnAttrsRemoved", apart := false, narrowed := true }
def FnAttrsRemovedUptoSaid : Prop := fnAttrsRemovedUptoRow.holds Try.pinned (OpenSpec.upto fnAttrsRemovedSpec)

/-- 'laws.FnCountedEnds', WHERE WHAT IT READS IS OF BULK AT MOST 1048576: true; the input reads as it did. -/
def fnCountedEndsUptoRow : OpenClaim := { program := "ytgilbckfkngaiaa", sum := "627d8a2c1061daedd32d13b196b379ad5e1a15c4b54c129d995da4844fe57ab3", func := "given.example/pub-bosquet/laws.FnCountedEnds", spec := "fnCountedEnds", apart := false, narrowed := true }
def FnCountedEndsUptoSaid : Prop := fnCountedEndsUptoRow.holds Try.pinned (OpenSpec.upto fnCountedEndsSpec)

/-- 'laws.FnHasClass', WHERE WHAT IT READS IS OF BULK AT MOST 1048576: true; the input reads as it did. -/
def fnHasClassUptoRow : OpenClaim := { program := "ytgilbckfkngaiaa", sum := "627d8a2c1061daedd32d13b196b379ad5e1a15c4b54c129d995da4844fe57ab3", func := "given.example/pub-bosquet/laws.FnHasClass", spec := "fnHasClass", recurses := true, apart := false, narrowed := true }
def FnHasClassUptoSaid : Prop := fnHasClassUptoRow.holds Try.pinned (OpenSpec.upto fnHasClassSpec)

/-- 'laws.FnEach', WHERE WHAT IT READS IS OF BULK AT MOST 1048576: true; the input reads as it did. -/
def fnEachUptoRow : OpenClaim := { program := "ytgilbckfkngaiaa", sum := "627d8a2c1061daedd32d13b196b379ad5e1a15c4b54c129d995da4844fe57ab3", func := "given.example/pub-bosquet/laws.FnEach", spec := "fnEach", unfollowed := true, recurses := true, apart := false, narrowed := true }
def FnEachUptoSaid : Prop := fnEachUptoRow.holds Try.pinned (OpenSpec.upto fnEachSpec)

/-- 'laws.FnAttrsToggled', WHERE WHAT IT READS IS OF BULK AT MOST 1048576: true; the input reads as it did. -/
def fnAttrsToggledUptoRow : OpenClaim := { program := "ytgilbckfkngaiaa", sum := "627d8a2c1061daedd32d13b196b379ad5e1a15c4b54c129d995da4844fe57ab3", func := "given.example/pub-bosquet/laws.FnAttrsToggled", spec := "fnAttrsToggled", inPlace := ["internal/abi.NoEscape", "internal/bytealg.MakeNoZero"], apart := false, narrowed := true }
def FnAttrsToggledUptoSaid : Prop := fnAttrsToggledUptoRow.holds Try.pinned (OpenSpec.upto fnAttrsToggledSpec)

/-- 'laws.FnParentsOf', WHERE WHAT IT READS IS OF BULK AT MOST 1048576: true; the input reads as it did. -/
def fnParentsOfUptoRow : OpenClaim := { program := "ytgilbckfkngaiaa", sum := "627d8a2c1061daedd32d13b196b379ad5e1a15c4b54c129d995da4844fe57ab3", func := "given.example/pub-bosquet/laws.FnParentsOf", spec := "fnParentsOf", unfollowed := true, recurses := true, apart := false, narrowed := true }
def FnParentsOfUptoSaid : Prop := fnParentsOfUptoRow.holds Try.pinned (OpenSpec.upto fnParentsOfSpec)

/-- 'laws.FnParentsUntilOf', WHERE WHAT IT READS IS OF BULK AT MOST 1048576: true; the input reads as it did. -/
def fnParentsUntilOfUptoRow : OpenClaim := { program := "ytgilbckfkngaiaa", sum := "627d8a2c1061daedd32d13b196b379ad5e1a15c4b54c129d995da4844fe57ab3", func := "given.example/pub-bosquet/laws.FnParentsUntilOf", spec := "fnParentsUntilOf", unfollowed := true, recurses := true, apart := false, narrowed := true }
def FnParentsUntilOfUptoSaid : Prop := fnParentsUntilOfUptoRow.holds Try.pinned (OpenSpec.upto fnParentsUntilOfSpec)

/-- 'laws.FnParentsUntilParts', WHERE WHAT IT READS IS OF BULK AT MOST 1048576: true; the input reads as it did. -/
def fnParentsUntilPartsUptoRow : OpenClaim := { program := "ytgilbckfkngaiaa", sum := "627d8a2c1061daedd32d13b196b379ad5e1a15c4b54c129d995da4844fe57ab3", func := "given.example/pub-bosquet/laws.FnParentsUntilParts", spec := "fnParentsUntilParts", unfollowed := true, recurses := true, apart := false, narrowed := true }
def FnParentsUntilPartsUptoSaid : Prop := fnParentsUntilPartsUptoRow.holds Try.pinned (OpenSpec.upto fnParentsUntilPartsSpec)

/-- 'laws.FnPrevOf', WHERE WHAT IT READS IS OF BULK AT MOST 1048576: true; the input reads as it did. -/
def fnPrevOfUptoRow : OpenClaim := { program := "ytgilbckfkngaiaa", sum := "627d8a2c1061daedd32d13b196b379ad5e1a15c4b54c129d995da4844fe57ab3", func := "given.example/pub-bosquet/laws.FnPrevOf", spec := "fnPrevOf", unfollowed := true, recurses := true, apart := false, narrowed := true }
def FnPrevOfUptoSaid : Prop := fnPrevOfUptoRow.holds Try.pinned (OpenSpec.upto fnPrevOfSpec)

/-- 'laws.FnNextChain', WHERE WHAT IT READS IS OF BULK AT MOST 1048576: true; the input reads as it did. -/
def fnNextChainUptoRow : OpenClaim := { program := "ytgilbckfkngaiaa", sum := "627d8a2c1061daedd32d13b196b379ad5e1a15c4b54c129d995da4844fe57ab3", func := "given.example/pub-bosquet/laws.FnNextChain", spec := "fnNextChain", unfollowed := true, recurses := true, apart := false, narrowed := true }
def FnNextChainUptoSaid : Prop := fnNextChainUptoRow.holds Try.pinned (OpenSpec.upto fnNextChainSpec)

/-- 'laws.FnParentChild', WHERE WHAT IT READS IS OF BULK AT MOST 1048576: true; the input reads as it did. -/
def fnParentChildUptoRow : OpenClaim := { program := "ytgilbckfkngaiaa", sum := "627d8a2c1061daedd32d13b196b379ad5e1a15c4b54c129d995da4844fe57ab3", func := "given.example/pub-bosquet/laws.FnParentChild", spec := "fnParentChild", unfollowed := true, recurses := true, apart := false, narrowed := true }
def FnParentChildUptoSaid : Prop := fnParentChildUptoRow.holds Try.pinned (OpenSpec.upto fnParentChildSpec)

/-- 'laws.FnPositions', WHERE WHAT IT READS IS OF BULK AT MOST 1048576: true; the input reads as it did. -/
def fnPositionsUptoRow : OpenClaim := { program := "ytgilbckfkngaiaa", sum := "627d8a2c1061daedd32d13b196b379ad5e1a15c4b54c129d995da4844fe57ab3", func := "given.example/pub-bosquet/laws.FnPositions", spec := "fnPositions", unfollowed := true, recurses := true, apart := false, narrowed := true }
def FnPositionsUptoSaid : Prop := fnPositionsUptoRow.holds Try.pinned (OpenSpec.upto fnPositionsSpec)

end Rows
end Go.Proofs.Ytgilbckfkngaiaa
