/-
  No cell of these rows narrows 'for every input' (looked for: loops, veiled, ifaces, maps, wideKeys, modest, calm, conditions, laid).
  DERIVED. THE GIVEN ROWS OF THIS SEAT. 9 by the template 'for every input the law returns true; each argument reads behind the call as it read before'; 0 by the template 'total and deterministic' (their statements: YtmhhfljbocbolaaTotals.lean).
  GIVEN WITH THE SEED: the statements are not yours to turn. If you find one false, say at which input.
  Laid BY PROGRAM, IN A SANDBOX (cutbox-rows.mjs): the forced cells as the released guide's own fill.sh prints them over the translation 20fecdf704bd4ae9… (all of the seat's roots in one cut). By AI agents, Wed Nov 11 2026. No macro, syntax, notation, axiom, sorry.
-/
import Derived.Test.YtmhhfljbocbolaaChecked
import GoSem.Claim
import GoSem.ClaimJoined
import GoSem.ClaimMapViews
import Derived.JoinedTies
import Derived.KernelRfl
namespace Go.Proofs.Ytmhhfljbocbolaa
/- THE CELL 'sum', in the pinned program and in every row, IS THE sha256 OF THE DUMP (.gsa) THAT YtmhhfljbocbolaaProg.lean LOADS. Nothing in Lean hashes anything: it is a label: what it is worth is what the hold of that sum in a sandbox is worth. -/
noncomputable def Try.pinned : Pinned := { name := "ytmhhfljbocbolaa", sum := "20fecdf704bd4ae9d8e813bd5b00459124b8d4b34a015f52a9b69760bfe7eabd", checked := Try.checked }
namespace Rows
def none {H : Type} : Left H := { results := [], args := [] }

/-- 'laws.FnEmptyOf': WHATEVER THE INPUT: true; the input reads as it did. -/
def fnEmptyOfSpec : ChangeSpec := { name := "fnEmptyOf", fn := fun _ => fun
  | [d1, d2] => { results := [.lit (.bool true)], args := [d1, d2] }
  | _ => none }
def fnEmptyOfRow : OpenClaim := { program := "ytmhhfljbocbolaa", sum := "20fecdf704bd4ae9d8e813bd5b00459124b8d4b34a015f52a9b69760bfe7eabd", func := "given.example/pub-bosquet/laws.FnEmptyOf", spec := "fnEmptyOf", recurses := true, apart := false }
def FnEmptyOfSaid : Prop := fnEmptyOfRow.holds Try.pinned (OpenSpec.ofChange fnEmptyOfSpec)

/-- ITS FALSE NEIGHBOUR: 'it returns false'. Refute it at one input. -/
def fnEmptyOfWrong : ChangeSpec := { name := "fnEmptyOf", fn := fun _ => fun
  | [d1, d2] => { results := [.lit (.bool false)], args := [d1, d2] }
  | _ => none }
def FnEmptyOfWrongFalsely : Prop := fnEmptyOfRow.holds Try.pinned (OpenSpec.ofChange fnEmptyOfWrong)

/-- 'laws.FnEmptied': WHATEVER THE INPUT: true; the input reads as it did. -/
def fnEmptiedSpec : ChangeSpec := { name := "fnEmptied", fn := fun _ => fun
  | [d1, d2] => { results := [.lit (.bool true)], args := [d1, d2] }
  | _ => none }
def fnEmptiedRow : OpenClaim := { program := "ytmhhfljbocbolaa", sum := "20fecdf704bd4ae9d8e813bd5b00459124b8d4b34a015f52a9b69760bfe7eabd", func := "given.example/pub-bosquet/laws.FnEmptied", spec := "fnEmptied", recurses := true, apart := false }
def FnEmptiedSaid : Prop := fnEmptiedRow.holds Try.pinned (OpenSpec.ofChange fnEmptiedSpec)

/-- ITS FALSE NEIGHBOUR: 'it returns false'. Refute it at one input. -/
def fnEmptiedWrong : ChangeSpec := { name := "fnEmptied", fn := fun _ => fun
  | [d1, d2] => { results := [.lit (.bool false)], args := [d1, d2] }
  | _ => none }
def FnEmptiedWrongFalsely : Prop := fnEmptiedRow.holds Try.pinned (OpenSpec.ofChange fnEmptiedWrong)

/-- 'laws.FnAppendMoves': WHATEVER THE INPUT: true; the input reads as it did. -/
def fnAppendMovesSpec : ChangeSpec := { name := "fnAppendMoves", fn := fun _ => fun
  | [d1, d2, d3] => { results := [.lit (.bool true)], args := [d1, d2, d3] }
  | _ => none }
def fnAppendMovesRow : OpenClaim := { program := "ytmhhfljbocbolaa", sum := "20fecdf704bd4ae9d8e813bd5b00459124b8d4b34a015f52a9b69760bfe7eabd", func := "given.example/pub-bosquet/laws.FnAppendMoves", spec := "fnAppendMoves", unfollowed := true, recurses := true, apart := false }
def FnAppendMovesSaid : Prop := fnAppendMovesRow.holds Try.pinned (OpenSpec.ofChange fnAppendMovesSpec)

/-- ITS FALSE NEIGHBOUR: 'it returns false'. Refute it at one input. -/
def fnAppendMovesWrong : ChangeSpec := { name := "fnAppendMoves", fn := fun _ => fun
  | [d1, d2, d3] => { results := [.lit (.bool false)], args := [d1, d2, d3] }
  | _ => none }
def FnAppendMovesWrongFalsely : Prop := fnAppendMovesRow.holds Try.pinned (OpenSpec.ofChange fnAppendMovesWrong)

/-- 'laws.FnAppendOf': WHATEVER THE INPUT: true; the input reads as it did. -/
def fnAppendOfSpec : ChangeSpec := { name := "fnAppendOf", fn := fun _ => fun
  | [d1, d2, d3] => { results := [.lit (.bool true)], args := [d1, d2, d3] }
  | _ => none }
def fnAppendOfRow : OpenClaim := { program := "ytmhhfljbocbolaa", sum := "20fecdf704bd4ae9d8e813bd5b00459124b8d4b34a015f52a9b69760bfe7eabd", func := "given.example/pub-bosquet/laws.FnAppendOf", spec := "fnAppendOf", unfollowed := true, recurses := true, apart := false }
def FnAppendOfSaid : Prop := fnAppendOfRow.holds Try.pinned (OpenSpec.ofChange fnAppendOfSpec)

/-- ITS FALSE NEIGHBOUR: 'it returns false'. Refute it at one input. -/
def fnAppendOfWrong : ChangeSpec := { name := "fnAppendOf", fn := fun _ => fun
  | [d1, d2, d3] => { results := [.lit (.bool false)], args := [d1, d2, d3] }
  | _ => none }
def FnAppendOfWrongFalsely : Prop := fnAppendOfRow.holds Try.pinned (OpenSpec.ofChange fnAppendOfWrong)

/-- 'laws.FnBeforeMoves': WHATEVER THE INPUT: true; the input reads as it did. -/
def fnBeforeMovesSpec : ChangeSpec := { name := "fnBeforeMoves", fn := fun _ => fun
  | [d1, d2, d3] => { results := [.lit (.bool true)], args := [d1, d2, d3] }
  | _ => none }
def fnBeforeMovesRow : OpenClaim := { program := "ytmhhfljbocbolaa", sum := "20fecdf704bd4ae9d8e813bd5b00459124b8d4b34a015f52a9b69760bfe7eabd", func := "given.example/pub-bosquet/laws.FnBeforeMoves", spec := "fnBeforeMoves", unfollowed := true, recurses := true, apart := false }
def FnBeforeMovesSaid : Prop := fnBeforeMovesRow.holds Try.pinned (OpenSpec.ofChange fnBeforeMovesSpec)

/-- ITS FALSE NEIGHBOUR: 'it returns false'. Refute it at one input. -/
def fnBeforeMovesWrong : ChangeSpec := { name := "fnBeforeMoves", fn := fun _ => fun
  | [d1, d2, d3] => { results := [.lit (.bool false)], args := [d1, d2, d3] }
  | _ => none }
def FnBeforeMovesWrongFalsely : Prop := fnBeforeMovesRow.holds Try.pinned (OpenSpec.ofChange fnBeforeMovesWrong)

/-- 'laws.FnBeforeOf': WHATEVER THE INPUT: true; the input reads as it did. -/
def fnBeforeOfSpec : ChangeSpec := { name := "fnBeforeOf", fn := fun _ => fun
  | [d1, d2, d3] => { results := [.lit (.bool true)], args := [d1, d2, d3] }
  | _ => none }
def fnBeforeOfRow : OpenClaim := { program := "ytmhhfljbocbolaa", sum := "20fecdf704bd4ae9d8e813bd5b00459124b8d4b34a015f52a9b69760bfe7eabd", func := "given.example/pub-bosquet/laws.FnBeforeOf", spec := "fnBeforeOf", unfollowed := true, recurses := true, apart := false }
def FnBeforeOfSaid : Prop := fnBeforeOfRow.holds Try.pinned (OpenSpec.ofChange fnBeforeOfSpec)

/-- ITS FALSE NEIGHBOUR: 'it returns false'. Refute it at one input. -/
def fnBeforeOfWrong : ChangeSpec := { name := "fnBeforeOf", fn := fun _ => fun
  | [d1, d2, d3] => { results := [.lit (.bool false)], args := [d1, d2, d3] }
  | _ => none }
def FnBeforeOfWrongFalsely : Prop := fnBeforeOfRow.holds Try.pinned (OpenSpec.ofChange fnBeforeOfWrong)

/-- 'laws.FnPrepended': WHATEVER THE INPUT: true; the input reads as it did. -/
def fnPrependedSpec : ChangeSpec := { name := "fnPrepended", fn := fun _ => fun
  | [d1, d2, d3] => { results := [.lit (.bool true)], args := [d1, d2, d3] }
  | _ => none }
def fnPrependedRow : OpenClaim := { program := "ytmhhfljbocbolaa", sum := "20fecdf704bd4ae9d8e813bd5b00459124b8d4b34a015f52a9b69760bfe7eabd", func := "given.example/pub-bosquet/laws.FnPrepended", spec := "fnPrepended", unfollowed := true, recurses := true, apart := false }
def FnPrependedSaid : Prop := fnPrependedRow.holds Try.pinned (OpenSpec.ofChange fnPrependedSpec)

/-- ITS FALSE NEIGHBOUR: 'it returns false'. Refute it at one input. -/
def fnPrependedWrong : ChangeSpec := { name := "fnPrepended", fn := fun _ => fun
  | [d1, d2, d3] => { results := [.lit (.bool false)], args := [d1, d2, d3] }
  | _ => none }
def FnPrependedWrongFalsely : Prop := fnPrependedRow.holds Try.pinned (OpenSpec.ofChange fnPrependedWrong)

/-- 'laws.FnWrapAllOf': WHATEVER THE INPUT: true; the input reads as it did. -/
def fnWrapAllOfSpec : ChangeSpec := { name := "fnWrapAllOf", fn := fun _ => fun
  | [d1, d2, d3] => { results := [.lit (.bool true)], args := [d1, d2, d3] }
  | _ => none }
def fnWrapAllOfRow : OpenClaim := { program := "ytmhhfljbocbolaa", sum := "20fecdf704bd4ae9d8e813bd5b00459124b8d4b34a015f52a9b69760bfe7eabd", func := "given.example/pub-bosquet/laws.FnWrapAllOf", spec := "fnWrapAllOf", unfollowed := true, recurses := true, apart := false }
def FnWrapAllOfSaid : Prop := fnWrapAllOfRow.holds Try.pinned (OpenSpec.ofChange fnWrapAllOfSpec)

/-- ITS FALSE NEIGHBOUR: 'it returns false'. Refute it at one input. -/
def fnWrapAllOfWrong : ChangeSpec := { name := "fnWrapAllOf", fn := fun _ => fun
  | [d1, d2, d3] => { results := [.lit (.bool false)], args := [d1, d2, d3] }
  | _ => none }
def FnWrapAllOfWrongFalsely : Prop := fnWrapAllOfRow.holds Try.pinned (OpenSpec.ofChange fnWrapAllOfWrong)

/-- 'laws.FnWrappedAll': WHATEVER THE INPUT: true; the input reads as it did. -/
def fnWrappedAllSpec : ChangeSpec := { name := "fnWrappedAll", fn := fun _ => fun
  | [d1, d2, d3] => { results := [.lit (.bool true)], args := [d1, d2, d3] }
  | _ => none }
def fnWrappedAllRow : OpenClaim := { program := "ytmhhfljbocbolaa", sum := "20fecdf704bd4ae9d8e813bd5b00459124b8d4b34a015f52a9b69760bfe7eabd", func := "given.example/pub-bosquet/laws.FnWrappedAll", spec := "fnWrappedAll", unfollowed := true, recurses := true, apart := false }
def FnWrappedAllSaid : Prop := fnWrappedAllRow.holds Try.pinned (OpenSpec.ofChange fnWrappedAllSpec)

/-- ITS FALSE NEIGHBOUR: 'it returns false'. Refute it at one input. -/
def fnWrappedAllWrong : ChangeSpec := { name := "fnWrappedAll", fn := fun _ => fun
  | [d1, d2, d3] => { results := [.lit (.bool false)], args := [d1, d2, d3] }
  | _ => none }
def FnWrappedAllWrongFalsely : Prop := fnWrappedAllRow.holds Try.pinned (OpenSpec.ofChange fnWrappedAllWrong)

/- THE SECOND FORM. 'bulk': how many values and letters a reading holds, each counted each time it is reached (what is shared counts as often as it is met; a slice's spare places count too). A statement '..UptoSaid' is the law's where the arguments, and the package variables that the reading takes, are together of bulk at most 1048576: NARROWER than '..Said'. Prove '..Said' where nothing that the law and all that it calls make is longer than what came in: it says more and counts as full. Else prove '..UptoSaid'. A law counts once. -/
mutual
def uptoBulk {H : Type} : DataW H → Nat
  | .lit (.string bytes) => bytes.length + 1
  | .lit _ => 1
  | .nil => 1
  | .ptr d => uptoBulk d + 1
  | .slice elems spare => uptoBulkAll elems + uptoBulkAll spare + 1
  | .agg parts => uptoBulkAll parts + 1
  | .iface _ d => uptoBulk d + 1
  | .map entries => uptoBulkEntries entries + 1
  | .held _ => 1
def uptoBulkAll {H : Type} : List (DataW H) → Nat
  | [] => 0
  | d :: r => uptoBulk d + uptoBulkAll r
def uptoBulkEntries {H : Type} : List (Lit × DataW H) → Nat
  | [] => 0
  | x :: r => uptoBulkEntry x + uptoBulkEntries r
def uptoBulkEntry {H : Type} : Lit × DataW H → Nat
  | (.string bytes, d) => bytes.length + uptoBulk d + 1
  | (_, d) => uptoBulk d + 1
 end
def uptoSmall : (H : Type) → List (DataW H) → Bool := fun _ ds => decide (uptoBulkAll ds ≤ 1048576)
def OpenSpec.upto (s : _root_.Go.ChangeSpec) : _root_.Go.OpenSpec := { _root_.Go.OpenSpec.ofChange s with cond := some uptoSmall }

/-- 'laws.FnEmptyOf', WHERE WHAT IT READS IS OF BULK AT MOST 1048576: true; the input reads as it did. -/
def fnEmptyOfUptoRow : OpenClaim := { program := "ytmhhfljbocbolaa", sum := "20fecdf704bd4ae9d8e813bd5b00459124b8d4b34a015f52a9b69760bfe7eabd", func := "given.example/pub-bosquet/laws.FnEmptyOf", spec := "fnEmptyOf", recurses := true, apart := false, narrowed := true }
def FnEmptyOfUptoSaid : Prop := fnEmptyOfUptoRow.holds Try.pinned (OpenSpec.upto fnEmptyOfSpec)

/-- 'laws.FnEmptied', WHERE WHAT IT READS IS OF BULK AT MOST 1048576: true; the input reads as it did. -/
def fnEmptiedUptoRow : OpenClaim := { program := "ytmhhfljbocbolaa", sum := "20fecdf704bd4ae9d8e813bd5b00459124b8d4b34a015f52a9b69760bfe7eabd", func := "given.example/pub-bosquet/laws.FnEmptied", spec := "fnEmptied", recurses := true, apart := false, narrowed := true }
def FnEmptiedUptoSaid : Prop := fnEmptiedUptoRow.holds Try.pinned (OpenSpec.upto fnEmptiedSpec)

/-- 'laws.FnAppendMoves', WHERE WHAT IT READS IS OF BULK AT MOST 1048576: true; the input reads as it did. -/
def fnAppendMovesUptoRow : OpenClaim := { program := "ytmhhfljbocbolaa", sum := "20fecdf704bd4ae9d8e813bd5b00459124b8d4b34a015f52a9b69760bfe7eabd", func := "given.example/pub-bosquet/laws.FnAppendMoves", spec := "fnAppendMoves", unfollowed := true, recurses := true, apart := false, narrowed := true }
def FnAppendMovesUptoSaid : Prop := fnAppendMovesUptoRow.holds Try.pinned (OpenSpec.upto fnAppendMovesSpec)

/-- 'laws.FnAppendOf', WHERE WHAT IT READS IS OF BULK AT MOST 1048576: true; the input reads as it did. -/
def fnAppendOfUptoRow : OpenClaim := { program := "ytmhhfljbocbolaa", sum := "20fecdf704bd4ae9d8e813bd5b00459124b8d4b34a015f52a9b69760bfe7eabd", func := "given.example/pub-bosquet/laws.FnAppendOf", spec := "fnAppendOf", unfollowed := true, recurses := true, apart := false, narrowed := true }
def FnAppendOfUptoSaid : Prop := fnAppendOfUptoRow.holds Try.pinned (OpenSpec.upto fnAppendOfSpec)

/-- 'laws.FnBeforeMoves', WHERE WHAT IT READS IS OF BULK AT MOST 1048576: true; the input reads as it did. -/
def fnBeforeMovesUptoRow : OpenClaim := { program := "ytmhhfljbocbolaa", sum := "20fecdf704bd4ae9d8e813bd5b00459124b8d4b34a015f52a9b69760bfe7eabd", func := "given.example/pub-bosquet/laws.FnBeforeMoves", spec := "fnBeforeMoves", unfollowed := true, recurses := true, apart := false, narrowed := true }
def FnBeforeMovesUptoSaid : Prop := fnBeforeMovesUptoRow.holds Try.pinned (OpenSpec.upto fnBeforeMovesSpec)

/-- 'laws.FnBeforeOf', WHERE WHAT IT READS IS OF BULK AT MOST 1048576: true; the input reads as it did. -/
def fnBeforeOfUptoRow : OpenClaim := { program := "ytmhhfljbocbolaa", sum := "20fecdf704bd4ae9d8e813bd5b00459124b8d4b34a015f52a9b69760bfe7eabd", func := "given.example/pub-bosquet/laws.FnBeforeOf", spec := "fnBeforeOf", unfollowed := true, recurses := true, apart := false, narrowed := true }
def FnBeforeOfUptoSaid : Prop := fnBeforeOfUptoRow.holds Try.pinned (OpenSpec.upto fnBeforeOfSpec)

/-- 'laws.FnPrepended', WHERE WHAT IT READS IS OF BULK AT MOST 1048576: true; the input reads as it did. -/
def fnPrependedUptoRow : OpenClaim := { program := "ytmhhfljbocbolaa", sum := "20fecdf704bd4ae9d8e813bd5b00459124b8d4b34a015f52a9b69760bfe7eabd", func := "given.example/pub-bosquet/laws.FnPrepended", spec := "fnPrepended", unfollowed := true, recurses := true, apart := false, narrowed := true }
def FnPrependedUptoSaid : Prop := fnPrependedUptoRow.holds Try.pinned (OpenSpec.upto fnPrependedSpec)

/-- 'laws.FnWrapAllOf', WHERE WHAT IT READS IS OF BULK AT MOST 1048576: true; the input reads as it did. -/
def fnWrapAllOfUptoRow : OpenClaim := { program := "ytmhhfljbocbolaa", sum := "20fecdf704bd4ae9d8e813bd5b00459124b8d4b34a015f52a9b69760bfe7eabd", func := "given.example/pub-bosquet/laws.FnWrapAllOf", spec := "fnWrapAllOf", unfollowed := true, recurses := true, apart := false, narrowed := true }
def FnWrapAllOfUptoSaid : Prop := fnWrapAllOfUptoRow.holds Try.pinned (OpenSpec.upto fnWrapAllOfSpec)

/-- 'laws.FnWrappedAll', WHERE WHAT IT READS IS OF BULK AT MOST 1048576: true; the input reads as it did. -/
def fnWrappedAllUptoRow : OpenClaim := { program := "ytmhhfljbocbolaa", sum := "20fecdf704bd4ae9d8e813bd5b00459124b8d4b34a015f52a9b69760bfe7eabd", func := "given.example/pub-bosquet/laws.FnWrappedAll", spec := "fnWrappedAll", unfollowed := true, recurses := true, apart := false, narrowed := true }
def FnWrappedAllUptoSaid : Prop := fnWrappedAllUptoRow.holds Try.pinned (OpenSpec.upto fnWrappedAllSpec)

end Rows
end Go.Proofs.Ytmhhfljbocbolaa
