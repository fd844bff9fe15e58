/-
  DERIVED. GIVEN WITH THE SEED: THE CARDS: each row of YtnibpdmbccfgoaaGreatDoorRows.lean that lists a variable, with what it lists TIED to the program's text (the seventh form; the later family's looks); each row that meets fmt, with fmt's text TOLD by the authors' own Lean function (tested against real Go, not proved from fmt's source: count such statements apart). THE CARD IS WHAT COUNTS. Prove the row's statement (the work); the ties are given (YtnibpdmbccfgoaaGreatDoorTie.lean); close each card by the builder's one call (the guide's Derived/Test/ToyasCard.lean, 'card_holds'). Laid BY PROGRAM, IN A SANDBOX (cutbox-door.mjs). By AI agents, Wed Nov 11 2026. No macro, syntax, notation, axiom, sorry.
-/
import Derived.Test.YtnibpdmbccfgoaaGreatDoorRows
import GoSem.ClaimSeven
namespace Go.Proofs.YtnibpdmbccfgoaaGreatDoor
namespace Rows

/-- THE TIED CARD OF 'laws.FnSpecificWhole'. -/
def fnSpecificWholeCard : Claim7 := { stood := { row := fnSpecificWholeRow, standIns := [], harness := (true, "0d2d9d4e697cdcf6ee9ca624ee584ef3f5e4d0291fdc04aa41c49d7f9143706f"), looks := true }, kinds := [], alts := [], laidByText := true, laidKinds := [.data, .data, .data, .sentinel, .sentinel, .sentinel, .sentinel, .sentinel], laidTests := true, laidLooks := .later }
def FnSpecificWholeCardSaid : Prop := Claim7.holds Tryz.pinned (.plain (OpenSpec.ofChange fnSpecificWholeSpec)) fnSpecificWholeCard

/-- THE SECOND FORM's CARD OF 'laws.FnSpecificWhole'. -/
def fnSpecificWholeUptoCard : Claim7 := { stood := { row := fnSpecificWholeUptoRow, standIns := [], harness := (true, "0d2d9d4e697cdcf6ee9ca624ee584ef3f5e4d0291fdc04aa41c49d7f9143706f"), looks := true }, kinds := [], alts := [], laidByText := true, laidKinds := [.data, .data, .data, .sentinel, .sentinel, .sentinel, .sentinel, .sentinel], laidTests := true, laidLooks := .later }
def FnSpecificWholeUptoCardSaid : Prop := Claim7.holds Tryz.pinned (.plain (OpenSpec.upto fnSpecificWholeSpec)) fnSpecificWholeUptoCard
end Rows
end Go.Proofs.YtnibpdmbccfgoaaGreatDoor
