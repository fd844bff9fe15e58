/-
  DERIVED. GIVEN WITH THE SEED: THE CARDS: each row of YtkdfdfhejibopaaGreatDoorRows.lean that lists a variable, with what it lists TIED to the program's text (the seventh form; the later family's looks); each row that meets fmt, with fmt's text TOLD by the authors' own Lean function (tested against real Go, not proved from fmt's source: count such statements apart). THE CARD IS WHAT COUNTS. Prove the row's statement (the work); the ties are given (YtkdfdfhejibopaaGreatDoorTie.lean); close each card by the builder's one call (the guide's Derived/Test/ToyasCard.lean, 'card_holds'). Laid BY PROGRAM, IN A SANDBOX (cutbox-door.mjs). By AI agents, Wed Nov 11 2026. No macro, syntax, notation, axiom, sorry.
-/
import Derived.Test.YtkdfdfhejibopaaGreatDoorRows
import GoSem.ClaimSeven
namespace Go.Proofs.YtkdfdfhejibopaaGreatDoor
namespace Rows

/-- THE TIED CARD OF 'laws.FnReadClass'. -/
def fnReadClassCard : Claim7 := { stood := { row := fnReadClassRow, standIns := [], harness := (true, "604e883ab355630ef4a90fef2e6edf00873a489fc888274ccf2b15e3f777290f"), looks := true }, kinds := [], alts := [], laidByText := true, laidKinds := [.data, .data, .data, .sentinel, .sentinel], laidTests := true, laidLooks := .later }
def FnReadClassCardSaid : Prop := Claim7.holds Tryz.pinned (.plain (OpenSpec.ofChange fnReadClassSpec)) fnReadClassCard

/-- THE SECOND FORM's CARD OF 'laws.FnReadClass'. -/
def fnReadClassUptoCard : Claim7 := { stood := { row := fnReadClassUptoRow, standIns := [], harness := (true, "604e883ab355630ef4a90fef2e6edf00873a489fc888274ccf2b15e3f777290f"), looks := true }, kinds := [], alts := [], laidByText := true, laidKinds := [.data, .data, .data, .sentinel, .sentinel], laidTests := true, laidLooks := .later }
def FnReadClassUptoCardSaid : Prop := Claim7.holds Tryz.pinned (.plain (OpenSpec.upto fnReadClassSpec)) fnReadClassUptoCard
end Rows
end Go.Proofs.YtkdfdfhejibopaaGreatDoor
