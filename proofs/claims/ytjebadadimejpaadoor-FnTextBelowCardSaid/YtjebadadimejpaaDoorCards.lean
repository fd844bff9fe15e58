/-
  DERIVED. GIVEN WITH THE SEED: THE CARDS: each row of YtjebadadimejpaaDoorRows.lean that lists a variable, with what it lists TIED to the program's text (the seventh form; the later family's looks); each row that meets fmt, with fmt's text TOLD by the authors' own Lean function (tested against real Go, not proved from fmt's source: count such statements apart). THE CARD IS WHAT COUNTS. Prove the row's statement (the work); the ties are given (YtjebadadimejpaaDoorTie.lean); close each card by the builder's one call (the guide's Derived/Test/ToyasCard.lean, 'card_holds'). Laid BY PROGRAM, IN A SANDBOX (cutbox-door.mjs). By AI agents, Wed Nov 11 2026. No macro, syntax, notation, axiom, sorry.
-/
import Derived.Test.YtjebadadimejpaaDoorRows
import GoSem.ClaimSeven
namespace Go.Proofs.YtjebadadimejpaaDoor
namespace Rows

/-- THE TIED CARD OF 'laws.FnTextBelow'. -/
def fnTextBelowCard : Claim7 := { stood := { row := fnTextBelowRow, standIns := [], harness := (true, "c8598ad9236d048d65e76f28ba8cf447803c60107b744bf1381d7f2d7a09e1cf"), looks := false }, kinds := [], alts := [], laidByText := true, laidKinds := [.sentinel], laidTests := true, laidLooks := .later }
def FnTextBelowCardSaid : Prop := Claim7.holds Tryd.pinned (.plain (OpenSpec.ofChange fnTextBelowSpec)) fnTextBelowCard

/-- THE SECOND FORM's CARD OF 'laws.FnTextBelow'. -/
def fnTextBelowUptoCard : Claim7 := { stood := { row := fnTextBelowUptoRow, standIns := [], harness := (true, "c8598ad9236d048d65e76f28ba8cf447803c60107b744bf1381d7f2d7a09e1cf"), looks := false }, kinds := [], alts := [], laidByText := true, laidKinds := [.sentinel], laidTests := true, laidLooks := .later }
def FnTextBelowUptoCardSaid : Prop := Claim7.holds Tryd.pinned (.plain (OpenSpec.upto fnTextBelowSpec)) fnTextBelowUptoCard
end Rows
end Go.Proofs.YtjebadadimejpaaDoor
