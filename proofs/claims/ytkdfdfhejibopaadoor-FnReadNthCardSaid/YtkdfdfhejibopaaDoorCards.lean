/-
  DERIVED. GIVEN WITH THE SEED: THE CARDS: each row of YtkdfdfhejibopaaDoorRows.lean that lists a variable, with what it lists TIED to the program's text (the seventh form; the later family's looks); each row that meets fmt, with fmt's text TOLD by the authors' own Lean function (tested against real Go, not proved from fmt's source: count such statements apart). THE CARD IS WHAT COUNTS. Prove the row's statement (the work); the ties are given (YtkdfdfhejibopaaDoorTie.lean); close each card by the builder's one call (the guide's Derived/Test/ToyasCard.lean, 'card_holds'). Laid BY PROGRAM, IN A SANDBOX (cutbox-door.mjs). By AI agents, Wed Nov 11 2026. No macro, syntax, notation, axiom, sorry.
-/
import Derived.Test.YtkdfdfhejibopaaDoorRows
import GoSem.ClaimSeven
namespace Go.Proofs.YtkdfdfhejibopaaDoor
namespace Rows

/-- THE TIED CARD OF 'laws.FnReadEscape'. -/
def fnReadEscapeCard : Claim7 := { stood := { row := fnReadEscapeRow, standIns := [], harness := (true, "69b5ad1cd16114999af9a2ffa8e1dd49b33715e6d8f05332cc39957d05360c8b"), looks := true }, kinds := [], alts := [], laidByText := true, laidKinds := [.data, .data, .data, .sentinel, .sentinel], laidTests := true, laidLooks := .later }
def FnReadEscapeCardSaid : Prop := Claim7.holds Tryd.pinned (.plain (OpenSpec.ofChange fnReadEscapeSpec)) fnReadEscapeCard

/-- THE TIED CARD OF 'laws.FnStringBack'. -/
def fnStringBackCard : Claim7 := { stood := { row := fnStringBackRow, standIns := [], harness := (true, "69b5ad1cd16114999af9a2ffa8e1dd49b33715e6d8f05332cc39957d05360c8b"), looks := true }, kinds := [], alts := [], laidByText := true, laidKinds := [.data, .data, .data, .sentinel, .sentinel], laidTests := true, laidLooks := .later }
def FnStringBackCardSaid : Prop := Claim7.holds Tryd.pinned (.plain (OpenSpec.ofChange fnStringBackSpec)) fnStringBackCard

/-- THE TIED CARD OF 'laws.FnReadNth'. -/
def fnReadNthCard : Claim7 := { stood := { row := fnReadNthRow, standIns := [], harness := (true, "69b5ad1cd16114999af9a2ffa8e1dd49b33715e6d8f05332cc39957d05360c8b"), looks := true }, kinds := [], alts := [], laidByText := true, laidKinds := [.data, .data, .data, .sentinel, .sentinel], laidTests := true, laidLooks := .later }
def FnReadNthCardSaid : Prop := Claim7.holds Tryd.pinned (.plain (OpenSpec.ofChange fnReadNthSpec)) fnReadNthCard

/-- THE SECOND FORM's CARD OF 'laws.FnReadEscape'. -/
def fnReadEscapeUptoCard : Claim7 := { stood := { row := fnReadEscapeUptoRow, standIns := [], harness := (true, "69b5ad1cd16114999af9a2ffa8e1dd49b33715e6d8f05332cc39957d05360c8b"), looks := true }, kinds := [], alts := [], laidByText := true, laidKinds := [.data, .data, .data, .sentinel, .sentinel], laidTests := true, laidLooks := .later }
def FnReadEscapeUptoCardSaid : Prop := Claim7.holds Tryd.pinned (.plain (OpenSpec.upto fnReadEscapeSpec)) fnReadEscapeUptoCard

/-- THE SECOND FORM's CARD OF 'laws.FnStringBack'. -/
def fnStringBackUptoCard : Claim7 := { stood := { row := fnStringBackUptoRow, standIns := [], harness := (true, "69b5ad1cd16114999af9a2ffa8e1dd49b33715e6d8f05332cc39957d05360c8b"), looks := true }, kinds := [], alts := [], laidByText := true, laidKinds := [.data, .data, .data, .sentinel, .sentinel], laidTests := true, laidLooks := .later }
def FnStringBackUptoCardSaid : Prop := Claim7.holds Tryd.pinned (.plain (OpenSpec.upto fnStringBackSpec)) fnStringBackUptoCard

/-- THE SECOND FORM's CARD OF 'laws.FnReadNth'. -/
def fnReadNthUptoCard : Claim7 := { stood := { row := fnReadNthUptoRow, standIns := [], harness := (true, "69b5ad1cd16114999af9a2ffa8e1dd49b33715e6d8f05332cc39957d05360c8b"), looks := true }, kinds := [], alts := [], laidByText := true, laidKinds := [.data, .data, .data, .sentinel, .sentinel], laidTests := true, laidLooks := .later }
def FnReadNthUptoCardSaid : Prop := Claim7.holds Tryd.pinned (.plain (OpenSpec.upto fnReadNthSpec)) fnReadNthUptoCard
end Rows
end Go.Proofs.YtkdfdfhejibopaaDoor
