/-
  DERIVED. GIVEN WITH THE SEED: THE CARDS: each row of YbulkaczgDoorRows.lean that lists a variable, with what it lists TIED to the program's text (the seventh form; the later family's looks); each row that meets fmt, with fmt's text TOLD by the authors' own Lean function (tested against real Go, not proved from fmt's source: count such statements apart). THE CARD IS WHAT COUNTS. Prove the row's statement (the work); the ties are given (YbulkaczgDoorTie.lean); close each card by the builder's one call (the guide's Derived/Test/ToyasCard.lean, 'card_holds'). Laid BY PROGRAM, IN A SANDBOX (cutbox-door.mjs). By AI agents, Wed Nov 11 2026. No macro, syntax, notation, axiom, sorry.
-/
import Derived.Test.YbulkaczgDoorRows
import GoSem.ClaimSeven
namespace Go.Proofs.YbulkaczgDoor
namespace Rows

/-- THE TIED CARD OF 'relay.LawS1449AText'. -/
def lawS1449ATextCard : Claim7 := { stood := { row := lawS1449ATextRow, standIns := [], harness := (true, "a56a0de2a8b05d62a7b4297cedeaff14ffe75ee84e06cf9e600632efc6b1996f"), looks := false }, kinds := [], alts := [], laidByText := true, laidKinds := [.data, .data, .data], laidTests := true, laidLooks := .later }
def LawS1449ATextCardSaid : Prop := Claim7.holds Ybad.pinned (.plain (OpenSpec.ofChange lawS1449ATextSpec)) lawS1449ATextCard

/-- THE TIED CARD OF 'relay.LawS1449AEmptyLines'. -/
def lawS1449AEmptyLinesCard : Claim7 := { stood := { row := lawS1449AEmptyLinesRow, standIns := [], harness := (true, "a56a0de2a8b05d62a7b4297cedeaff14ffe75ee84e06cf9e600632efc6b1996f"), looks := false }, kinds := [], alts := [], laidByText := true, laidKinds := [.data, .data, .data], laidTests := true, laidLooks := .later }
def LawS1449AEmptyLinesCardSaid : Prop := Claim7.holds Ybad.pinned (.plain (OpenSpec.ofChange lawS1449AEmptyLinesSpec)) lawS1449AEmptyLinesCard
end Rows
end Go.Proofs.YbulkaczgDoor
