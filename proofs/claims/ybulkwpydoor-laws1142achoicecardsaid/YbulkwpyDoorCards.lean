/-
  DERIVED. GIVEN WITH THE SEED: THE CARDS: each row of YbulkwpyDoorRows.lean that lists a variable, with what it lists TIED to the program's text (the seventh form; the later family's looks); each row that meets fmt, with fmt's text TOLD by the authors' own Lean function (tested against real Go, not proved from fmt's source: count such statements apart). THE CARD IS WHAT COUNTS. Prove the row's statement (the work); the ties are given (YbulkwpyDoorTie.lean); close each card by the builder's one call (the guide's Derived/Test/ToyasCard.lean, 'card_holds'). Laid BY PROGRAM, IN A SANDBOX (cutbox-door.mjs). By AI agents, Wed Nov 11 2026. No macro, syntax, notation, axiom, sorry.
-/
import Derived.Test.YbulkwpyDoorRows
import GoSem.ClaimSeven
namespace Go.Proofs.YbulkwpyDoor
namespace Rows

/-- THE TIED CARD OF 'view.LawS1142AChoice'. -/
def lawS1142AChoiceCard : Claim7 := { stood := { row := lawS1142AChoiceRow, standIns := [], harness := (true, "adc9fc24f8b68c7526d64f254ac9ef96b003dace36df9525d758dc7e4e61b7ba"), looks := false }, kinds := [], alts := [], laidByText := true, laidKinds := [.called, .called, .zero], laidTests := true, laidLooks := .later }
def LawS1142AChoiceCardSaid : Prop := Claim7.holds Ybad.pinned (.plain (OpenSpec.ofChange lawS1142AChoiceSpec)) lawS1142AChoiceCard
end Rows
end Go.Proofs.YbulkwpyDoor
