/-
  DERIVED. GIVEN WITH THE SEED: THE CARDS: each row of YbulkwqmDoorRows.lean that lists a variable, with what it lists TIED to the program's text (the seventh form; the later family's looks); each row that meets fmt, with fmt's text TOLD by the authors' own Lean function (tested against real Go, not proved from fmt's source: count such statements apart). THE CARD IS WHAT COUNTS. Prove the row's statement (the work); the ties are given (YbulkwqmDoorTie.lean); close each card by the builder's one call (the guide's Derived/Test/ToyasCard.lean, 'card_holds'). Laid BY PROGRAM, IN A SANDBOX (cutbox-door.mjs). By AI agents, Wed Nov 11 2026. No macro, syntax, notation, axiom, sorry.
-/
import Derived.Test.YbulkwqmDoorRows
import GoSem.ClaimSeven
namespace Go.Proofs.YbulkwqmDoor
namespace Rows

/-- THE TIED CARD OF 'consenso.LawS1143CBegin'. -/
def lawS1143CBeginCard : Claim7 := { stood := { row := lawS1143CBeginRow, standIns := [], harness := (true, "2bc1ae2e8e745f9fb4155b5ceef6ff35b98e4ece1a36a8dbb17720f134614ff4"), looks := false }, kinds := [], alts := [], laidByText := true, laidKinds := [.data, .data, .data], laidTests := true, laidLooks := .later }
def LawS1143CBeginCardSaid : Prop := Claim7.holds Ybad.pinned (.plain (OpenSpec.ofChange lawS1143CBeginSpec)) lawS1143CBeginCard

/-- THE TIED CARD OF 'consenso.LawS1143CSender'. -/
def lawS1143CSenderCard : Claim7 := { stood := { row := lawS1143CSenderRow, standIns := [], harness := (true, "2bc1ae2e8e745f9fb4155b5ceef6ff35b98e4ece1a36a8dbb17720f134614ff4"), looks := false }, kinds := [], alts := [], laidByText := true, laidKinds := [.data, .data, .data], laidTests := true, laidLooks := .later }
def LawS1143CSenderCardSaid : Prop := Claim7.holds Ybad.pinned (.plain (OpenSpec.ofChange lawS1143CSenderSpec)) lawS1143CSenderCard
end Rows
end Go.Proofs.YbulkwqmDoor
