/-
  DERIVED. GIVEN WITH THE SEED: THE CARDS: each row of YbulkwqmFmtRows.lean that lists a variable, with what it lists TIED to the program's text (the seventh form; the later family's looks); each row that meets fmt, with fmt's text TOLD by the authors' own Lean function (tested against real Go, not proved from fmt's source: count such statements apart). THE CARD IS WHAT COUNTS. Prove the row's statement (the work); the ties are given (YbulkwqmFmtTie.lean); close each card by the builder's one call (the guide's Derived/Test/ToyasCard.lean, 'card_holds'). Laid BY PROGRAM, IN A SANDBOX (cutbox-door.mjs). By AI agents, Wed Nov 11 2026. No macro, syntax, notation, axiom, sorry.
-/
import Derived.Test.YbulkwqmFmtRows
import GoSem.ClaimSeven
namespace Go.Proofs.YbulkwqmFmt
namespace Rows

/-- THE TOLD AND TIED CARD OF 'cluster.LawS1143BKnock'. -/
def lawS1143BKnockCard : Claim7 := { stood := { row := lawS1143BKnockRow, standIns := [], harness := (true, "f33d91a17f18a8b5228c394101e864fcbc116b05d63afc711a443a1b451aa42e"), looks := true }, told := true, laidByText := true, laidKinds := [.sentinel, .sentinel], laidTests := true, laidLooks := .later, goes := false }
def LawS1143BKnockToldSaid : Prop := Claim7.holds Ybaf.pinned (.plain (OpenSpec.ofChange lawS1143BKnockSpec)) lawS1143BKnockCard
/-- ITS FALSE NEIGHBOUR. Refute it at one input. -/
def LawS1143BKnockToldWrongFalsely : Prop := Claim7.holds Ybaf.pinned (.plain (OpenSpec.ofChange lawS1143BKnockWrong)) lawS1143BKnockCard
end Rows
end Go.Proofs.YbulkwqmFmt
