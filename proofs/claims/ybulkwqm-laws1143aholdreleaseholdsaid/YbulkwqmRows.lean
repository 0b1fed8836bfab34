/-
  No cell of these rows narrows 'for every input' (looked for: loops, veiled, ifaces, maps, wideKeys, modest, calm, conditions, laid).
  DERIVED. THE GIVEN ROWS OF THIS SEAT. 2 by the template 'for every input the law returns true; each argument reads behind the call as it read before'; 0 by the template 'total and deterministic' (their statements: YbulkwqmTotals.lean).
  GIVEN WITH THE SEED: the statements are not yours to turn. If you find one false, say at which input.
  Laid BY PROGRAM, IN A SANDBOX (cutbox-rows.mjs): the forced cells as the released guide's own fill.sh prints them over the translation ca27f718035416f1… (all of the seat's roots in one cut). By AI agents, Wed Nov 11 2026. No macro, syntax, notation, axiom, sorry.
-/
import Derived.Test.YbulkwqmChecked
import GoSem.Claim
import GoSem.ClaimJoined
import GoSem.ClaimMapViews
import Derived.JoinedTies
import Derived.KernelRfl
namespace Go.Proofs.Ybulkwqm
/- THE CELL 'sum', in the pinned program and in every row, IS THE sha256 OF THE DUMP (.gsa) THAT YbulkwqmProg.lean LOADS. Nothing in Lean hashes anything: it is a label: what it is worth is what the hold of that sum in a sandbox is worth. -/
noncomputable def Yba.pinned : Pinned := { name := "ybulkwqm", sum := "ca27f718035416f1251a718967d2babdec87faa4f7e12625b0603a28ffbf7324", checked := Yba.checked }
namespace Rows
def none {H : Type} : Left H := { results := [], args := [] }

/-- 'benor.LawS1143AClearsOnlyItsSlot': WHATEVER THE INPUT: true; the input reads as it did. -/
def lawS1143AClearsOnlyItsSlotSpec : ChangeSpec := { name := "lawS1143AClearsOnlyItsSlot", fn := fun _ => fun
  | [d1, d2, d3, d4, d5] => { results := [.lit (.bool true)], args := [d1, d2, d3, d4, d5] }
  | _ => none }
def lawS1143AClearsOnlyItsSlotRow : OpenClaim := { program := "ybulkwqm", sum := "ca27f718035416f1251a718967d2babdec87faa4f7e12625b0603a28ffbf7324", func := "example.com/consenso/consenso/benor.LawS1143AClearsOnlyItsSlot", spec := "lawS1143AClearsOnlyItsSlot", apart := false }
def LawS1143AClearsOnlyItsSlotSaid : Prop := lawS1143AClearsOnlyItsSlotRow.holds Yba.pinned (OpenSpec.ofChange lawS1143AClearsOnlyItsSlotSpec)

/-- ITS FALSE NEIGHBOUR: 'it returns false'. Refute it at one input. -/
def lawS1143AClearsOnlyItsSlotWrong : ChangeSpec := { name := "lawS1143AClearsOnlyItsSlot", fn := fun _ => fun
  | [d1, d2, d3, d4, d5] => { results := [.lit (.bool false)], args := [d1, d2, d3, d4, d5] }
  | _ => none }
def LawS1143AClearsOnlyItsSlotWrongFalsely : Prop := lawS1143AClearsOnlyItsSlotRow.holds Yba.pinned (OpenSpec.ofChange lawS1143AClearsOnlyItsSlotWrong)

/-- 'benor.LawS1143AHoldReleaseHold': WHATEVER THE INPUT: true; the input reads as it did. -/
def lawS1143AHoldReleaseHoldSpec : ChangeSpec := { name := "lawS1143AHoldReleaseHold", fn := fun _ => fun
  | [d1, d2, d3, d4, d5] => { results := [.lit (.bool true)], args := [d1, d2, d3, d4, d5] }
  | _ => none }
def lawS1143AHoldReleaseHoldRow : OpenClaim := { program := "ybulkwqm", sum := "ca27f718035416f1251a718967d2babdec87faa4f7e12625b0603a28ffbf7324", func := "example.com/consenso/consenso/benor.LawS1143AHoldReleaseHold", spec := "lawS1143AHoldReleaseHold", apart := false }
def LawS1143AHoldReleaseHoldSaid : Prop := lawS1143AHoldReleaseHoldRow.holds Yba.pinned (OpenSpec.ofChange lawS1143AHoldReleaseHoldSpec)

/-- ITS FALSE NEIGHBOUR: 'it returns false'. Refute it at one input. -/
def lawS1143AHoldReleaseHoldWrong : ChangeSpec := { name := "lawS1143AHoldReleaseHold", fn := fun _ => fun
  | [d1, d2, d3, d4, d5] => { results := [.lit (.bool false)], args := [d1, d2, d3, d4, d5] }
  | _ => none }
def LawS1143AHoldReleaseHoldWrongFalsely : Prop := lawS1143AHoldReleaseHoldRow.holds Yba.pinned (OpenSpec.ofChange lawS1143AHoldReleaseHoldWrong)

end Rows
end Go.Proofs.Ybulkwqm
