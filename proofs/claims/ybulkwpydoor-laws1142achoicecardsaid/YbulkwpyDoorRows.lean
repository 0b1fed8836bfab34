/-
  NARROWER THAN 'FOR EVERY INPUT', by the rows' own cells (each row's printed sentence says how): LawS1142AChoice: laid.
  DERIVED. THE GIVEN ROWS OF THIS SEAT. 1 by the template 'for every input the law returns true; each argument reads behind the call as it read before'; 0 by the template 'total and deterministic' (their statements: YbulkwpyDoorTotals.lean).
  GIVEN WITH THE SEED: the statements are not yours to turn. If you find one false, say at which input.
  Laid BY PROGRAM, IN A SANDBOX (cutbox-rows.mjs): the forced cells as the released guide's own fill.sh prints them over the translation d9f24ca3e102b2d3… (all of the seat's roots in one cut). By AI agents, Wed Nov 11 2026. No macro, syntax, notation, axiom, sorry.
-/
import Derived.Test.YbulkwpyDoorChecked
import GoSem.Claim
import GoSem.ClaimJoined
import GoSem.ClaimMapViews
import Derived.JoinedTies
import Derived.KernelRfl
namespace Go.Proofs.YbulkwpyDoor
/- THE CELL 'sum', in the pinned program and in every row, IS THE sha256 OF THE DUMP (.gsa) THAT YbulkwpyDoorProg.lean LOADS. Nothing in Lean hashes anything: it is a label: what it is worth is what the hold of that sum in a sandbox is worth. -/
noncomputable def Ybad.pinned : Pinned := { name := "ybulkwpydoor", sum := "d9f24ca3e102b2d32d7d5129ca7b1dfea9c4767476f77998b950f217c776ae37", checked := Ybad.checked }
namespace Rows
def none {H : Type} : Left H := { results := [], args := [] }

/- WHAT THE LISTED PACKAGE-LEVEL VARIABLES READ AS WHEN THE CALL BEGINS. Each datum BY PROGRAM (the guide's laid-datum.mjs) off the statement by which the dump's own 'gosem.cut.vars' lays the variable. In a bare row this is a premise. The card (YbulkwpyDoorCards.lean) ties it to the program's text. -/
def laid_net_netip_z4 {H : Type} : DataW H := .agg [.ptr (.agg [.lit (.bool false), .lit (.string [])])]
def laid_net_netip_z6noz {H : Type} : DataW H := .agg [.ptr (.agg [.lit (.bool true), .lit (.string [])])]
def laid_net_netip_z0 {H : Type} : DataW H := .agg [.nil]

/-- 'view.LawS1142AChoice': WHATEVER THE INPUT: true; the input reads as it did. -/
def lawS1142AChoiceSpec : ChangeSpec := { name := "lawS1142AChoice", fn := fun _ => fun
  | [d1, d2, d3, d4, d5, d6, d7, d8, d9] => { results := [.lit (.bool true)], args := [d1, d2, d3, d4, d5, d6, d7, d8, d9] }
  | _ => none }
def lawS1142AChoiceRow : OpenClaim := { program := "ybulkwpydoor", sum := "d9f24ca3e102b2d32d7d5129ca7b1dfea9c4767476f77998b950f217c776ae37", func := "example.com/prefixlens/prefixlens/view.LawS1142AChoice", spec := "lawS1142AChoice", named := ["net/netip.z4", "net/netip.z6noz", "net/netip.z0"], apart := false, laid := [("net/netip.z4", laid_net_netip_z4), ("net/netip.z6noz", laid_net_netip_z6noz), ("net/netip.z0", laid_net_netip_z0)] }
def LawS1142AChoiceSaid : Prop := lawS1142AChoiceRow.holds Ybad.pinned (OpenSpec.ofChange lawS1142AChoiceSpec)

/-- ITS FALSE NEIGHBOUR: 'it returns false'. Refute it at one input. -/
def lawS1142AChoiceWrong : ChangeSpec := { name := "lawS1142AChoice", fn := fun _ => fun
  | [d1, d2, d3, d4, d5, d6, d7, d8, d9] => { results := [.lit (.bool false)], args := [d1, d2, d3, d4, d5, d6, d7, d8, d9] }
  | _ => none }
def LawS1142AChoiceWrongFalsely : Prop := lawS1142AChoiceRow.holds Ybad.pinned (OpenSpec.ofChange lawS1142AChoiceWrong)

end Rows
end Go.Proofs.YbulkwpyDoor
