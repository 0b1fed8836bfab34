/-
  NARROWER THAN 'FOR EVERY INPUT', by the rows' own cells (each row's printed sentence says how): LawS1143BKnock: ifaces, laid.
  DERIVED. THE GIVEN ROWS OF THIS SEAT. 1 by the template 'for every input the law returns true; each argument reads behind the call as it read before'; 0 by the template 'total and deterministic' (their statements: YbulkwqmFmtTotals.lean).
  GIVEN WITH THE SEED: the statements are not yours to turn. If you find one false, say at which input.
  Laid BY PROGRAM, IN A SANDBOX (cutbox-rows.mjs): the forced cells as the released guide's own fill.sh prints them over the translation 6acb388a7a233647… (all of the seat's roots in one cut). By AI agents, Wed Nov 11 2026. No macro, syntax, notation, axiom, sorry.
-/
import Derived.Test.YbulkwqmFmtChecked
import GoSem.Claim
import GoSem.ClaimJoined
import GoSem.ClaimMapViews
import Derived.JoinedTies
import Derived.KernelRfl
namespace Go.Proofs.YbulkwqmFmt
/- THE CELL 'sum', in the pinned program and in every row, IS THE sha256 OF THE DUMP (.gsa) THAT YbulkwqmFmtProg.lean LOADS. Nothing in Lean hashes anything: it is a label: what it is worth is what the hold of that sum in a sandbox is worth. -/
noncomputable def Ybaf.pinned : Pinned := { name := "ybulkwqmfmt", sum := "6acb388a7a23364771830d4cdab31707001535bb12599c77ffdc0f8406d0b4d3", checked := Ybaf.checked }
namespace Rows
def none {H : Type} : Left H := { results := [], args := [] }

/- WHAT THE LISTED PACKAGE-LEVEL VARIABLES READ AS WHEN THE CALL BEGINS. Each datum BY PROGRAM (the guide's laid-datum.mjs) off the statement by which the dump's own 'gosem.cut.vars' lays the variable. In a bare row this is a premise. The card (YbulkwqmFmtCards.lean) ties it to the program's text. -/
def laid_example_com_consenso_consenso_cluster_errRefused {H : Type} : DataW H := .iface "*errors.errorString" (.ptr (.agg [.lit (.string [114, 101, 102, 117, 115, 101, 100])]))
def laid_example_com_consenso_consenso_cluster_errKnocked {H : Type} : DataW H := .iface "*errors.errorString" (.ptr (.agg [.lit (.string [107, 110, 111, 99, 107, 101, 100])]))

/-- 'cluster.LawS1143BKnock': WHATEVER THE INPUT: true; the input reads as it did. -/
def lawS1143BKnockSpec : ChangeSpec := { name := "lawS1143BKnock", vars := ["example.com/consenso/consenso/cluster.errKnocked", "example.com/consenso/consenso/cluster.errRefused"], fn := fun _ => fun
  | [d1, d2, d3, d4, g1, g2] => { results := [.lit (.bool true)], args := [d1, d2, d3, d4], vars := [g1, g2] }
  | _ => none }
def lawS1143BKnockRow : OpenClaim := { program := "ybulkwqmfmt", sum := "6acb388a7a23364771830d4cdab31707001535bb12599c77ffdc0f8406d0b4d3", func := "example.com/consenso/consenso/cluster.LawS1143BKnock", spec := "lawS1143BKnock", stops := ["fmt.errorf"], inPlace := ["fmt.errorf", "internal/reflectlite.TypeOf"], unfollowed := true, recurses := true, named := ["example.com/consenso/consenso/cluster.errKnocked", "example.com/consenso/consenso/cluster.errRefused"], ifaces := true, apart := false, laid := [("example.com/consenso/consenso/cluster.errRefused", laid_example_com_consenso_consenso_cluster_errRefused), ("example.com/consenso/consenso/cluster.errKnocked", laid_example_com_consenso_consenso_cluster_errKnocked)] }
/-- NO THEOREM (fmt's text is open here; it may be false): for the released tool's asking of the row's closed facts alone. THE STATEMENT IS 'LawS1143BKnockToldSaid' (YbulkwqmFmtCards.lean). -/
def LawS1143BKnockFormAsk : Prop := lawS1143BKnockRow.holds Ybaf.pinned (OpenSpec.ofChange lawS1143BKnockSpec)

/-- ITS FALSE NEIGHBOUR: 'it returns false'. Refute it at one input. -/
def lawS1143BKnockWrong : ChangeSpec := { name := "lawS1143BKnock", vars := ["example.com/consenso/consenso/cluster.errKnocked", "example.com/consenso/consenso/cluster.errRefused"], fn := fun _ => fun
  | [d1, d2, d3, d4, g1, g2] => { results := [.lit (.bool false)], args := [d1, d2, d3, d4], vars := [g1, g2] }
  | _ => none }
def LawS1143BKnockWrongFormAsk : Prop := lawS1143BKnockRow.holds Ybaf.pinned (OpenSpec.ofChange lawS1143BKnockWrong)

end Rows
end Go.Proofs.YbulkwqmFmt
