/-
  No cell of these rows narrows 'for every input' (looked for: loops, veiled, ifaces, maps, wideKeys, modest, calm, conditions, laid).
  DERIVED. THE GIVEN ROWS OF THIS SEAT. 2 by the template 'for every input the law returns true; each argument reads behind the call as it read before'; 0 by the template 'total and deterministic' (their statements: YbulkwpyTotals.lean).
  GIVEN WITH THE SEED: the statements are not yours to turn. If you find one false, say at which input.
  Laid BY PROGRAM, IN A SANDBOX (cutbox-rows.mjs): the forced cells as the released guide's own fill.sh prints them over the translation 99efa88f2b1f40e7… (all of the seat's roots in one cut). By AI agents, Wed Nov 11 2026. No macro, syntax, notation, axiom, sorry.
-/
import Derived.Test.YbulkwpyChecked
import GoSem.Claim
import GoSem.ClaimJoined
import GoSem.ClaimMapViews
import Derived.JoinedTies
import Derived.KernelRfl
namespace Go.Proofs.Ybulkwpy
/- THE CELL 'sum', in the pinned program and in every row, IS THE sha256 OF THE DUMP (.gsa) THAT YbulkwpyProg.lean LOADS. Nothing in Lean hashes anything: it is a label: what it is worth is what the hold of that sum in a sandbox is worth. -/
noncomputable def Yba.pinned : Pinned := { name := "ybulkwpy", sum := "99efa88f2b1f40e7e4919c9dc90bad9128d219187fa366a21d428605a2bb3147", checked := Yba.checked }
namespace Rows
def none {H : Type} : Left H := { results := [], args := [] }

/-- 'probe.LawS1142CRaw': WHATEVER THE INPUT: true; the input reads as it did. -/
def lawS1142CRawSpec : ChangeSpec := { name := "lawS1142CRaw", fn := fun _ => fun
  | [d] => { results := [.lit (.bool true)], args := [d] }
  | _ => none }
def lawS1142CRawRow : OpenClaim := { program := "ybulkwpy", sum := "99efa88f2b1f40e7e4919c9dc90bad9128d219187fa366a21d428605a2bb3147", func := "example.com/prefixlens/prefixlens/probe.LawS1142CRaw", spec := "lawS1142CRaw", apart := false }
def LawS1142CRawSaid : Prop := lawS1142CRawRow.holds Yba.pinned (OpenSpec.ofChange lawS1142CRawSpec)

/-- ITS FALSE NEIGHBOUR: 'it returns false'. Refute it at one input. -/
def lawS1142CRawWrong : ChangeSpec := { name := "lawS1142CRaw", fn := fun _ => fun
  | [d] => { results := [.lit (.bool false)], args := [d] }
  | _ => none }
def LawS1142CRawWrongFalsely : Prop := lawS1142CRawRow.holds Yba.pinned (OpenSpec.ofChange lawS1142CRawWrong)

/-- 'probe.LawS1142CBuilt': WHATEVER THE INPUT: true; the input reads as it did. -/
def lawS1142CBuiltSpec : ChangeSpec := { name := "lawS1142CBuilt", fn := fun _ => fun
  | [d1, d2, d3, d4] => { results := [.lit (.bool true)], args := [d1, d2, d3, d4] }
  | _ => none }
def lawS1142CBuiltRow : OpenClaim := { program := "ybulkwpy", sum := "99efa88f2b1f40e7e4919c9dc90bad9128d219187fa366a21d428605a2bb3147", func := "example.com/prefixlens/prefixlens/probe.LawS1142CBuilt", spec := "lawS1142CBuilt", apart := false }
def LawS1142CBuiltSaid : Prop := lawS1142CBuiltRow.holds Yba.pinned (OpenSpec.ofChange lawS1142CBuiltSpec)

/-- ITS FALSE NEIGHBOUR: 'it returns false'. Refute it at one input. -/
def lawS1142CBuiltWrong : ChangeSpec := { name := "lawS1142CBuilt", fn := fun _ => fun
  | [d1, d2, d3, d4] => { results := [.lit (.bool false)], args := [d1, d2, d3, d4] }
  | _ => none }
def LawS1142CBuiltWrongFalsely : Prop := lawS1142CBuiltRow.holds Yba.pinned (OpenSpec.ofChange lawS1142CBuiltWrong)

end Rows
end Go.Proofs.Ybulkwpy
