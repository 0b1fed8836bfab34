import Derived.Test.YbulkwqmDoorRows
import Derived.Test.YbulkwqmDoorTie
import Derived.Test.YbulkwqmDoorCards
import Derived.Test.YbulkwqmDoorBits
import Derived.ProofKit
import Derived.LaidMore
import Derived.OpenShut
import Derived.Stop.Joined
import Derived.Stop.LaidErr
import Derived.SevenTiedAt
import Derived.Carry
import Derived.Lib.SmallJoins
import Derived.Lib.LaidTab
import Derived.ChangeSlices
namespace Go.Proofs.YbulkwqmDoor
open Go.ChangeShapes Go.WideShapes Go.ChangeAt Go.RowKit Go.Lib
set_option linter.unusedVariables false

theorem own : ownKnob Ybad.prog.godebug = none := by kernel_rfl
theorem laidOut : laidOutB Ybad.prog = true := by kernel_rfl
theorem gP : Ybad.prog.globalNamed (Rows.lawS1143CBeginRow.named.getD 0 default) = some 0 := by kernel_rfl
theorem gPT : (Ybad.prog.globals[0]?).map (·.type) = some 51 := by kernel_rfl
theorem cells5 : Ybad.prog.cellsOf 5 = 1 := by kernel_rfl

def litVal : DataW Unit → Value
  | .lit (.int k n) => .int k n
  | _ => .bool false
def tabCells : DataW Unit → Array Value
  | .agg l => (l.map litVal).toArray
  | _ => #[]
def put (d : DataW Unit) : Obj → Obj
  | .cells _ t frozen => .cells (tabCells d) t frozen
  | o => o
/-- A world in which the three tables are as their initialisers lay them. -/
def laidW (w0 : World) : World :=
  { w0 with heap := ((w0.heap.modify 0 (put Rows.laid_internal_strconv_uint64pow10)).modify 1 (put Rows.laid_math_bits_deBruijn32tab)).modify 2 (put Rows.laid_math_bits_deBruijn64tab) }
theorem laidW_met (os : Os) (args : Array Value) : laidMetH Ybad.prog Rows.lawS1143CBeginRow.laid ((laidW (World.holding Ybad.prog os ⟨#[], #[], []⟩)).forCall (fun _ _ => 0) ⟨#[], args, []⟩).memory :=
  laidMetH_of_parts3 (fuel := 8) (laidMet_of_run' 8 (by kernel_rfl) (by kernel_rfl)) (by kernel_rfl) (by kernel_rfl)
theorem tab_of_laid {W : World} (h : laidMetH Ybad.prog Rows.lawS1143CBeginRow.laid W) : TabBelow Ybad.prog W.heap.size W (Rows.lawS1143CBeginRow.named.getD 0 default) .u64 pow10Tab := by
  rw [MakeChecks.laidMetH_plain _ _ _ (by kernel_rfl)] at h
  exact tabBelow_of_tabIs (tabIs_of_head gP gPT Ybad.underlying51 Ybad.underlying40 (by kernel_rfl) (by kernel_rfl) h.tail.tail)

/-- A []byte among the arguments, opened. -/
theorem src_of {H : Type} {enc : TypeId × Value → H} {W : World} {v : Value} {d : DataW H} {p : List MemPlace} (hv : ∃ a n c, v = .slice a n c) (h : DataW.Trod enc Ybad.prog W 0 (fun _ => true) true 22 v d p) :
    ∃ ao c xs, v = .slice ao xs.length c ∧ Src (.slice ao xs.length c) xs W ∧ Bytes xs ∧ xs.length ≤ 9223372036854775807 := by
  obtain ⟨a, n, c, rfl⟩ := hv
  obtain ⟨fuel, hf⟩ := h
  rcases open_ints Ybad.underlying22 Ybad.underlying5 cells5 hf with ⟨hc, _⟩ | ⟨x, len, cap, zs, hc, _, hl, hm, hzl, _, hx, _⟩
  · simp only [Value.cells, List.cons.injEq, Value.slice.injEq, and_true] at hc
    obtain ⟨rfl, rfl, rfl⟩ := hc
    exact ⟨none, 0, [], rfl, ⟨by simp, .inl ⟨rfl, rfl⟩⟩, ⟨[], rfl⟩, by simp⟩
  · simp only [Value.cells, List.cons.injEq, Value.slice.injEq, and_true] at hc
    obtain ⟨rfl, rfl, rfl⟩ := hc
    simp only [if_true] at hzl
    have hlen : ((zs.take n).map (Value.int .u8)).length = n := by simp; omega
    refine ⟨some x, c, (zs.take n).map (Value.int .u8), by rw [hlen], ⟨?_, .inr ⟨x, c, rfl, ?_⟩⟩, ⟨_, rfl⟩, ?_⟩
    · intro u hu
      obtain ⟨_, _, rfl⟩ := List.mem_map.1 hu
      rfl
    · intro j u hj
      obtain ⟨hj1, hj2⟩ := List.getElem?_eq_some_iff.1 hj
      rw [hlen] at hj1
      rw [hx j (by omega), ← hj2]
      simp [List.getElem?_eq_getElem (show j < zs.length by omega)]
    · rw [hlen]
      unfold maxLen at hm
      omega
end Go.Proofs.YbulkwqmDoor
