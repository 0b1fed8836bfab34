import Derived.Test.YbulkwpyDoorRows
import Derived.WalkKit
import Derived.LaidEqlPtr
namespace Go.Proofs.YbulkwpyDoor
open Go.RowKit

theorem info78 : (Ybad.prog.info? 78).map (·.size) = some 2 := by kernel_rfl
/-- A handle's pointer against itself, nil or not. -/
theorem eq28_same (d : Nat) (z : Option Addr) (w : World) : (Op.equalIn (d + 1) 28 (.pointer z) (.pointer z)).run Ybad.prog w = .ok true w := by
  obtain ⟨j, hj, _⟩ := Option.map_eq_some_iff.1 info78
  cases z with
  | none => simp [Op.equalIn, run_underlying Ybad.underlying28]
  | some a => simp [Op.equalIn, run_underlying Ybad.underlying28, sizeOf, typeInfo, hj, run_sameAddr_same]
theorem eq28_nil (d : Nat) (a : Addr) (w : World) : (Op.equalIn (d + 1) 28 (.pointer (some a)) (.pointer none)).run Ybad.prog w = .ok false w := by
  simp [Op.equalIn, run_underlying Ybad.underlying28]
end Go.Proofs.YbulkwpyDoor
