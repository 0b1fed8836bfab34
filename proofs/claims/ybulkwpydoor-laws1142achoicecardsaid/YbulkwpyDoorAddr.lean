import Derived.Test.YbulkwpyDoorRows
import Derived.WalkKit
import Derived.ProofKit
import Derived.Below
import Derived.WalkSpells
import Derived.WalkLawsBesides
import Derived.Deep.QuietTactic
import Derived.BigQuiet
import Derived.WalkSmall
import Derived.LaidEqlPtr
import Derived.Deep.RegionWith
import Derived.Lib.Builder
namespace Go.Proofs.YbulkwpyDoor
open Go.ChangeShapes Go.WideShapes Go.ChangeAt Go.RowKit
set_option linter.unusedVariables false

/-- The number that eight bytes spell, the greatest first, as the walk writes it. -/
def be8 (c0 c1 c2 c3 c4 c5 c6 c7 : Int) : Int :=
  bits .or .u64 (bits .or .u64 (bits .or .u64 (bits .or .u64 (bits .or .u64 (bits .or .u64 (bits .or .u64 (IntKind.u64.wrap c7) (IntKind.u64.wrap (IntKind.u64.wrap c6 * 256)))
    (IntKind.u64.wrap (IntKind.u64.wrap c5 * 65536))) (IntKind.u64.wrap (IntKind.u64.wrap c4 * 16777216))) (IntKind.u64.wrap (IntKind.u64.wrap c3 * 4294967296)))
    (IntKind.u64.wrap (IntKind.u64.wrap c2 * 1099511627776))) (IntKind.u64.wrap (IntKind.u64.wrap c1 * 281474976710656))) (IntKind.u64.wrap (IntKind.u64.wrap c0 * 72057594037927936))

set_option maxHeartbeats 400000 in
theorem be8_any (b off n cap : Nat) (c0 c1 c2 c3 c4 c5 c6 c7 : Int) (w : World) (hn : (8 : Int) ≤ (n : Int))
    (h0 : w.cell? ⟨b, off, none⟩ = some (.int .u8 c0)) (h1 : w.cell? ⟨b, off + 1, none⟩ = some (.int .u8 c1)) (h2 : w.cell? ⟨b, off + 2, none⟩ = some (.int .u8 c2)) (h3 : w.cell? ⟨b, off + 3, none⟩ = some (.int .u8 c3))
    (h4 : w.cell? ⟨b, off + 4, none⟩ = some (.int .u8 c4)) (h5 : w.cell? ⟨b, off + 5, none⟩ = some (.int .u8 c5)) (h6 : w.cell? ⟨b, off + 6, none⟩ = some (.int .u8 c6)) (h7 : w.cell? ⟨b, off + 7, none⟩ = some (.int .u8 c7)) :
    Calls Ybad.prog 9 #[.slice (some ⟨b, off, none⟩) n cap] w fun e w' => e = .returned (.int .u64 (be8 c0 c1 c2 c3 c4 c5 c6 c7)) ∧ ∃ k, w' = w.drewN k := by
  have q0 : (0 : Int) < (n : Int) := by omega
  have q1 : (1 : Int) < (n : Int) := by omega
  have q2 : (2 : Int) < (n : Int) := by omega
  have q3 : (3 : Int) < (n : Int) := by omega
  have q4 : (4 : Int) < (n : Int) := by omega
  have q5 : (5 : Int) < (n : Int) := by omega
  have q6 : (6 : Int) < (n : Int) := by omega
  have q7 : (7 : Int) < (n : Int) := by omega
  go_enter Ybad.func9, Ybad.ntmps9
  go_wp2
  go_quiet (fail)
  go_wp2
  go_ret
  exact ⟨rfl, _, rfl⟩

def lo4 (c0 c1 c2 c3 : Int) : Int :=
  bits .or .u64 (bits .or .u64 (bits .or .u64 (bits .or .u64 281470681743360 (IntKind.u64.wrap (IntKind.u64.wrap c0 * 16777216))) (IntKind.u64.wrap (IntKind.u64.wrap c1 * 65536))) (IntKind.u64.wrap (IntKind.u64.wrap c2 * 256))) (IntKind.u64.wrap c3)
/-- A netip.Addr as a value: two words and the zone's handle. -/
def addr (hi lo : Int) (z : Option Addr) : Value := .agg #[.int .u64 hi, .int .u64 lo, .pointer z]

set_option maxHeartbeats 400000 in
theorem from4_any (c0 c1 c2 c3 : Int) (z : Option Addr) (w : World) (hz : w.cell? ⟨0, 0, none⟩ = some (.pointer z)) :
    Calls Ybad.prog 4 #[.agg #[.int .u8 c0, .int .u8 c1, .int .u8 c2, .int .u8 c3]] w fun e w' => e = .returned (addr 0 (lo4 c0 c1 c2 c3) z) ∧ Below w.heap.size w w' := by
  have hlt : 0 < w.heap.size := World.block_lt_of_cell? _ _ hz
  have hne : ¬ w.heap.size = 0 := by omega
  go_enter Ybad.func4, Ybad.ntmps4
  go_wp2
  exact bodyPost_ret (v := addr 0 (lo4 c0 c1 c2 c3) z) (by simp [results, Ybad.results4, go_sem, addr, lo4]) rfl ⟨rfl, ((Below.refl _ _).alloc (Nat.le_refl _) _).alloc (by simp) _⟩

theorem be_hi (B : Nat) (c0 c1 c2 c3 c4 c5 c6 c7 c8 c9 c10 c11 c12 c13 c14 c15 : Int) (w : World) (hB : w.heap[B]? = some (.cells #[.int .u8 c0, .int .u8 c1, .int .u8 c2, .int .u8 c3, .int .u8 c4, .int .u8 c5, .int .u8 c6, .int .u8 c7, .int .u8 c8, .int .u8 c9, .int .u8 c10, .int .u8 c11, .int .u8 c12, .int .u8 c13, .int .u8 c14, .int .u8 c15] 57 (0, 0))) :
    Calls Ybad.prog 9 #[.slice (some ⟨B, 0, none⟩) 8 16] w fun e w' => e = .returned (.int .u64 (be8 c0 c1 c2 c3 c4 c5 c6 c7)) ∧ ∃ k, w' = w.drewN k :=
  be8_any B 0 8 16 c0 c1 c2 c3 c4 c5 c6 c7 w (by decide) (by rw [cell_of_row w B 0 _ 57 (0, 0) hB]; rfl) (by rw [cell_of_row w B 1 _ 57 (0, 0) hB]; rfl) (by rw [cell_of_row w B 2 _ 57 (0, 0) hB]; rfl) (by rw [cell_of_row w B 3 _ 57 (0, 0) hB]; rfl) (by rw [cell_of_row w B 4 _ 57 (0, 0) hB]; rfl) (by rw [cell_of_row w B 5 _ 57 (0, 0) hB]; rfl) (by rw [cell_of_row w B 6 _ 57 (0, 0) hB]; rfl) (by rw [cell_of_row w B 7 _ 57 (0, 0) hB]; rfl)
theorem be_lo (B : Nat) (c0 c1 c2 c3 c4 c5 c6 c7 c8 c9 c10 c11 c12 c13 c14 c15 : Int) (w : World) (hB : w.heap[B]? = some (.cells #[.int .u8 c0, .int .u8 c1, .int .u8 c2, .int .u8 c3, .int .u8 c4, .int .u8 c5, .int .u8 c6, .int .u8 c7, .int .u8 c8, .int .u8 c9, .int .u8 c10, .int .u8 c11, .int .u8 c12, .int .u8 c13, .int .u8 c14, .int .u8 c15] 57 (0, 0))) :
    Calls Ybad.prog 9 #[.slice (some ⟨B, 8, none⟩) 8 8] w fun e w' => e = .returned (.int .u64 (be8 c8 c9 c10 c11 c12 c13 c14 c15)) ∧ ∃ k, w' = w.drewN k :=
  be8_any B 8 8 8 c8 c9 c10 c11 c12 c13 c14 c15 w (by decide) (by rw [cell_of_row w B 8 _ 57 (0, 0) hB]; rfl) (by rw [cell_of_row w B 9 _ 57 (0, 0) hB]; rfl) (by rw [cell_of_row w B 10 _ 57 (0, 0) hB]; rfl) (by rw [cell_of_row w B 11 _ 57 (0, 0) hB]; rfl) (by rw [cell_of_row w B 12 _ 57 (0, 0) hB]; rfl) (by rw [cell_of_row w B 13 _ 57 (0, 0) hB]; rfl) (by rw [cell_of_row w B 14 _ 57 (0, 0) hB]; rfl) (by rw [cell_of_row w B 15 _ 57 (0, 0) hB]; rfl)

set_option maxHeartbeats 1000000 in
theorem from16_any (c0 c1 c2 c3 c4 c5 c6 c7 c8 c9 c10 c11 c12 c13 c14 c15 : Int) (z : Option Addr) (w : World) (hz : w.cell? ⟨1, 0, none⟩ = some (.pointer z)) :
    Calls Ybad.prog 7 #[.agg #[.int .u8 c0, .int .u8 c1, .int .u8 c2, .int .u8 c3, .int .u8 c4, .int .u8 c5, .int .u8 c6, .int .u8 c7, .int .u8 c8, .int .u8 c9, .int .u8 c10, .int .u8 c11, .int .u8 c12, .int .u8 c13, .int .u8 c14, .int .u8 c15]] w
      fun e w' => e = .returned (addr (be8 c0 c1 c2 c3 c4 c5 c6 c7) (be8 c8 c9 c10 c11 c12 c13 c14 c15) z) ∧ Below w.heap.size w w' := by
  have hlt : 1 < w.heap.size := World.block_lt_of_cell? _ _ hz
  have hne : ¬ w.heap.size = 1 := by omega
  have hne0 : ¬ w.heap.size = 0 := by omega
  have hB : Hid (∀ o, ((w.alloc (.cells #[.int .u8 c0, .int .u8 c1, .int .u8 c2, .int .u8 c3, .int .u8 c4, .int .u8 c5, .int .u8 c6, .int .u8 c7, .int .u8 c8, .int .u8 c9, .int .u8 c10, .int .u8 c11, .int .u8 c12, .int .u8 c13, .int .u8 c14, .int .u8 c15] 57)).alloc o).heap[w.heap.size]? = some (.cells #[.int .u8 c0, .int .u8 c1, .int .u8 c2, .int .u8 c3, .int .u8 c4, .int .u8 c5, .int .u8 c6, .int .u8 c7, .int .u8 c8, .int .u8 c9, .int .u8 c10, .int .u8 c11, .int .u8 c12, .int .u8 c13, .int .u8 c14, .int .u8 c15] 57 (0, 0))) := fun o => by
    rw [Below.heap_alloc _ _ _ (by simp)]; exact heap_alloc_new w _
  have hg : ∀ o1 o2, ((w.alloc o1).alloc o2).cell? ⟨1, 0, none⟩ = some (.pointer z) := fun o1 o2 => cell_later (((Below.refl _ _).alloc (Nat.le_refl _) o1).alloc (by simp) o2) hz
  go_enter Ybad.func7, Ybad.ntmps7
  go_wp2
  go_region_with (first
    | (go_at_call_of 9 (8 : Nat); go_at_call_of 9 (16 : Nat); refine (be_hi _ c0 c1 c2 c3 c4 c5 c6 c7 c8 c9 c10 c11 c12 c13 c14 c15 _ (by exact hB.out _)).mono ?_; rintro e w' ⟨rfl, k, rfl⟩)
    | (go_at_call 9; refine (be_lo _ c0 c1 c2 c3 c4 c5 c6 c7 c8 c9 c10 c11 c12 c13 c14 c15 _ (by exact hB.out _)).mono ?_; rintro e w' ⟨rfl, k, rfl⟩))
  all_goals
    go_wp2
    refine bodyPost_ret (v := addr (be8 c0 c1 c2 c3 c4 c5 c6 c7) (be8 c8 c9 c10 c11 c12 c13 c14 c15) z) (by simp [results, Ybad.results7, go_sem, addr]) rfl ⟨rfl, ?_⟩
    exact ((((below_drewN (((Below.refl _ _).alloc (Nat.le_refl _) _).alloc (by simp) _) _).setCell (Nat.le_succ _) _).setCell (Nat.le_succ _) _).setCell (Nat.le_succ _) _)

end Go.Proofs.YbulkwpyDoor
