import Derived.Test.YbulkwpyDoorRows
import Derived.Test.YbulkwpyDoorMk
namespace Go.Proofs.YbulkwpyDoor
open Go.ChangeShapes Go.WideShapes Go.ChangeAt Go.RowKit
set_option linter.unusedVariables false

theorem later2 {w : World} {a : Addr} {v : Value} (h : w.cell? a = some v) : ∀ o1 o2, ((w.alloc o1).alloc o2).cell? a = some v :=
  fun o1 o2 => cell_later (((Below.refl _ _).alloc (Nat.le_refl _) o1).alloc (by simp) o2) h
theorem later1 {w : World} {a : Addr} {v : Value} (h : w.cell? a = some v) : ∀ o1, (w.alloc o1).cell? a = some v :=
  fun o1 => cell_later ((Below.refl _ _).alloc (Nat.le_refl _) o1) h

set_option maxHeartbeats 400000 in
theorem router_nil (P A : Nat) (o hi lo : Int) (z : Option Addr) (w : World) (hr : w.cell? ⟨A, 14, none⟩ = some (.pointer none))
    (h4 : w.cell? ⟨P, 4, none⟩ = some (.int .u64 hi)) (h5 : w.cell? ⟨P, 5, none⟩ = some (.int .u64 lo)) (h6 : w.cell? ⟨P, 6, none⟩ = some (.pointer z)) :
    Calls Ybad.prog 6 #[.agg #[.pointer (some ⟨P, 0, none⟩), .pointer (some ⟨A, 0, none⟩), .int .u32 o]] w fun e w' => e = .returned (.agg #[.int .u64 hi, .int .u64 lo, .pointer z]) ∧ Below w.heap.size w w' := by
  have lr := later2 hr
  have l4 := later2 h4
  have l5 := later2 h5
  have l6 := later2 h6
  go_enter Ybad.func6, Ybad.ntmps6
  go_wp2
  exact bodyPost_ret (v := .agg #[.int .u64 hi, .int .u64 lo, .pointer z]) (by simp [results, Ybad.results6, go_sem]) rfl ⟨rfl, ((Below.refl _ _).alloc (Nat.le_refl _) _).alloc (by simp) _⟩

set_option maxHeartbeats 400000 in
theorem router_some (P A R : Nat) (o hi lo : Int) (z : Addr) (w : World) (hr : w.cell? ⟨A, 14, none⟩ = some (.pointer (some ⟨R, 0, none⟩)))
    (h0 : w.cell? ⟨R, 0, none⟩ = some (.int .u64 hi)) (h1 : w.cell? ⟨R, 1, none⟩ = some (.int .u64 lo)) (h2 : w.cell? ⟨R, 2, none⟩ = some (.pointer (some z))) (hz : w.cell? ⟨2, 0, none⟩ = some (.pointer none)) :
    Calls Ybad.prog 6 #[.agg #[.pointer (some ⟨P, 0, none⟩), .pointer (some ⟨A, 0, none⟩), .int .u32 o]] w fun e w' => e = .returned (.agg #[.int .u64 hi, .int .u64 lo, .pointer (some z)]) ∧ Below w.heap.size w w' := by
  have lr := later2 hr
  have l0 := later2 h0
  have l1 := later2 h1
  have l2 := later2 h2
  have lz := later2 hz
  have hR : R < w.heap.size := World.block_lt_of_cell? _ _ h0
  go_enter Ybad.func6, Ybad.ntmps6
  go_wp2_with fail
  refine (valid_some hi lo z _ (lz _ _)).mono ?_
  rintro e w1 ⟨rfl, hb⟩
  obtain ⟨hc, hf⟩ := bcell hb
  have hsz : w.heap.size + 1 < w1.heap.size := by have := hb.size; simp at this; omega
  have hB : Below w.heap.size w w1 := (((Below.refl _ _).alloc (Nat.le_refl _) _).alloc (by simp) _).trans (hb.mono (by simp; omega))
  have m0 := cell_later hB h0
  have m1 := cell_later hB h1
  have m2 := cell_later hB h2
  clear hb
  go_wp2_with fail
  exact bodyPost_ret (v := .agg #[.int .u64 hi, .int .u64 lo, .pointer (some z)]) (by simp [results, Ybad.results6, go_sem, hc]) rfl ⟨rfl, (((hB.setCell (Nat.le_succ _) _).setCell (Nat.le_succ _) _).setCell (Nat.le_succ _) _)⟩

set_option maxHeartbeats 400000 in
theorem router_inv (P A R : Nat) (o hi lo hi' lo' : Int) (z : Option Addr) (w : World) (hr : w.cell? ⟨A, 14, none⟩ = some (.pointer (some ⟨R, 0, none⟩)))
    (h0 : w.cell? ⟨R, 0, none⟩ = some (.int .u64 hi')) (h1 : w.cell? ⟨R, 1, none⟩ = some (.int .u64 lo')) (h2 : w.cell? ⟨R, 2, none⟩ = some (.pointer none)) (hz : w.cell? ⟨2, 0, none⟩ = some (.pointer none))
    (h4 : w.cell? ⟨P, 4, none⟩ = some (.int .u64 hi)) (h5 : w.cell? ⟨P, 5, none⟩ = some (.int .u64 lo)) (h6 : w.cell? ⟨P, 6, none⟩ = some (.pointer z)) :
    Calls Ybad.prog 6 #[.agg #[.pointer (some ⟨P, 0, none⟩), .pointer (some ⟨A, 0, none⟩), .int .u32 o]] w fun e w' => e = .returned (.agg #[.int .u64 hi, .int .u64 lo, .pointer z]) ∧ Below w.heap.size w w' := by
  have lr := later2 hr
  have l0 := later2 h0
  have l1 := later2 h1
  have l2 := later2 h2
  have lz := later2 hz
  go_enter Ybad.func6, Ybad.ntmps6
  go_wp2_with fail
  refine (valid_none hi' lo' _ (lz _ _)).mono ?_
  rintro e w1 ⟨rfl, hb⟩
  obtain ⟨hc, hf⟩ := bcell hb
  have hsz : w.heap.size + 1 < w1.heap.size := by have := hb.size; simp at this; omega
  have hB : Below w.heap.size w w1 := (((Below.refl _ _).alloc (Nat.le_refl _) _).alloc (by simp) _).trans (hb.mono (by simp; omega))
  have m0 := cell_later hB h4
  have m1 := cell_later hB h5
  have m2 := cell_later hB h6
  clear hb
  go_wp2_with fail
  exact bodyPost_ret (v := .agg #[.int .u64 hi, .int .u64 lo, .pointer z]) (by simp [results, Ybad.results6, go_sem, hc]) rfl ⟨rfl, (((hB.setCell (Nat.le_succ _) _).setCell (Nat.le_succ _) _).setCell (Nat.le_succ _) _)⟩

end Go.Proofs.YbulkwpyDoor
