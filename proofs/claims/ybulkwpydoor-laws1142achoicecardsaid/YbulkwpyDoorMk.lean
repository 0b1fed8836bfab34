import Derived.Test.YbulkwpyDoorRows
import Derived.Test.YbulkwpyDoorAddr
import Derived.Test.YbulkwpyDoorEq
import Derived.WalkKit
import Derived.ProofKit
import Derived.Below
import Derived.WalkSpells
import Derived.WalkLawsBesides
import Derived.Deep.QuietTactic
import Derived.BigQuiet
import Derived.WalkSmall
import Derived.LaidEqlPtr
import Derived.Deep.RegionWith
import Derived.Lib.Builder
namespace Go.Proofs.YbulkwpyDoor
open Go.ChangeShapes Go.WideShapes Go.ChangeAt Go.RowKit
set_option linter.unusedVariables false

/-! ### zzs1142aaddr -/
def ahi (k : Int) : Int := if k % 3 = 0 then 0 else if k % 3 = 1 then 0 else be8 32 1 0 0 0 0 0 0
def alo (k b0 b1 b2 b3 : Int) : Int := if k % 3 = 0 then 0 else if k % 3 = 1 then lo4 b0 b1 b2 b3 else be8 0 0 0 0 b0 b1 b2 b3
def az (k : Int) (z4 z6 : Option Addr) : Option Addr := if k % 3 = 0 then none else if k % 3 = 1 then z4 else z6

set_option maxHeartbeats 400000 in
theorem mk_zero (k b0 b1 b2 b3 : Int) (w : World) (h0 : 0 ≤ k) (h1 : k ≤ 255) (hk : (k % 3 == 0) = true) :
    Calls Ybad.prog 5 #[.int .u8 k, .agg #[.int .u8 b0, .int .u8 b1, .int .u8 b2, .int .u8 b3]] w fun e w' => e = .returned (addr 0 0 none) ∧ Below w.heap.size w w' := by
  go_enter Ybad.func5, Ybad.ntmps5
  go_wp2
  exact bodyPost_ret (v := addr 0 0 none) (by simp [results, Ybad.results5, go_sem, addr]) rfl ⟨rfl, ((Below.refl _ _).alloc (Nat.le_refl _) _).alloc (by simp) _⟩

theorem bcell {W w1 : World} (hb : Below W.heap.size W w1) : (∀ b o, b < W.heap.size → w1.cell? ⟨b, o, none⟩ = W.cell? ⟨b, o, none⟩) ∧ (∀ b o, b < W.heap.size → w1.frozen? ⟨b, o, none⟩ = W.frozen? ⟨b, o, none⟩) :=
  ⟨fun b o h => hb.cell (p := ⟨b, o, none⟩) h, fun b o h => hb.frozen (p := ⟨b, o, none⟩) h⟩

set_option maxHeartbeats 400000 in
theorem mk_one (k b0 b1 b2 b3 : Int) (z : Option Addr) (w : World) (hz : w.cell? ⟨0, 0, none⟩ = some (.pointer z)) (h0 : 0 ≤ k) (h1 : k ≤ 255) (hk0 : (k % 3 == 0) = false) (hk : (k % 3 == 1) = true) :
    Calls Ybad.prog 5 #[.int .u8 k, .agg #[.int .u8 b0, .int .u8 b1, .int .u8 b2, .int .u8 b3]] w fun e w' => e = .returned (addr 0 (lo4 b0 b1 b2 b3) z) ∧ Below w.heap.size w w' := by
  have hg : ∀ o1 o2, ((w.alloc o1).alloc o2).cell? ⟨0, 0, none⟩ = some (.pointer z) := fun o1 o2 => cell_later (((Below.refl _ _).alloc (Nat.le_refl _) o1).alloc (by simp) o2) hz
  go_enter Ybad.func5, Ybad.ntmps5
  go_wp2_with fail
  refine (from4_any b0 b1 b2 b3 z _ (hg _ _)).mono ?_
  rintro e w1 ⟨rfl, hb⟩
  unfold addr
  obtain ⟨hc, hf⟩ := bcell hb
  have hsz : w.heap.size + 1 < w1.heap.size := by have := hb.size; simp at this; omega
  have hB : Below w.heap.size w w1 := (((Below.refl _ _).alloc (Nat.le_refl _) _).alloc (by simp) _).trans (hb.mono (by simp; omega))
  clear hb
  go_wp2_with fail
  exact bodyPost_ret (v := addr 0 (lo4 b0 b1 b2 b3) z) (by simp [results, Ybad.results5, go_sem, addr, hc]) rfl ⟨rfl, (((hB.setCell (Nat.le_succ _) _).setCell (Nat.le_succ _) _).setCell (Nat.le_succ _) _)⟩

set_option maxHeartbeats 1000000 in
theorem mk_two (k b0 b1 b2 b3 : Int) (z : Option Addr) (w : World) (hz : w.cell? ⟨1, 0, none⟩ = some (.pointer z)) (h0 : 0 ≤ k) (h1 : k ≤ 255) (hk0 : (k % 3 == 0) = false) (hk : (k % 3 == 1) = false) :
    Calls Ybad.prog 5 #[.int .u8 k, .agg #[.int .u8 b0, .int .u8 b1, .int .u8 b2, .int .u8 b3]] w fun e w' => e = .returned (addr (be8 32 1 0 0 0 0 0 0) (be8 0 0 0 0 b0 b1 b2 b3) z) ∧ Below w.heap.size w w' := by
  have hg : ∀ o1 o2 o3, (((w.alloc o1).alloc o2).alloc o3).cell? ⟨1, 0, none⟩ = some (.pointer z) := fun o1 o2 o3 => cell_later ((((Below.refl _ _).alloc (Nat.le_refl _) o1).alloc (by simp) o2).alloc (by simp; omega) o3) hz
  go_enter Ybad.func5, Ybad.ntmps5
  go_wp2_with fail
  refine (from16_any 32 1 0 0 0 0 0 0 0 0 0 0 b0 b1 b2 b3 z _ (hg _ _ _)).mono ?_
  rintro e w1 ⟨rfl, hb⟩
  unfold addr
  obtain ⟨hc, hf⟩ := bcell hb
  have hsz : w.heap.size + 1 + 1 < w1.heap.size := by have := hb.size; simp at this; omega
  have hB : Below w.heap.size w w1 := ((((Below.refl _ _).alloc (Nat.le_refl _) _).alloc (by simp) _).alloc (by simp; omega) _).trans (hb.mono (by simp; omega))
  clear hb
  go_wp2_with fail
  exact bodyPost_ret (v := addr (be8 32 1 0 0 0 0 0 0) (be8 0 0 0 0 b0 b1 b2 b3) z) (by simp [results, Ybad.results5, go_sem, addr, hc]) rfl ⟨rfl, (((hB.setCell (Nat.le_succ _) _).setCell (Nat.le_succ _) _).setCell (Nat.le_succ _) _)⟩

theorem mk_any (k b0 b1 b2 b3 : Int) (z4 z6 : Option Addr) (w : World) (hz4 : w.cell? ⟨0, 0, none⟩ = some (.pointer z4)) (hz6 : w.cell? ⟨1, 0, none⟩ = some (.pointer z6)) (h0 : 0 ≤ k) (h1 : k ≤ 255) :
    Calls Ybad.prog 5 #[.int .u8 k, .agg #[.int .u8 b0, .int .u8 b1, .int .u8 b2, .int .u8 b3]] w fun e w' => e = .returned (.agg #[.int .u64 (ahi k), .int .u64 (alo k b0 b1 b2 b3), .pointer (az k z4 z6)]) ∧ Below w.heap.size w w' := by
  by_cases hk : k % 3 = 0
  · simp only [ahi, alo, az, if_pos hk]
    exact mk_zero k b0 b1 b2 b3 w h0 h1 (by simp [hk])
  · by_cases hk1 : k % 3 = 1
    · simp only [ahi, alo, az, if_neg hk, if_pos hk1]
      exact mk_one k b0 b1 b2 b3 z4 w hz4 h0 h1 (by simp [hk]) (by simp [hk1])
    · simp only [ahi, alo, az, if_neg hk, if_neg hk1]
      exact mk_two k b0 b1 b2 b3 z6 w hz6 h0 h1 (by simp [hk]) (by simp [hk1])

/-! ### IsValid -/
set_option maxHeartbeats 400000 in
theorem valid_some (hi lo : Int) (a : Addr) (w : World) (hz : w.cell? ⟨2, 0, none⟩ = some (.pointer none)) :
    Calls Ybad.prog 8 #[.agg #[.int .u64 hi, .int .u64 lo, .pointer (some a)]] w fun e w' => e = .returned (.bool true) ∧ Below w.heap.size w w' := by
  have hlt : 2 < w.heap.size := World.block_lt_of_cell? _ _ hz
  have hne : ¬ w.heap.size = 2 := by omega
  have qs := eq28_same
  have qn := eq28_nil
  go_enter Ybad.func8, Ybad.ntmps8
  go_wp2
  go_ret
  exact ⟨rfl, (Below.refl _ _).alloc (Nat.le_refl _) _⟩

set_option maxHeartbeats 400000 in
theorem valid_none (hi lo : Int) (w : World) (hz : w.cell? ⟨2, 0, none⟩ = some (.pointer none)) :
    Calls Ybad.prog 8 #[.agg #[.int .u64 hi, .int .u64 lo, .pointer none]] w fun e w' => e = .returned (.bool false) ∧ Below w.heap.size w w' := by
  have hlt : 2 < w.heap.size := World.block_lt_of_cell? _ _ hz
  have hne : ¬ w.heap.size = 2 := by omega
  have qs := eq28_same
  have qn := eq28_nil
  go_enter Ybad.func8, Ybad.ntmps8
  go_wp2
  go_ret
  exact ⟨rfl, (Below.refl _ _).alloc (Nat.le_refl _) _⟩

end Go.Proofs.YbulkwpyDoor
