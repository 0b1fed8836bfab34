import Derived.Test.YbulkwqmDoorRows
import Derived.WalkKit
import Derived.BigQuiet
namespace Go.Proofs.YbulkwqmDoor
open Go.RowKit
set_option linter.unusedVariables false

theorem eq_walk (g1 g2 n c1 c2 : Nat) (f : Nat → Int) (w : World) (hn : n ≤ 1000000) (h1 : ∀ j, j < n → w.cell? ⟨g1, j, none⟩ = some (.int .u8 (f j))) (h2 : ∀ j, j < n → w.cell? ⟨g2, j, none⟩ = some (.int .u8 (f j))) :
    Calls Ybad.prog 8 #[.slice (some ⟨g1, 0, none⟩) n c1, .slice (some ⟨g2, 0, none⟩) n c2] w fun e w' => e = .returned (.bool true) ∧ Below w.heap.size w w' := by
  have H1 : Hid (∀ j, j < n → w.cell? ⟨g1, j, none⟩ = some (.int .u8 (f j))) := h1
  have H2 : Hid (∀ j, j < n → w.cell? ⟨g2, j, none⟩ = some (.int .u8 (f j))) := h2
  clear h1 h2
  go_enter Ybad.func8, Ybad.ntmps8
  go_wp2
  go_loopw [5] (fun i wr => ∃ k : Nat, k ≤ n ∧ i = .int .i64 k ∧ Below w.heap.size w wr) (fun i _ => n - (intOf i).toNat)
  case atStart => exact ⟨0, Nat.zero_le _, rfl, Below.refl _ _⟩
  case round =>
    obtain ⟨k, hk, rfl, hnx⟩ := hrel
    by_cases hkn : k < n
    · have e1 : wr.cell? ⟨g1, k, none⟩ = some (.int .u8 (f k)) := (hnx.cell (World.block_lt_of_cell? _ _ (H1 k hkn))).trans (H1 k hkn)
      have e2 : wr.cell? ⟨g2, k, none⟩ = some (.int .u8 (f k)) := (hnx.cell (World.block_lt_of_cell? _ _ (H2 k hkn))).trans (H2 k hkn)
      go_wp2_with fail
      go_quiet (fail)
      go_wp2
      go_roundw
      case rel => exact ⟨k + 1, by omega, by go_num, hnx.trans ⟨rfl, rfl, rfl, Nat.le_refl _, fun _ _ => rfl⟩⟩
      case measure => simp [intOf]; omega
    · go_wp2
      go_ret
      exact ⟨rfl, hnx⟩
end Go.Proofs.YbulkwqmDoor
