import Derived.Test.YbulkwqmRowsLaws
namespace Go.Proofs.Ybulkwqm
open Go.ChangeShapes Go.WideShapes Go.ChangeAt Go.RowKit
set_option linter.unusedVariables false

theorem zero4_at (ts : List Int) (i j : Nat) (hj : j < 4) : (zero4 ts i).getD (i * 4 + j) 0 = 0 := by
  unfold zero4
  simp only [List.getD_eq_getElem?_getD, List.getElem?_set, List.length_set]
  have h4 : j = 0 ∨ j = 1 ∨ j = 2 ∨ j = 3 := by omega
  by_cases hl : i * 4 + j < ts.length
  · rcases h4 with rfl | rfl | rfl | rfl <;> simp_all
  · have : ts[i * 4 + j]? = none := List.getElem?_eq_none (by omega)
    rcases h4 with rfl | rfl | rfl | rfl <;> simp_all <;> split <;> rfl
theorem zero4_off (ts : List Int) (i m j : Nat) (hj : j < 4) (h : m ≠ i) : (zero4 ts i).getD (m * 4 + j) 0 = ts.getD (m * 4 + j) 0 := by
  unfold zero4
  simp only [List.getD_eq_getElem?_getD, List.getElem?_set, List.length_set]
  rw [if_neg (by omega), if_neg (by omega), if_neg (by omega), if_neg (by omega)]
theorem zeroW_in (ss : List Int) (o n j : Nat) (hl : o ≤ ss.length) (h1 : o ≤ j) (h2 : j < o + n) : (zeroW ss o n).getD j 0 = 0 := by
  unfold zeroW
  simp only [List.getD_eq_getElem?_getD, List.append_assoc]
  have e1 : (ss.take o).length = o := by simp; omega
  rw [List.getElem?_append_right (by omega), e1, List.getElem?_append_left (by simp; omega)]
  simp [show j - o < n by omega]
theorem zeroW_out (ss : List Int) (o n j : Nat) (hl : o + n ≤ ss.length) (h : j < o ∨ o + n ≤ j) : (zeroW ss o n).getD j 0 = ss.getD j 0 := by
  unfold zeroW
  simp only [List.getD_eq_getElem?_getD, List.append_assoc]
  have e1 : (ss.take o).length = o := by simp; omega
  rcases h with h | h
  · rw [List.getElem?_append_left (by omega), List.getElem?_take, if_pos h]
  · rw [List.getElem?_append_right (by omega), e1, List.getElem?_append_right (by simp; omega)]
    simp only [List.length_replicate, List.getElem?_drop]
    congr 2; omega

/-- The two copies. -/
theorem stage {Hb Tb Sb : Nat} {q : Int} {n wd : Nat} {ts ss : List Int} {wr : World} (H : HP Hb Tb Sb q n wd ts ss wr) (hH : Hb < wr.heap.size) (hT : Tb < wr.heap.size) (hS : Sb < wr.heap.size) :
    ∃ wA wB, (Builtin.copy_ #[25, 25] 3 #[.slice (some ⟨wr.heap.size, 0, none⟩) n n, .slice (some ⟨Tb, 0, none⟩) n n]).run Yba.prog (wr.alloc (.cells ((zs (4 * n)).map (Value.int .i64)).toArray 31)) = .ok (.int .i64 (n : Int)) wA ∧
      (Builtin.copy_ #[23, 23] 3 #[.slice (some ⟨wA.heap.size, 0, none⟩) (n * wd) (n * wd), .slice (some ⟨Sb, 0, none⟩) (n * wd) (n * wd)]).run Yba.prog (wA.alloc (.cells ((zs (n * wd)).map (Value.int .u64)).toArray 32)) = .ok (.int .i64 ((n * wd : Nat) : Int)) wB ∧
      (∀ o, (wA.alloc o).cell? ⟨Hb, 3, none⟩ = some (.slice (some ⟨Sb, 0, none⟩) (n * wd) (n * wd))) ∧
      HP Hb Tb Sb q n wd ts ss wB ∧ RowAt wr.heap.size .i64 31 ts wB ∧ RowAt wA.heap.size .u64 32 ss wB ∧ wA.heap.size = wr.heap.size + 1 ∧ Below wr.heap.size wr wB := by
  have hbA0 : Below wr.heap.size wr (wr.alloc (.cells ((zs (4 * n)).map (Value.int .i64)).toArray 31)) := (Below.refl _ _).alloc (Nat.le_refl _) _
  have HA0 : HP Hb Tb Sb q n wd ts ss (wr.alloc (.cells ((zs (4 * n)).map (Value.int .i64)).toArray 31)) := H.of_heap (hbA0.block _ hH) (hbA0.block _ hT) (hbA0.block _ hS)
  obtain ⟨wA, hcA, rA, oA⟩ := run_copy_whole (wr.alloc (.cells ((zs (4 * n)).map (Value.int .i64)).toArray 31)) 25 31 .i64 4 3 wr.heap.size Tb n (zs (4 * n)) ts Yba.underlying25 (by kernel_rfl) (heap_alloc_new wr _) HA0.rowT (by simp [zs]; omega) (by rw [H.lenT]; omega) (by omega)
  have sA : wA.heap.size = wr.heap.size + 1 := by rw [oA.size]; simp
  have HA : HP Hb Tb Sb q n wd ts ss wA := HA0.of_heap (oA.block _ (by simp; omega)) (oA.block _ (by simp; omega)) (oA.block _ (by simp; omega))
  have hbA : Below wr.heap.size wr wA := hbA0.trans (oA.below _ (by simp))
  have hbB0 : Below wA.heap.size wA (wA.alloc (.cells ((zs (n * wd)).map (Value.int .u64)).toArray 32)) := (Below.refl _ _).alloc (Nat.le_refl _) _
  have HB0 : HP Hb Tb Sb q n wd ts ss (wA.alloc (.cells ((zs (n * wd)).map (Value.int .u64)).toArray 32)) := HA.of_heap (hbB0.block _ (by omega)) (hbB0.block _ (by omega)) (hbB0.block _ (by omega))
  obtain ⟨wB, hcB, rB, oB⟩ := run_copy_whole (wA.alloc (.cells ((zs (n * wd)).map (Value.int .u64)).toArray 32)) 23 32 .u64 1 3 wA.heap.size Sb (n * wd) (zs (n * wd)) ss Yba.underlying23 (by kernel_rfl) (heap_alloc_new wA _) HB0.rowS (by simp [zs]) (by rw [H.lenS]; omega) (by omega)
  refine ⟨wA, wB, hcA, hcB, fun o => ?_, ?_, ?_, rB, sA, ?_⟩
  · exact cell_later ((Below.refl _ _).alloc (Nat.le_refl _) o) HA.head.cells.2.2.2
  · exact HB0.of_heap (oB.block _ (by simp; omega)) (oB.block _ (by simp; omega)) (oB.block _ (by simp; omega))
  · exact (rA.of_eq (hbB0.block _ (by omega))).of_eq (oB.block _ (by simp; omega))
  · exact (hbA.trans (hbB0.mono (by omega))).trans (oB.below _ (by simp; omega))
end Go.Proofs.Ybulkwqm
