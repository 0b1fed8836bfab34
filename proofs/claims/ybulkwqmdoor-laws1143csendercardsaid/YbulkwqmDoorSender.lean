import Derived.Test.YbulkwqmDoorLawB
import Derived.OneCell
import Derived.Lib.Builder
namespace Go.Proofs.YbulkwqmDoor
open Go.RowKit Go.Lib
set_option linter.unusedVariables false

/-- What sender leaves: kind, time, sender, each followed by a space. -/
def line (kind : ByteArray) (tm fr : Int) : List Value := strCells kind ++ [Value.int .u8 32] ++ byteCells (itoa tm) ++ [Value.int .u8 32] ++ byteCells (itoa fr) ++ [Value.int .u8 32]
theorem Own.form {B : Nat} {v : Value} {X : List Value} {w0 w : World} (h : Own B v X w0 w) (hp : 0 < X.length) : ∃ g n c, v = .slice (some ⟨g, 0, none⟩) n c := by
  obtain ⟨g, c, e⟩ := Joins.ownsRow_form h.1 hp
  exact ⟨g, _, c, e⟩
theorem Hid.mk' {p : Prop} (h : p) : Hid p := h
/-- head[:0] of a slice that the call owns: it owns nothing, at the same place. -/
theorem cut_own {B : Nat} {v : Value} {xs : List Value} {w : World} (h : w.ownsRow B 5 1 v xs.length xs) :
    ∃ v', w.ownsRow B 5 1 v' ([] : List Value).length [] ∧ (∀ w', (Instr.slice 22 v none (some (.int .i64 0)) none).run Ybad.prog w' = .ok v' w') ∧ (∀ w', (Instr.sliceAt 22 v none (some (.int .i64 0)) none).run Ybad.prog w' = .ok v' w') := by
  obtain ⟨i0, hi, hz0, hz1, hz2⟩ := info_parts info5
  have he : Ybad.prog.elem 22 = 5 := by kernel_rfl
  have hu : Ybad.prog.underlying 22 = some (.slice (Ybad.prog.elem 22)) := by rw [he]; exact Ybad.underlying22
  suffices hx : ∃ v', w.ownsRow B 5 1 v' ([] : List Value).length [] ∧ (∀ w', (Instr.slice 22 v none (some (.int .i64 0)) none).run Ybad.prog w' = .ok v' w') by
    obtain ⟨v', a, b⟩ := hx
    exact ⟨v', a, b, fun w' => by rw [run_sliceAt_slice (P := Ybad.prog) w' 22 _ _ _ _ hu]; exact b w'⟩
  rcases h.2 with ⟨rfl, _⟩ | ⟨g, cap, cur, rfl, hb, hg, hn, hm, hs, ht⟩
  · refine ⟨.slice none 0 0, World.ownsRow_nil _ _ _ _, fun w' => ?_⟩
    simp [run_slice_h (P := Ybad.prog) w' 22 none 0 0 hu, he, sizeOf, typeInfo, hi, hz1, sliced]
  · refine ⟨.slice (some ⟨g, 0, none⟩) 0 cap, ⟨by simp, .inr ⟨g, cap, cur, rfl, hb, hg, Nat.zero_le _, hm, hs, by simp⟩⟩, fun w' => ?_⟩
    have hadd : (⟨g, 0, none⟩ : Addr).add 0 = ⟨g, 0, none⟩ := by unfold Addr.add; split <;> simp_all
    simp [run_slice_h (P := Ybad.prog) w' 22 (some ⟨g, 0, none⟩) xs.length cap hu, he, sizeOf, typeInfo, hi, hz1, sliced, hadd]

theorem stored {B T : Nat} {v u : Value} {X : List Value} {w0 w2 : World} {cs : Array Value} (O : Own B v X w0 w2) (hT : w0.heap[T]? = some (.cells cs 32 (0, 0))) (h7 : cs[7]? = some u) (hBT : B ≤ T) :
    (w2.setCell ⟨T, 7, none⟩ v).heap[T]? = some (.cells (cs.setIfInBounds 7 v) 32 (0, 0)) ∧ (cs.setIfInBounds 7 v)[7]? = some v ∧ (w2.setCell ⟨T, 7, none⟩ v).ownsRow B 5 1 v X.length X ∧ Below B w0 (w2.setCell ⟨T, 7, none⟩ v) ∧ B ≤ (w2.setCell ⟨T, 7, none⟩ v).heap.size := by
  have hT2 := O.block hT
  have hlt : 7 < cs.size := (Array.getElem?_eq_some_iff.1 h7).1
  refine ⟨by simp [World.setCell, Array.getElem?_modify, hT2], by simp [hlt], ownsRow_setCell_other O.1 (ownBlock_ne O.1 hT2 (by decide)) v, O.2.1.setCell hBT v, by simp only [World.setCell, Array.size_modify]; exact O.2.2.2⟩
theorem free_of_block {w : World} {T j : Nat} {cs : Array Value} (hT : w.heap[T]? = some (.cells cs 32 (0, 0))) : w.frozen? ⟨T, j, none⟩ = false := by simp [World.frozen?, hT]

theorem sender_walk (B T : Nat) (cs : Array Value) (tm fr : Int) (hv : Value) (xs : List Value) (kind : ByteArray) (w : World) (hT : w.heap[T]? = some (.cells cs 32 (0, 0))) (h3 : cs[3]? = some (.int .i64 tm)) (h7 : cs[7]? = some hv) (hBT : B ≤ T)
    (t0 : -9223372036854775808 ≤ tm) (t1 : tm ≤ 9223372036854775807) (f0 : -9223372036854775808 ≤ fr) (f1 : fr ≤ 9223372036854775807) (hown : w.ownsRow B 5 1 hv xs.length xs) (hBw : B ≤ w.heap.size) (hkl : kind.size ≤ 1024) (htab : TabBelow Ybad.prog B w powName .u64 pow10Tab) :
    Calls Ybad.prog 9 #[.pointer (some ⟨T, 0, none⟩), .string kind, .int .i64 fr] w fun e w' => e = .returned (.tuple #[]) ∧ ∃ v', w'.cell? ⟨T, 7, none⟩ = some v' ∧
      w'.ownsRow B 5 1 v' (line kind tm fr).length (line kind tm fr) ∧ Below B w w' ∧ B ≤ w'.heap.size := by
  obtain ⟨i0, hi, hz0, hz1, hz2⟩ := info_parts info5
  obtain ⟨sv, own0, sl1, sl2⟩ := cut_own hown
  have hc7 := cell_of_block hT h7
  have HT : Hid (w.heap[T]? = some (.cells cs 32 (0, 0))) := hT
  have H3 : Hid (cs[3]? = some (.int .i64 tm)) := h3
  have H7 : Hid (cs[7]? = some hv) := h7
  have LT : Hid ((itoa tm).length ≤ 21) := itoa_length_le tm t0 t1
  have LF : Hid ((itoa fr).length ≤ 21) := itoa_length_le fr f0 f1
  clear hT h3 h7
  go_enter Ybad.func9, Ybad.ntmps9
  go_wp2_with (first
    | (go_at_call 6; refine (begin_walk B T cs tm sv [] kind w HT.out H3.out t0 t1 own0 hBw (by simp only [List.length_nil]; omega) htab).mono ?_; rintro e w1 ⟨v1, rfl, O1⟩; simp only [List.nil_append] at O1)
    | (at_builtin; refine wpList_append_own _ rfl (.tmp 14) (.tmp 15) 22 rfl B 5 i0 (.int .u8 0) 1 1 Ybad.underlying22 hi hz0 hz1 hz2 rfl (by decide) v1 _ _ rfl (O1.1.alloc _) ⟨w1.heap.size, 0, none⟩ 1 1 [.int .u8 32] rfl rfl one_cells (by intro u hu; simp at hu; subst hu; rfl) (by have := LT.out; simp only [List.length_append, strCells_length, byteCells, List.length_map, List.length_cons, List.length_nil]; unfold maxLen; omega) (by have := LT.out; simp only [List.length_append, strCells_length, byteCells, List.length_map, List.length_cons, List.length_nil]; omega) (by have := O1.2.2.2; simp; omega) ?_; intro v2 w2 own2 gr2 _; have O2 := (O1.alloc _).appended own2 gr2 rfl; clear own2 gr2; obtain ⟨g2, n2, c2, rfl⟩ := O2.form (by simp; omega); have hc2 := cell_of_block (O2.block HT.out) H7.out; have hf2 := free_of_block (j := 7) (O2.block HT.out); have S := stored O2 HT.out H7.out hBT; obtain ⟨sT, s7, sO, sB, sZ⟩ := S; have HsT := Hid.mk' sT; have Hs7 := Hid.mk' s7; clear sT s7; have hc3 := cell_of_block HsT.out Hs7.out)
    | (go_at_call 10; refine (Ybad.appendInt B _ fr f0 f1 _ _ _ sO sZ (by have := LT.out; simp only [List.length_append, strCells_length, byteCells, List.length_map, List.length_cons, List.length_nil]; omega) (htab.on sB)).mono ?_; rintro e w4 ⟨v4, rfl, own4, hb4, hk4⟩; have O4 := (Own.start sO sZ).called own4 hb4 hk4 (by simp [byteCells]); clear own4 hb4 hk4)
    | (at_builtin; refine wpList_append_own _ rfl (.tmp 25) (.tmp 26) 22 rfl B 5 i0 (.int .u8 0) 1 1 Ybad.underlying22 hi hz0 hz1 hz2 rfl (by decide) v4 _ _ rfl (O4.1.alloc _) ⟨w4.heap.size, 0, none⟩ 1 1 [.int .u8 32] rfl rfl one_cells (by intro u hu; simp at hu; subst hu; rfl) (by have := LT.out; have := LF.out; simp only [List.length_append, strCells_length, byteCells, List.length_map, List.length_cons, List.length_nil]; unfold maxLen; omega) (by have := LT.out; have := LF.out; simp only [List.length_append, strCells_length, byteCells, List.length_map, List.length_cons, List.length_nil]; omega) (by have := O4.2.2.2; simp; omega) ?_; intro v5 w5 own5 gr5 _; have O5 := (O4.alloc _).appended own5 gr5 rfl; clear own5 gr5; obtain ⟨g5, n5, c5, rfl⟩ := O5.form (by simp; omega); have hc5 := cell_of_block (O5.block HsT.out) Hs7.out; have hf5 := free_of_block (j := 7) (O5.block HsT.out)))
  have S := stored O5 HsT.out Hs7.out hBT
  obtain ⟨zT, z7, zO, zB, zZ⟩ := S
  go_end0
  exact ⟨rfl, _, cell_of_block zT z7, zO, sB.trans zB, zZ⟩
end Go.Proofs.YbulkwqmDoor
