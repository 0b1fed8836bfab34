import Derived.Test.YbulkwqmDoorSender
namespace Go.Proofs.YbulkwqmDoor
open Go.RowKit Go.Lib
set_option linter.unusedVariables false
set_option linter.unusedSimpArgs false

theorem line_len (kind : ByteArray) (tm fr : Int) : (line kind tm fr).length = kind.size + 1 + (itoa tm).length + 1 + (itoa fr).length + 1 := by
  simp only [line, List.length_append, strCells_length, byteCells, List.length_map, List.length_cons, List.length_nil]
theorem line_bytes (kind : ByteArray) (tm fr : Int) : Bytes (line kind tm fr) :=
  ((((bytes_strCells _).append (bytes_one _)).append (bytes_byteCells _)).append (bytes_one _)).append (bytes_byteCells _) |>.append (bytes_one _)

theorem after_sender {w2 : World} (m : Nat) (hm : m ≤ 1000000) :
    (w2.alloc (.cells (zs m).toArray 5)).ownsRow w2.heap.size 5 1 (.slice (some ⟨w2.heap.size, 0, none⟩) 0 m) ([] : List Value).length [] ∧ w2.heap.size ≤ (w2.alloc (.cells (zs m).toArray 5)).heap.size :=
  ⟨World.ownsRow_made w2 _ m (Nat.le_refl _) (by unfold maxLen; omega) (by simp [zs]), by simp⟩

theorem own_shape {B n : Nat} {v : Value} {xs : List Value} {w : World} (h : w.ownsRow B 5 1 v n xs) : ∃ a k c, v = .slice a k c := by
  rcases h.2 with ⟨rfl, _⟩ | ⟨g, cap, cur, rfl, _⟩
  · exact ⟨_, _, _, rfl⟩
  · exact ⟨_, _, _, rfl⟩
theorem Own.trans {B : Nat} {v v' : Value} {X Y : List Value} {w0 w w' : World} (h : Own B v X w0 w) (k : Own B v' Y w w') : Own B v' Y w0 w' := ⟨k.1, h.2.1.trans k.2.1, h.2.2.1.trans k.2.2.1, k.2.2.2⟩
theorem at_end {B T : Nat} {v2 v9 : Value} {X Y : List Value} {w2 w9 : World} {o : Obj} (hc : w2.cell? ⟨T, 7, none⟩ = some v2) (own2 : w2.ownsRow B 5 1 v2 X.length X) (O9 : Own w2.heap.size v9 Y (w2.alloc o) w9) :
    w9.cell? ⟨T, 7, none⟩ = some v2 ∧ w9.ownsRow B 5 1 v2 X.length X ∧ Below w2.heap.size w2 w9 := by
  have b29 : Below w2.heap.size w2 w9 := ((Below.refl _ _).alloc (Nat.le_refl _) o).trans O9.2.1
  exact ⟨(b29.cell (World.block_lt_of_cell? _ _ hc)).trans hc, own_later own2 b29, b29⟩

set_option maxHeartbeats 1600000 in
theorem lawS_walk (ao : Option Addr) (c : Nat) (xs : List Value) (kind : ByteArray) (tm fr : Int) (w : World) (hsrc : Src (.slice ao xs.length c) xs w) (t0 : -9223372036854775808 ≤ tm) (t1 : tm ≤ 9223372036854775807) (f0 : -9223372036854775808 ≤ fr) (f1 : fr ≤ 9223372036854775807)
    (hxl : xs.length ≤ 9223372036854775807) (hkl : kind.size ≤ 9223372036854775807) (htab : TabBelow Ybad.prog w.heap.size w powName .u64 pow10Tab) :
    Calls Ybad.prog 4 #[.slice ao xs.length c, .string kind, .int .i64 tm, .int .i64 fr] w fun e w' => e = .returned (.bool true) ∧ Below w.heap.size w w' := by
  obtain ⟨i0, hi, hz0, hz1, hz2⟩ := info_parts info5
  have HS : Hid (Src (.slice ao xs.length c) xs w) := hsrc
  have HT : Hid (TabBelow Ybad.prog w.heap.size w powName .u64 pow10Tab) := htab
  clear hsrc htab
  by_cases hbig : 1024 < xs.length
  · go_enter Ybad.func4, Ybad.ntmps4
    go_wp2
    go_ret
    exact ⟨rfl, Below.refl _ _⟩
  by_cases hbk : 1024 < kind.size
  · go_enter Ybad.func4, Ybad.ntmps4
    go_wp2
    go_ret
    exact ⟨rfl, Below.refl _ _⟩
  have mk : ∀ w, (Instr.makeSlice 22 (.int .i64 0) (.int .i64 ((kind.size : Int) + 46))).run Ybad.prog w = .ok (.slice (some ⟨w.heap.size, 0, none⟩) 0 (kind.size + 46)) (w.alloc (.cells (zs (kind.size + 46)).toArray 5)) :=
    fun w => make5 0 (kind.size + 46) (Nat.zero_le _) (by omega) _ (by omega) w
  have LT : Hid ((itoa tm).length ≤ 21) := itoa_length_le tm t0 t1
  have LF : Hid ((itoa fr).length ≤ 21) := itoa_length_le fr f0 f1
  go_enter Ybad.func4, Ybad.ntmps4
  go_wp2_with (first
    | (go_at_call 8; refine (eq_owned w.heap.size w2.heap.size v2 v9 (line kind tm fr) w9 own29 O9.1 (line_bytes _ _ _) (by rw [line_len]; omega) (by have := LT.out; have := LF.out; rw [line_len]; omega)).mono ?_; rintro e w10 ⟨rfl, bel10⟩)
    | (at_builtin; refine wpList_append_own _ rfl (.tmp 47) (.tmp 48) 22 rfl w2.heap.size 5 i0 (.int .u8 0) 1 1 Ybad.underlying22 hi hz0 hz1 hz2 rfl (by decide) v8 _ _ rfl (O8.1.alloc _) ⟨w8.heap.size, 0, none⟩ 1 1 [.int .u8 32] rfl rfl one_cells (by intro u hu; simp at hu; subst hu; rfl) (by have := LT.out; have := LF.out; simp only [List.length_append, strCells_length, byteCells, List.length_map, List.length_cons, List.length_nil]; unfold maxLen; omega) (by have := LT.out; have := LF.out; simp only [List.length_append, strCells_length, byteCells, List.length_map, List.length_cons, List.length_nil]; omega) (by have := O8.2.2.2; simp; omega) ?_; intro v9 w9 own gr _; have O9 := (O8.alloc _).appended own gr rfl; clear own gr; have E := at_end hc2 own2 O9; obtain ⟨hc9, own29, bel29⟩ := E)
    | (go_at_call 7; refine (dec_walk w2.heap.size fr v7 _ w7 f0 f1 O7.1 O7.2.2.2 (by have := LT.out; have := LF.out; simp only [List.length_append, strCells_length, byteCells, List.length_map, List.length_cons, List.length_nil]; omega)).mono ?_; rintro e w8 ⟨v8, rfl, O8'⟩; have O8 := O7.trans O8'; clear O8')
    | (at_builtin; refine wpList_append_own _ rfl (.tmp 41) (.tmp 42) 22 rfl w2.heap.size 5 i0 (.int .u8 0) 1 1 Ybad.underlying22 hi hz0 hz1 hz2 rfl (by decide) v6 _ _ rfl (O6.1.alloc _) ⟨w6.heap.size, 0, none⟩ 1 1 [.int .u8 32] rfl rfl one_cells (by intro u hu; simp at hu; subst hu; rfl) (by have := LT.out; have := LF.out; simp only [List.length_append, strCells_length, byteCells, List.length_map, List.length_cons, List.length_nil]; unfold maxLen; omega) (by have := LT.out; have := LF.out; simp only [List.length_append, strCells_length, byteCells, List.length_map, List.length_cons, List.length_nil]; omega) (by have := O6.2.2.2; simp; omega) ?_; intro v7 w7 own gr _; have O7 := (O6.alloc _).appended own gr rfl; clear own gr)
    | (go_at_call 7; refine (dec_walk w2.heap.size tm v5 _ w5 t0 t1 O5.1 O5.2.2.2 (by have := LT.out; have := LF.out; simp only [List.length_append, strCells_length, byteCells, List.length_map, List.length_cons, List.length_nil]; omega)).mono ?_; rintro e w6 ⟨v6, rfl, O6'⟩; have O6 := O5.trans O6'; clear O6')
    | (at_builtin; refine wpList_append_own _ rfl (.tmp 35) (.tmp 36) 22 rfl w2.heap.size 5 i0 (.int .u8 0) 1 1 Ybad.underlying22 hi hz0 hz1 hz2 rfl (by decide) v4 _ _ rfl (O4.1.alloc _) ⟨w4.heap.size, 0, none⟩ 1 1 [.int .u8 32] rfl rfl one_cells (by intro u hu; simp at hu; subst hu; rfl) (by have := LT.out; have := LF.out; simp only [List.length_append, strCells_length, byteCells, List.length_map, List.length_cons, List.length_nil]; unfold maxLen; omega) (by have := LT.out; have := LF.out; simp only [List.length_append, strCells_length, byteCells, List.length_map, List.length_cons, List.length_nil]; omega) (by have := O4.2.2.2; simp; omega) ?_; intro v5 w5 own gr _; have O5 := (O4.alloc _).appended own gr rfl; clear own gr)
    | (at_builtin; refine wpList_append_own_string _ rfl (.tmp 32) (.tmp 33) 22 9 rfl w2.heap.size 5 i0 Ybad.underlying22 Ybad.underlying9 hi hz0 hz1 hz2 _ _ _ rfl own3 kind rfl (by simp only [List.length_nil]; unfold maxLen; omega) (by simp only [List.length_nil]; omega) hB3 ?_; intro v4 w4 own4 gr4 _; have O4 := (Own.start own3 hB3).appended own4 gr4 (strCells_length _); clear own4 gr4; simp only [List.nil_append] at O4)
    | (go_at_call 9; refine (sender_walk w.heap.size w1.heap.size (traceOf tm (.slice a1 n1 c1)) tm fr (.slice a1 n1 c1) xs kind _ (heap_alloc_new w1 _) rfl rfl bel1.size t0 t1 f0 f1 (own1.alloc _) (by have := bel1.size; simp; omega) (by omega) (HT.out.on (bel1.alloc bel1.size _))).mono ?_; rintro e w2 ⟨rfl, v2, hc2, own2, bel2, hB2⟩; have F := after_sender (w2 := w2) (kind.size + 46) (by omega); obtain ⟨own3, hB3⟩ := F)
    | (go_at_call 5; refine (copy_walk _ xs w HS.out (by omega)).mono ?_; rintro e w1 ⟨v1, rfl, own1, bel1⟩; obtain ⟨a1, n1, c1, rfl⟩ := own_shape own1))
  go_ret
  have bw2 : Below w.heap.size w w2 := (bel1.alloc bel1.size _).trans bel2
  exact ⟨rfl, (bw2.trans (bel29.mono bw2.size)).trans (bel10.mono (Nat.le_trans bw2.size bel29.size))⟩
end Go.Proofs.YbulkwqmDoor
