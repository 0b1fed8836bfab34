import Derived.Test.YbulkwqmDoorBits
namespace Go.Proofs.YbulkwqmDoor
open Go.RowKit Go.Lib
set_option linter.unusedVariables false

abbrev powName : String := Rows.lawS1143CBeginRow.named.getD 0 default
/-- A new trace: its time and its head. -/
abbrev traceOf (tm : Int) (hd : Value) : Array Value := #[.nilIface, .nilFunc, .nilIface, .int .i64 tm, .nilFunc, .slice none 0 0, .slice none 0 0, hd, .slice none 0 0]

theorem after_begin {v0 v2 : Value} {xs G : List Value} {w w1 w2 : World} {o : Obj} (hs : Src v0 xs w) (b1 : Below w.heap.size w w1) (O2 : Own w.heap.size v2 G (w1.alloc o) w2) (m : Nat) (hm : m ≤ 1000000) :
    (w2.alloc (.cells (zs m).toArray 5)).ownsRow w2.heap.size 5 1 (.slice (some ⟨w2.heap.size, 0, none⟩) 0 m) ([] : List Value).length [] ∧ Src v0 xs (w2.alloc (.cells (zs m).toArray 5)) ∧ w2.heap.size ≤ (w2.alloc (.cells (zs m).toArray 5)).heap.size := by
  refine ⟨World.ownsRow_made w2 _ m (Nat.le_refl _) (by unfold maxLen; omega) (by simp [zs]), hs.later ?_, by simp⟩
  exact ((b1.alloc b1.size _).trans O2.2.1).alloc O2.2.2.2 _
theorem after_dec {B : Nat} {v2 v7 : Value} {G Y : List Value} {w1 w2 w6 w7 : World} {o : Obj} {tm : Int} {hd : Value} (O2 : Own B v2 G (w1.alloc (.cells (traceOf tm hd) 32)) w2) (b6 : Below w2.heap.size (w2.alloc o) w6) (O7 : Own w2.heap.size v7 Y w6 w7) :
    w7.cell? ⟨w1.heap.size, 3, none⟩ = some (.int .i64 tm) ∧ w7.ownsRow B 5 1 v2 G.length G ∧ Below w2.heap.size w2 w7 := by
  have b27 : Below w2.heap.size w2 w7 := (((Below.refl _ _).alloc (Nat.le_refl _) o).trans b6).trans O7.2.1
  have hT : w2.heap[w1.heap.size]? = some (.cells (traceOf tm hd) 32 (0, 0)) := O2.block (heap_alloc_new w1 _)
  refine ⟨?_, own_later O2.1 b27, b27⟩
  refine cell_of_block (cs := traceOf tm hd) ?_ rfl
  rw [b27.block _ (Array.getElem?_eq_some_iff.1 hT).1]
  exact hT

theorem lawB_walk (ao : Option Addr) (c : Nat) (xs : List Value) (kind : ByteArray) (tm : Int) (w : World) (hsrc : Src (.slice ao xs.length c) xs w) (hbx : Bytes xs) (h0 : -9223372036854775808 ≤ tm) (h1 : tm ≤ 9223372036854775807)
    (hxl : xs.length ≤ 9223372036854775807) (hkl : kind.size ≤ 9223372036854775807) (htab : TabBelow Ybad.prog w.heap.size w powName .u64 pow10Tab) :
    Calls Ybad.prog 3 #[.slice ao xs.length c, .string kind, .int .i64 tm] w fun e w' => e = .returned (.bool true) ∧ Below w.heap.size w w' := by
  obtain ⟨i0, hi, hz0, hz1, hz2⟩ := info_parts info5
  have HS : Hid (Src (.slice ao xs.length c) xs w) := hsrc
  have HT : Hid (TabBelow Ybad.prog w.heap.size w powName .u64 pow10Tab) := htab
  have HX : Hid (Bytes xs) := hbx
  clear hsrc htab hbx
  by_cases hbig : 1024 < xs.length
  · go_enter Ybad.func3, Ybad.ntmps3
    go_wp2
    go_ret
    exact ⟨rfl, Below.refl _ _⟩
  by_cases hbk : 1024 < kind.size
  · go_enter Ybad.func3, Ybad.ntmps3
    go_wp2
    go_ret
    exact ⟨rfl, Below.refl _ _⟩
  have mk : ∀ w, (Instr.makeSlice 22 (.int .i64 0) (.int .i64 ((xs.length : Int) + (kind.size : Int) + 22))).run Ybad.prog w = .ok (.slice (some ⟨w.heap.size, 0, none⟩) 0 (xs.length + kind.size + 22)) (w.alloc (.cells (zs (xs.length + kind.size + 22)).toArray 5)) :=
    fun w => make5 0 (xs.length + kind.size + 22) (Nat.zero_le _) (by omega) _ (by omega) w
  have il := itoa_length_le tm h0 h1
  have IL : Hid ((itoa tm).length ≤ 21) := il
  clear il
  go_enter Ybad.func3, Ybad.ntmps3
  go_wp2_with (first
    | (go_at_call 5; refine (copy_walk _ xs w HS.out (by omega)).mono ?_; rintro e w1 ⟨v1, rfl, own1, bel1⟩)
    | (go_at_call 6; refine (begin_walk w.heap.size w1.heap.size (traceOf tm (.slice none 0 0)) tm v1 xs kind _ (heap_alloc_new w1 _) rfl h0 h1 (own1.alloc _) (by have := bel1.size; simp; omega) (by omega) (HT.out.on (bel1.alloc bel1.size _))).mono ?_; rintro e w2 ⟨v2, rfl, O2⟩; have F := after_begin HS.out bel1 O2 (xs.length + kind.size + 22) (by omega); obtain ⟨own3, src3, hB3⟩ := F)
    | (at_builtin; refine wpList_append_src rfl (.tmp 35) (.tmp 36) rfl w2.heap.size _ [] rfl own3 _ xs rfl src3 (by simp; omega) hB3 ?_; intro v4 w4 own4 gr4; have O4 := (Own.start own3 hB3).appended own4 gr4 rfl; clear own4 gr4; simp only [List.nil_append] at O4)
    | (at_builtin; refine wpList_append_own_string _ rfl (.tmp 38) (.tmp 39) 22 9 rfl w2.heap.size 5 i0 Ybad.underlying22 Ybad.underlying9 hi hz0 hz1 hz2 v4 xs.length xs rfl O4.1 kind rfl (by unfold maxLen; omega) (by omega) O4.2.2.2 ?_; intro v5 w5 own5 gr5 _; have O5 := O4.appended own5 gr5 (strCells_length _); clear own5 gr5)
    | (at_builtin; refine wpList_append_own _ rfl (.tmp 41) (.tmp 42) 22 rfl w2.heap.size 5 i0 (.int .u8 0) 1 1 Ybad.underlying22 hi hz0 hz1 hz2 rfl (by decide) v5 (xs ++ strCells kind).length (xs ++ strCells kind) rfl (O5.1.alloc _) ⟨w5.heap.size, 0, none⟩ 1 1 [.int .u8 32] rfl rfl one_cells (by intro u hu; simp at hu; subst hu; rfl) (by rw [List.length_append, strCells_length]; unfold maxLen; omega) (by rw [List.length_append, strCells_length]; omega) (by have := O5.2.2.2; simp; omega) ?_; intro v6 w6 own6 gr6 _; have O6 := (O5.alloc _).appended own6 gr6 rfl; clear own6 gr6)
    | (go_at_call 7; refine (dec_walk w2.heap.size tm v6 _ w6 h0 h1 O6.1 O6.2.2.2 (by simp only [List.length_append, strCells_length, List.length_cons, List.length_nil]; omega)).mono ?_; rintro e w7 ⟨v7, rfl, O7⟩; have F7 := after_dec O2 O6.2.1 O7; obtain ⟨hc7, own27, bel27⟩ := F7)
    | (go_at_call 8; refine (eq_owned w.heap.size w2.heap.size v2 v7 _ w7 own27 O7.1 (((HX.out.append (bytes_strCells _)).append (bytes_one _)).append (bytes_byteCells _)) (by simp; omega) (by have := IL.out; simp only [List.length_append, strCells_length, List.length_cons, List.length_nil, byteCells, List.length_map]; omega)).mono ?_; rintro e w8 ⟨rfl, bel8⟩))
  go_ret
  have bw2 : Below w.heap.size w w2 := (bel1.alloc bel1.size _).trans O2.2.1
  exact ⟨rfl, (bw2.trans (bel27.mono bw2.size)).trans (bel8.mono (Nat.le_trans bw2.size bel27.size))⟩
end Go.Proofs.YbulkwqmDoor
