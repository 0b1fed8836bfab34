import Derived.Test.YbulkwqmStage
import Derived.BigRegion
namespace Go.Proofs.Ybulkwqm
open Go.ChangeShapes Go.WideShapes Go.ChangeAt Go.RowKit
set_option linter.unusedVariables false

/-- Of what was there nothing but the blocks on the list has turned. -/
structure But (l : List Nat) (w w' : World) : Prop where
  os : w'.os = w.os
  tape : w'.tape = w.tape
  output : w'.output = w.output
  size : w.heap.size ≤ w'.heap.size
  block : ∀ k, k < w.heap.size → k ∉ l → w'.heap[k]? = w.heap[k]?
theorem But.refl (l : List Nat) (w : World) : But l w w := ⟨rfl, rfl, rfl, Nat.le_refl _, fun _ _ _ => rfl⟩
theorem But.trans {l : List Nat} {a b c : World} (h : But l a b) (k : But l b c) : But l a c := ⟨k.os.trans h.os, k.tape.trans h.tape, k.output.trans h.output, Nat.le_trans h.size k.size, fun i hi hn => (k.block i (Nat.lt_of_lt_of_le hi h.size) hn).trans (h.block i hi hn)⟩
theorem But.alloc {l : List Nat} {a w : World} (h : But l a w) (o : Obj) : But l a (w.alloc o) := h.trans ⟨rfl, rfl, rfl, by simp, fun k hk _ => Below.heap_alloc _ _ _ hk⟩
theorem But.setCell {l : List Nat} {a w : World} (h : But l a w) (p : Addr) (u : Value) (hp : p.block ∈ l ∨ a.heap.size ≤ p.block) : But l a (w.setCell p u) :=
  ⟨h.os, h.tape, h.output, by have := h.size; simpa [World.setCell] using this, fun k hk hn => (Below.heap_setCell _ _ _ _ (by rintro rfl; rcases hp with hp | hp; exact hn hp; omega)).trans (h.block k hk hn)⟩
theorem But.drewN {l : List Nat} {a w : World} (h : But l a w) (n : Nat) : But l a (w.drewN n) := h.trans ⟨rfl, rfl, rfl, Nat.le_refl _, fun _ _ _ => rfl⟩
theorem But.drew {l : List Nat} {a w : World} (h : But l a w) : But l a w.drew := h.trans ⟨rfl, rfl, rfl, Nat.le_refl _, fun _ _ _ => rfl⟩
theorem But.setRow {l : List Nat} {a w : World} (h : But l a w) (g : Nat) (cs : Array Value) (hg : g ∈ l ∨ a.heap.size ≤ g) : But l a (w.setRow g cs) :=
  ⟨h.os, h.tape, h.output, by have := h.size; simpa [World.setRow] using this, fun k hk hn => (setRow_other w g k cs (by rintro rfl; rcases hg with hg | hg; exact hn hg; omega)).trans (h.block k hk hn)⟩
theorem But.below {l : List Nat} {w w' : World} (h : But l w w') (B : Nat) (hB : B ≤ w.heap.size) (hl : ∀ k ∈ l, B ≤ k) : Below B w w' := ⟨h.os, h.tape, h.output, h.size, fun k hk => h.block k (by omega) (fun hm => by have := hl k hm; omega)⟩

theorem hide {p : Prop} (h : p) : Hid p := h
theorem unhide {p : Prop} (h : Hid p) : p := h

/-- While the slots double: the new tables, the old ones, and the rest as it was. -/
def GrowSt (Hb Tb Sb T S : Nat) (q : Int) (wd : Nat) (ts0 ss0 : List Int) (w1 wr : World) : Prop :=
  (∃ ts ss, HP Hb T S q 8 wd ts ss wr) ∧ RowAt Tb .i64 31 ts0 wr ∧ RowAt Sb .u64 32 ss0 wr ∧ But [Hb] w1 wr
theorem GrowSt.head {Hb Tb Sb T S : Nat} {q : Int} {wd : Nat} {ts0 ss0 : List Int} {w1 wr : World} (h : GrowSt Hb Tb Sb T S q wd ts0 ss0 w1 wr) :
    wr.cell? ⟨Hb, 0, none⟩ = some (.int .i64 q) ∧ wr.cell? ⟨Hb, 1, none⟩ = some (.int .i64 (wd : Int)) ∧ wr.cell? ⟨Hb, 2, none⟩ = some (.slice (some ⟨T, 0, none⟩) 8 8) ∧ wr.cell? ⟨Hb, 3, none⟩ = some (.slice (some ⟨S, 0, none⟩) (8 * wd) (8 * wd)) := by
  obtain ⟨⟨ts, ss, H⟩, _⟩ := h
  exact H.head.cells
theorem GrowSt.old {Hb Tb Sb T S : Nat} {q : Int} {wd : Nat} {ts0 ss0 : List Int} {w1 wr : World} (h : GrowSt Hb Tb Sb T S q wd ts0 ss0 w1 wr) (f : Nat) (hf : f < 4) (hl : ts0.length = 16) :
    ∃ v0 v1 v2 v3 : Int, wr.cell? ⟨Tb, f * 4, none⟩ = some (.int .i64 v0) ∧ wr.cell? ⟨Tb, f * 4 + 1, none⟩ = some (.int .i64 v1) ∧ wr.cell? ⟨Tb, f * 4 + 2, none⟩ = some (.int .i64 v2) ∧ wr.cell? ⟨Tb, f * 4 + 3, none⟩ = some (.int .i64 v3) := by
  obtain ⟨_, r, _⟩ := h
  exact ⟨_, _, _, _, r.cell _ (by omega), r.cell _ (by omega), r.cell _ (by omega), r.cell _ (by omega)⟩
theorem GrowSt.new {Hb Tb Sb T S : Nat} {q : Int} {wd : Nat} {ts0 ss0 : List Int} {w1 wr : World} (h : GrowSt Hb Tb Sb T S q wd ts0 ss0 w1 wr) (g : Nat) (hg : g < 8) :
    (∃ v, wr.cell? ⟨T, g * 4, none⟩ = some v) ∧ (∃ v, wr.cell? ⟨T, g * 4 + 1, none⟩ = some v) ∧ (∃ v, wr.cell? ⟨T, g * 4 + 2, none⟩ = some v) ∧ (∃ v, wr.cell? ⟨T, g * 4 + 3, none⟩ = some v) ∧
      wr.frozen? ⟨T, g * 4, none⟩ = false ∧ wr.frozen? ⟨T, g * 4 + 1, none⟩ = false ∧ wr.frozen? ⟨T, g * 4 + 2, none⟩ = false ∧ wr.frozen? ⟨T, g * 4 + 3, none⟩ = false := by
  obtain ⟨⟨ts, ss, H⟩, _⟩ := h
  have := H.lenT
  exact ⟨⟨_, H.rowT.cell _ (by omega)⟩, ⟨_, H.rowT.cell _ (by omega)⟩, ⟨_, H.rowT.cell _ (by omega)⟩, ⟨_, H.rowT.cell _ (by omega)⟩, H.rowT.free _, H.rowT.free _, H.rowT.free _, H.rowT.free _⟩

theorem GrowSt.drewN {Hb Tb Sb T S : Nat} {q : Int} {wd : Nat} {ts0 ss0 : List Int} {w1 wr : World} (h : GrowSt Hb Tb Sb T S q wd ts0 ss0 w1 wr) (n : Nat) : GrowSt Hb Tb Sb T S q wd ts0 ss0 w1 (wr.drewN n) := by
  obtain ⟨⟨ts, ss, H⟩, r1, r2, b⟩ := h
  exact ⟨⟨ts, ss, H.of_heap rfl rfl rfl⟩, r1, r2, b.drewN n⟩
theorem GrowSt.setT {Hb Tb Sb T S : Nat} {q : Int} {wd : Nat} {ts0 ss0 : List Int} {w1 wr : World} (h : GrowSt Hb Tb Sb T S q wd ts0 ss0 w1 wr) (k : Nat) (v : Int) (hT : w1.heap.size ≤ T) (lT : Tb < w1.heap.size) (lS : Sb < w1.heap.size) : GrowSt Hb Tb Sb T S q wd ts0 ss0 w1 (wr.setCell ⟨T, k, none⟩ (.int .i64 v)) := by
  obtain ⟨⟨ts, ss, H⟩, r1, r2, b⟩ := h
  exact ⟨⟨_, _, H.setT k v⟩, r1.other _ _ (by show Tb ≠ T; omega), r2.other _ _ (by show Sb ≠ T; omega), b.setCell _ _ (.inr hT)⟩
theorem HP.spliceS {Hb Tb Sb : Nat} {q : Int} {L wd : Nat} {ts ss : List Int} {w : World} (h : HP Hb Tb Sb q L wd ts ss w) (o : Nat) (xs : List Int) (hfit : o + xs.length ≤ ss.length) :
    HP Hb Tb Sb q L wd ts (ss.take o ++ xs ++ ss.drop (o + xs.length)) (w.setRow Sb (((ss.map (Value.int .u64)).toArray.toList.take o ++ xs.map (Value.int .u64) ++ (ss.map (Value.int .u64)).toArray.toList.drop (o + (xs.map (Value.int .u64)).length)).toArray)) := by
  refine ⟨(setRow_other w Sb Hb _ h.nHS).trans h.head, (setRow_other w Sb Tb _ h.nTS).trans h.rowT, ?_, h.lenT, ?_, h.nHT, h.nHS, h.nTS⟩
  · refine (setRow_heap w Sb _ _ 32 _ h.rowS).trans ?_
    simp [List.map_take, List.map_drop]
  · have := h.lenS
    simp; omega
theorem copy_step {Hb Tb Sb S T : Nat} {q : Int} {wd : Nat} {ts0 ss0 : List Int} {w1 wc : World} (h : GrowSt Hb Tb Sb T S q wd ts0 ss0 w1 wc) (f g : Nat) (hf : f < 4) (hg : g < 8) (d1 : 1 ≤ wd) (ls0 : ss0.length = 4 * wd) (lS : Sb < w1.heap.size) (lT : Tb < w1.heap.size) (hS : w1.heap.size ≤ S) :
    ∃ wz, (Builtin.copy_ #[23, 23] 3 #[.slice (some ⟨S, g * wd, none⟩) ((g + 1) * wd - g * wd) (8 * wd - g * wd), .slice (some ⟨Sb, f * wd, none⟩) (4 * wd - f * wd) (4 * wd - f * wd)]).run Yba.prog wc.drew = .ok (.int .i64 (wd : Int)) wz ∧ GrowSt Hb Tb Sb T S q wd ts0 ss0 w1 wz := by
  obtain ⟨⟨ts, ss, H⟩, r1, r2, b⟩ := h
  have m1 : (g + 1) * wd ≤ 8 * wd := Nat.mul_le_mul_right _ hg
  have m2 : (f + 1) * wd ≤ 4 * wd := Nat.mul_le_mul_right _ hf
  rw [Nat.add_mul, Nat.one_mul] at m1 m2
  have hs1 : (g + 1) * wd - g * wd = wd := by rw [Nat.add_mul, Nat.one_mul]; omega
  have Hd : HP Hb T S q 8 wd ts ss wc.drew := H.of_heap rfl rfl rfl
  have hlx : ((ss0.drop (f * wd)).take wd).length = wd := by simp; omega
  have hls := H.lenS
  have hr := run_copy_row (P := Yba.prog) wc.drew 23 23 3 32 S (g * wd) ((g + 1) * wd - g * wd) (8 * wd - g * wd) ⟨Sb, f * wd, none⟩ (4 * wd - f * wd) (4 * wd - f * wd) _ 32 (((ss0.drop (f * wd)).take wd).map (Value.int .u64)) Yba.underlying23 (by kernel_rfl) Hd.rowS
    (by rw [List.length_map, hlx, hs1]; show _ = min _ _; omega)
    (by
      intro j v hj
      rw [add_plain]
      show wc.cell? _ = _
      rw [cell_of_row wc Sb _ _ 32 (0, 0) r2]
      rw [List.getElem?_map, List.getElem?_take] at hj
      have hjl : j < wd := by
        by_cases hq : j < wd
        · exact hq
        · rw [if_neg hq] at hj; simp at hj
      rw [if_pos hjl, List.getElem?_drop] at hj
      simpa using hj)
    (by simp only [List.length_map, hlx, List.size_toArray]; omega)
    (by intro v hv; obtain ⟨_, _, rfl⟩ := List.mem_map.1 hv; rfl)
  have hgo : goInt (((ss0.drop (f * wd)).take wd).map (Value.int .u64)).length = .int .i64 (wd : Int) := by rw [List.length_map, hlx]; rfl
  rw [hgo] at hr
  refine ⟨_, hr, ⟨_, _, Hd.spliceS (g * wd) ((ss0.drop (f * wd)).take wd) (by rw [hlx]; omega)⟩, ?_, ?_, ?_⟩
  · exact r1.of_eq (setRow_other _ _ _ _ (by omega))
  · exact r2.of_eq (setRow_other _ _ _ _ (by omega))
  · exact (b.drew).setRow S _ (.inr hS)

theorem grow_start {Hb Tb Sb : Nat} {q : Int} {wd : Nat} {ts0 ss0 : List Int} {w1 : World} (H : HP Hb Tb Sb q 4 wd ts0 ss0 w1) :
    GrowSt Hb Tb Sb w1.heap.size (w1.heap.size + 1) q wd ts0 ss0 w1 (((((w1.setCell ⟨Hb, 2, none⟩ (.slice (some ⟨w1.heap.size, 0, none⟩) 8 8)).setCell ⟨Hb, 3, none⟩ (.slice (some ⟨w1.heap.size + 1, 0, none⟩) (8 * wd) (8 * wd))).alloc (.cells ((zs 32).map (Value.int .i64)).toArray 31)).alloc (.cells ((zs (8 * wd)).map (Value.int .u64)).toArray 32)).drew) := by
  have lH : Hb < w1.heap.size := (Array.getElem?_eq_some_iff.1 H.head).1
  have lT : Tb < w1.heap.size := (Array.getElem?_eq_some_iff.1 H.rowT).1
  have lS : Sb < w1.heap.size := (Array.getElem?_eq_some_iff.1 H.rowS).1
  have hs1 : (w1.setCell ⟨Hb, 2, none⟩ (.slice (some ⟨w1.heap.size, 0, none⟩) 8 8)).heap.size = w1.heap.size := by simp [World.setCell]
  have hs2 : ((w1.setCell ⟨Hb, 2, none⟩ (.slice (some ⟨w1.heap.size, 0, none⟩) 8 8)).setCell ⟨Hb, 3, none⟩ (.slice (some ⟨w1.heap.size + 1, 0, none⟩) (8 * wd) (8 * wd))).heap.size = w1.heap.size := by simp [World.setCell]
  have e1 := heap_setCell_same w1 Hb 2 _ 27 (.slice (some ⟨w1.heap.size, 0, none⟩) 8 8) H.head
  have e2 := heap_setCell_same _ Hb 3 _ 27 (.slice (some ⟨w1.heap.size + 1, 0, none⟩) (8 * wd) (8 * wd)) e1
  have hold : ∀ k, k < w1.heap.size → (((((w1.setCell ⟨Hb, 2, none⟩ (.slice (some ⟨w1.heap.size, 0, none⟩) 8 8)).setCell ⟨Hb, 3, none⟩ (.slice (some ⟨w1.heap.size + 1, 0, none⟩) (8 * wd) (8 * wd))).alloc (.cells ((zs 32).map (Value.int .i64)).toArray 31)).alloc (.cells ((zs (8 * wd)).map (Value.int .u64)).toArray 32)).drew).heap[k]? =
      ((w1.setCell ⟨Hb, 2, none⟩ (.slice (some ⟨w1.heap.size, 0, none⟩) 8 8)).setCell ⟨Hb, 3, none⟩ (.slice (some ⟨w1.heap.size + 1, 0, none⟩) (8 * wd) (8 * wd))).heap[k]? := fun k hk =>
    (Below.heap_alloc _ _ _ (by simp [hs2]; omega)).trans (Below.heap_alloc _ _ _ (by rw [hs2]; exact hk))
  refine ⟨⟨zs 32, zs (8 * wd), ⟨?_, ?_, ?_, by simp [zs], by simp [zs], by omega, by omega, by omega⟩⟩, ?_, ?_, ?_⟩
  · exact (hold Hb lH).trans e2
  · refine (Below.heap_alloc _ _ _ (by simp [hs2])).trans (heap_at _ _ _ hs2.symm)
  · exact heap_at _ _ _ (by simp [hs2])
  · exact (H.rowT.other _ _ (Ne.symm H.nHT)).other ⟨Hb, 3, none⟩ (.slice (some ⟨w1.heap.size + 1, 0, none⟩) (8 * wd) (8 * wd)) (Ne.symm H.nHT) |>.of_eq (hold Tb lT)
  · exact (H.rowS.other _ _ (Ne.symm H.nHS)).other ⟨Hb, 3, none⟩ (.slice (some ⟨w1.heap.size + 1, 0, none⟩) (8 * wd) (8 * wd)) (Ne.symm H.nHS) |>.of_eq (hold Sb lS)
  · exact (((((But.refl _ _).setCell _ _ (by simp)).setCell _ _ (by simp)).alloc _).alloc _).drew

set_option maxRecDepth 100000 in
set_option maxHeartbeats 4000000 in
theorem slot_grow (Hb Tb Sb wd : Nat) (q t h : Int) (ts0 ss0 : List Int) (w : World) (H : HP Hb Tb Sb q 4 wd ts0 ss0 w) (ht : 0 ≤ t) (htb : t ≤ 4294967295) (h4 : 4 ≤ h - t) (h8 : h - t < 8) (d1 : 1 ≤ wd) (d3 : wd ≤ 3) :
    Calls Yba.prog 10 #[.pointer (some ⟨Hb, 0, none⟩), .int .i64 t, .int .i64 h] w fun e w' => ∃ T S ts ss, e = .returned (.int .i64 (h % 8)) ∧ HP Hb T S q 8 wd ts ss w' ∧ w.heap.size ≤ T ∧ w.heap.size ≤ S ∧ But [Hb] w w' := by
  obtain ⟨c0, c1, c2, c3⟩ := H.head.cells
  have HH : Hid (HP Hb Tb Sb q 4 wd ts0 ss0 w) := H
  have mk1 : ∀ w, (Instr.makeSlice 25 (.int .i64 8) (.int .i64 8)).run Yba.prog w = .ok (.slice (some ⟨w.heap.size, 0, none⟩) 8 8) (w.alloc (.cells ((zs 32).map (Value.int .i64)).toArray 31)) := fun w => make31 8 (by omega) w
  have mk2 : ∀ w, (Instr.makeSlice 23 (.int .i64 (8 * (wd : Int))) (.int .i64 (8 * (wd : Int)))).run Yba.prog w = .ok (.slice (some ⟨w.heap.size, 0, none⟩) (8 * wd) (8 * wd)) (w.alloc (.cells ((zs (8 * wd)).map (Value.int .u64)).toArray 32)) := fun w => make32 (8 * wd) (by omega) w _ (by simp)
  clear H
  go_enter Yba.func10, Yba.ntmps10
  go_wp2
  refine wp_loop_rounds 2 ?_
  rw [rounds_succ]
  go_wp2
  go_quiet (fail)
  obtain ⟨w1, hw1⟩ : ∃ w1, w1 = w.drewN nq := ⟨_, rfl⟩
  rw [← hw1]
  have HW1 : Hid (w1 = w.drewN nq) := hw1
  have H1 : HP Hb Tb Sb q 4 wd ts0 ss0 w1 := HH.out.of_heap (by rw [hw1]; rfl) (by rw [hw1]; rfl) (by rw [hw1]; rfl)
  clear hw1 c0 c1 c2 c3
  obtain ⟨c0, c1, c2, c3⟩ := H1.head.cells
  have f2 : w1.frozen? ⟨Hb, 2, none⟩ = false := frozen_of_row w1 Hb 2 _ 27 H1.head
  have f3 : w1.frozen? ⟨Hb, 3, none⟩ = false := frozen_of_row w1 Hb 3 _ 27 H1.head
  have lH : Hb < w1.heap.size := World.block_lt_of_cell? _ _ c0
  have g2 : ∀ o, (w1.alloc o).frozen? ⟨Hb, 2, none⟩ = false := fun o => (((Below.refl _ _).alloc (Nat.le_refl _) o).frozen (p := ⟨Hb, 2, none⟩) lH).trans f2
  have g3 : ∀ o1, (w1.alloc o1).frozen? ⟨Hb, 3, none⟩ = false := fun o => (((Below.refl _ _).alloc (Nat.le_refl _) o).frozen (p := ⟨Hb, 3, none⟩) lH).trans f3
  have g3' : ∀ o1 o2, ((w1.alloc o1).alloc o2).frozen? ⟨Hb, 3, none⟩ = false := fun o1 o2 => ((((Below.refl _ _).alloc (Nat.le_refl _) o1).alloc (by simp) o2).frozen (p := ⟨Hb, 3, none⟩) lH).trans f3
  have lH1 : Hb < w1.heap.size + 1 := by omega
  have HH1 : Hid (HP Hb Tb Sb q 4 wd ts0 ss0 w1) := H1
  clear H1
  go_wp2
  go_region
  go_wp2
  have hG : GrowSt Hb Tb Sb w1.heap.size (w1.heap.size + 1) q wd ts0 ss0 w1 _ := grow_start HH1.out
  have lT : Tb < w1.heap.size := (Array.getElem?_eq_some_iff.1 HH1.out.rowT).1
  have lS : Sb < w1.heap.size := (Array.getElem?_eq_some_iff.1 HH1.out.rowS).1
  have lt0 : ts0.length = 16 := by have := HH1.out.lenT; omega
  have ls0 : ss0.length = 4 * wd := HH1.out.lenS
  clear mk1 mk2 g2 g3 g3' f2 f3 c0 c1 c2 c3 lH1
  have HG := hide hG
  clear hG
  go_loopw [9, 10, 11] (fun p _ _ wr => ∃ k : Nat, k ≤ 4 ∧ p = .int .i64 (t + (k : Int)) ∧ GrowSt Hb Tb Sb w1.heap.size (w1.heap.size + 1) q wd ts0 ss0 w1 wr) (fun p _ _ _ => (t + 4 - intOf p).toNat)
  case atStart => exact ⟨0, Nat.zero_le _, by simp, unhide HG⟩
  case round =>
    obtain ⟨k, hk, rfl, hG⟩ := hrel
    clear HG
    have HG : Hid (GrowSt Hb Tb Sb w1.heap.size (w1.heap.size + 1) q wd ts0 ss0 w1 wr) := hG
    obtain ⟨c0, c1, c2, c3⟩ := hG.head
    by_cases hk4 : k < 4
    · obtain ⟨f, hf⟩ : ∃ f : Nat, (t + (k : Int)) % 4 = (f : Int) := ⟨((t + (k : Int)) % 4).toNat, by omega⟩
      obtain ⟨g, hg⟩ : ∃ g : Nat, (t + (k : Int)) % 8 = (g : Int) := ⟨((t + (k : Int)) % 8).toNat, by omega⟩
      have hf4 : f < 4 := by omega
      have hg8 : g < 8 := by omega
      obtain ⟨v0, v1, v2, v3, x0, x1, x2, x3⟩ := hG.old f hf4 lt0
      obtain ⟨y0, y1, y2, y3, z0, z1, z2, z3⟩ := hG.new g hg8
      clear hG
      go_wp2
      go_quiet (fail)
      go_upto_region 9 with fail
      go_cut [] from 70 to 79 (fun wx => GrowSt Hb Tb Sb w1.heap.size (w1.heap.size + 1) q wd ts0 ss0 w1 wx)
      case first =>
        obtain ⟨y0v, y0⟩ := y0
        obtain ⟨y1v, y1⟩ := y1
        obtain ⟨y2v, y2⟩ := y2
        obtain ⟨y3v, y3⟩ := y3
        go_region
        all_goals
          go_wp2
          go_meet
          case rel => exact ((((HG.out.drewN _).setT _ _ (Nat.le_refl _) lT lS).setT _ _ (Nat.le_refl _) lT lS).setT _ _ (Nat.le_refl _) lT lS).setT _ _ (Nat.le_refl _) lT lS
      case rest =>
        clear c0 c1 c2 c3 x0 x1 x2 x3 y0 y1 y2 y3 z0 z1 z2 z3 HG
        have HG : Hid (GrowSt Hb Tb Sb w1.heap.size (w1.heap.size + 1) q wd ts0 ss0 w1 wc) := hcut
        obtain ⟨c0, c1, c2, c3⟩ := hcut.head
        clear hcut
        have m1 : (g + 1) * wd ≤ 8 * wd := Nat.mul_le_mul_right _ hg8
        have m2 : (f + 1) * wd ≤ 4 * wd := Nat.mul_le_mul_right _ hf4
        have m3 : (g + 1) * wd = g * wd + wd := by rw [Nat.add_mul, Nat.one_mul]
        have m4 : (f + 1) * wd = f * wd + wd := by rw [Nat.add_mul, Nat.one_mul]
        have n1 : (0 : Int) ≤ (g : Int) * (wd : Int) := by rw [← Int.natCast_mul]; omega
        have n2 : (g : Int) * (wd : Int) ≤ ((g : Int) + 1) * (wd : Int) := by rw [← Int.natCast_mul, show ((g : Int) + 1) = ((g + 1 : Nat) : Int) from by omega, ← Int.natCast_mul]; omega
        have n3 : ((g : Int) + 1) * (wd : Int) ≤ 8 * (wd : Int) := by rw [show ((g : Int) + 1) = ((g + 1 : Nat) : Int) from by omega, ← Int.natCast_mul]; omega
        have n4 : ((g : Int) + 1) * (wd : Int) ≤ 24 := by omega
        have n5 : (0 : Int) ≤ (f : Int) * (wd : Int) := by rw [← Int.natCast_mul]; omega
        have n6 : (f : Int) * (wd : Int) ≤ 4 * (wd : Int) := by rw [← Int.natCast_mul]; omega
        have n7 : (f : Int) * (wd : Int) ≤ 12 := by omega
        have e1 : ¬ 8 * wd = g * wd := by omega
        have e2 : ¬ 4 * wd = f * wd := by omega
        obtain ⟨wz, hcp, hz⟩ := copy_step HG.out f g hf4 hg8 d1 ls0 lS lT (Nat.le_succ _)
        have HZ : Hid (GrowSt Hb Tb Sb w1.heap.size (w1.heap.size + 1) q wd ts0 ss0 w1 wz) := hz
        clear m1 m2 m3 m4 hz HG
        go_wp2
        go_region
        all_goals
          go_wp2
          go_roundw
          case rel => exact ⟨k + 1, by omega, by go_num, HZ.out⟩
          case measure => simp [intOf]; omega
    · have hk' : k = 4 := by omega
      subst hk'
      clear hG
      go_wp2_with fail
      rw [rounds_succ]
      go_wp2
      go_ret
      obtain ⟨⟨ts, ss, H8⟩, _, _, hBt⟩ := HG.out
      have hsz : w1.heap.size = w.heap.size := by rw [HW1.out]; rfl
      exact ⟨_, _, ts, ss, rfl, H8, by omega, by omega, ((But.refl [Hb] w).drewN nq).trans (by rw [← HW1.out]; exact hBt)⟩
end Go.Proofs.Ybulkwqm
