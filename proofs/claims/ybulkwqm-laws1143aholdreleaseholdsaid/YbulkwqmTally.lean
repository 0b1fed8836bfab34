import Derived.Test.YbulkwqmHold
namespace Go.Proofs.Ybulkwqm
open Go.ChangeShapes Go.WideShapes Go.ChangeAt Go.RowKit
set_option linter.unusedVariables false

def tallyAt (ts : List Int) (i : Nat) : Value := .agg #[.int .i64 (ts.getD (i * 4) 0), .int .i64 (ts.getD (i * 4 + 1) 0), .int .i64 (ts.getD (i * 4 + 2) 0), .int .i64 (ts.getD (i * 4 + 3) 0)]

set_option maxRecDepth 100000 in
set_option maxHeartbeats 4000000 in
theorem tally_any (Hb Tb Sb L wd i : Nat) (q t h : Int) (ts ss : List Int) (w : World) (H : HP Hb Tb Sb q L wd ts ss w) (ht : 0 ≤ t) (hth : t ≤ h) (hh : h ≤ 9223372036854775807) (hL : 0 < L) (hlt : h - t < (L : Int)) (hm : L ≤ 1024) (hi : h % (L : Int) = (i : Int)) :
    Calls Yba.prog 9 #[.pointer (some ⟨Hb, 0, none⟩), .int .i64 t, .int .i64 h] w fun e w' => e = .returned (tallyAt ts i) ∧ Below w.heap.size w w' := by
  have hiL : i < L := by have := Int.emod_lt_of_pos h (show (0 : Int) < L by omega); omega
  obtain ⟨c0, c1, c2, c3⟩ := H.head.cells
  have lt := H.lenT
  have e0 := H.rowT.cell (i * 4) (by omega)
  have e1 := H.rowT.cell (i * 4 + 1) (by omega)
  have e2 := H.rowT.cell (i * 4 + 2) (by omega)
  have e3 := H.rowT.cell (i * 4 + 3) (by omega)
  obtain ⟨v0, h0⟩ : ∃ v, v = ts.getD (i * 4) 0 := ⟨_, rfl⟩
  obtain ⟨v1, h1⟩ : ∃ v, v = ts.getD (i * 4 + 1) 0 := ⟨_, rfl⟩
  obtain ⟨v2, h2⟩ : ∃ v, v = ts.getD (i * 4 + 2) 0 := ⟨_, rfl⟩
  obtain ⟨v3, h3⟩ : ∃ v, v = ts.getD (i * 4 + 3) 0 := ⟨_, rfl⟩
  have hv : Hid (tallyAt ts i = .agg #[.int .i64 v0, .int .i64 v1, .int .i64 v2, .int .i64 v3]) := by show _ = _; rw [h0, h1, h2, h3]; rfl
  rw [← h0] at e0
  rw [← h1] at e1
  rw [← h2] at e2
  rw [← h3] at e3
  have lH : Hb < w.heap.size := World.block_lt_of_cell? _ _ c0
  have lT : Tb < w.heap.size := World.block_lt_of_cell? _ _ e0
  have C2 : Hid (∀ o, (w.alloc o).cell? ⟨Hb, 2, none⟩ = some (.slice (some ⟨Tb, 0, none⟩) L L)) := fun o => cell_later ((Below.refl _ _).alloc (Nat.le_refl _) o) c2
  clear H lt h0 h1 h2 h3
  rw [hv.out]
  go_enter Yba.func9, Yba.ntmps9
  go_wp2
  go_region_with (go_at_call 10; refine (slot_has Hb Tb L t h _ (by exact C2.out _) ht hth hh hL hlt hm).mono ?_; rintro e w' ⟨rfl, rfl⟩)
  all_goals
    go_wp2
    refine bodyPost_ret (v := .agg #[.int .i64 v0, .int .i64 v1, .int .i64 v2, .int .i64 v3]) (by simp [results, Yba.results9, go_sem]) rfl ⟨rfl, ((Below.refl _ _).alloc (Nat.le_refl _) _).drew⟩

/-- hold, with whatever becomes of the tables. -/
theorem hold_any (Hb Tb Sb L wd : Nat) (q t h fr b : Int) (w0 w : World) (F : Filled Hb Tb Sb q L wd w0 w) (hL : L = 4 ∨ L = 8) (ht : 0 ≤ t) (htb : t ≤ 4294967295) (hth : t ≤ h) (h5 : h ≤ t + 5) (d1 : 1 ≤ wd) (d3 : wd ≤ 3) (hf0 : 0 ≤ fr) (hf1 : fr < 64 * (wd : Int)) (hb : b = 1 ∨ b = 2) :
    Calls Yba.prog 8 #[.pointer (some ⟨Hb, 0, none⟩), .int .i64 t, .int .i64 h, .int .i64 fr, .int .i8 b] w fun e w' => e = .returned (.tuple #[]) ∧ ∃ T S L' : Nat, Filled Hb T S q L' wd w0 w' ∧ (L' = 4 ∨ L' = 8) := by
  refine (hold_gen (fun T S L' ts ss i w1 => (L' = 4 ∨ L' = 8) ∧ Filled Hb T S q L' wd w0 w1) Hb wd q t h fr b w d1 d3 hf0 hf1 hb ((slot_all Hb Tb Sb L wd q t h w0 w F hL ht htb hth h5 d1 d3).mono ?_)).mono ?_
  · rintro e w1 ⟨T, S, L', rfl, F1, hL'⟩
    obtain ⟨⟨ts, ss, H⟩, hrest⟩ := F1
    have hi : h % (L' : Int) = (((h % (L' : Int)).toNat : Nat) : Int) := by rcases hL' with rfl | rfl <;> omega
    refine ⟨T, S, L', ts, ss, (h % (L' : Int)).toNat, by rw [← hi], by rcases hL' with rfl | rfl <;> omega, by omega, H, hL', ⟨ts, ss, H⟩, hrest⟩
  · rintro e w' ⟨T, S, L', ts, ss, i, w1, rfl, ⟨hL', F1⟩, H, hi, ts', ss', H', hO, _⟩
    obtain ⟨_, hB, qH, qT, qS⟩ := F1
    exact ⟨rfl, T, S, L', ⟨⟨ts', ss', H'⟩, hB.trans (hO.below _ (by simp; omega)), qH, qT, qS⟩, hL'⟩

/-- hold into an empty slot that is there. -/
theorem hold_one (Hb Tb Sb L wd i : Nat) (q t fr : Int) (ts ss : List Int) (w : World) (H : HP Hb Tb Sb q L wd ts ss w) (ht : 0 ≤ t) (htb : t ≤ 4294967295) (hL : 0 < L) (hL8 : L ≤ 8) (d1 : 1 ≤ wd) (d3 : wd ≤ 3) (hf0 : 0 ≤ fr) (hf1 : fr < 64 * (wd : Int)) (hi : t % (L : Int) = (i : Int))
    (hq : q ≠ 0) (hz : ∀ c, c < 4 → ts.getD (i * 4 + c) 0 = 0) (hs : ∀ j, i * wd ≤ j → j < i * wd + wd → ss.getD j 0 = 0) :
    Calls Yba.prog 8 #[.pointer (some ⟨Hb, 0, none⟩), .int .i64 t, .int .i64 t, .int .i64 fr, .int .i8 1] w fun e w' => e = .returned (.tuple #[]) ∧ ∃ ts' ss', HP Hb Tb Sb q L wd ts' ss' w' ∧ Oth [Tb, Sb] w w' ∧ ts'.getD (i * 4) 0 = 1 ∧ ts'.getD (i * 4 + 2) 0 = 1 ∧ ts'.getD (i * 4 + 3) 0 = 0 := by
  have hiL : i < L := by have := Int.emod_lt_of_pos t (show (0 : Int) < L by omega); omega
  refine (hold_gen (fun T S L' ts1 ss1 i1 w1 => T = Tb ∧ S = Sb ∧ L' = L ∧ ts1 = ts ∧ ss1 = ss ∧ i1 = i ∧ w1 = w) Hb wd q t t fr 1 w d1 d3 hf0 hf1 (.inl rfl) ((slot_has Hb Tb L t t w H.head.cells.2.2.1 ht (by omega) (by omega) hL (by omega) (by omega)).mono ?_)).mono ?_
  · rintro e w1 ⟨rfl, rfl⟩
    exact ⟨Tb, Sb, L, ts, ss, i, by rw [hi], hiL, hL8, H, rfl, rfl, rfl, rfl, rfl, rfl, rfl⟩
  · rintro e w' ⟨T, S, L', ts1, ss1, i1, w1, rfl, ⟨rfl, rfl, rfl, rfl, rfl, rfl, rfl⟩, _, _, ts', ss', H', hO, h1⟩
    exact ⟨rfl, ts', ss', H', hO, h1 hq hz hs rfl⟩
end Go.Proofs.Ybulkwqm
