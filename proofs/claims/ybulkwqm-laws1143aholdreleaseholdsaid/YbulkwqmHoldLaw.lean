import Derived.Test.YbulkwqmTally
namespace Go.Proofs.Ybulkwqm
open Go.ChangeShapes Go.WideShapes Go.ChangeAt Go.RowKit
set_option linter.unusedVariables false

theorem HP.lts {Hb Tb Sb : Nat} {q : Int} {L wd : Nat} {ts ss : List Int} {w : World} (h : HP Hb Tb Sb q L wd ts ss w) : Hb < w.heap.size ∧ Tb < w.heap.size ∧ Sb < w.heap.size :=
  ⟨(Array.getElem?_eq_some_iff.1 h.head).1, (Array.getElem?_eq_some_iff.1 h.rowT).1, (Array.getElem?_eq_some_iff.1 h.rowS).1⟩
theorem HP.later {Hb Tb Sb : Nat} {q : Int} {L wd : Nat} {ts ss : List Int} {w w' : World} (h : HP Hb Tb Sb q L wd ts ss w) (hb : Below w.heap.size w w') : HP Hb Tb Sb q L wd ts ss w' :=
  h.of_heap (hb.block _ h.lts.1) (hb.block _ h.lts.2.1) (hb.block _ h.lts.2.2)
theorem Filled.later {Hb Tb Sb : Nat} {q : Int} {n wd : Nat} {w wx wy : World} (h : Filled Hb Tb Sb q n wd w wx) (hb : Below wx.heap.size wx wy) : Filled Hb Tb Sb q n wd w wy := by
  obtain ⟨⟨ts, ss, H⟩, hB, r⟩ := h
  exact ⟨⟨ts, ss, H.later hb⟩, hB.trans (hb.mono hB.size), r⟩

/-- The operations as they came in. -/
def OpsSrc (a : Option Addr) (len : Nat) (w : World) : Prop := len = 0 ∨ ∃ b off, a = some ⟨b, off, none⟩ ∧ ∀ i, i < len → ∃ (x y : Int) (z : Bool), w.cell? ⟨b, off + i * 3, none⟩ = some (.int .u8 x) ∧ w.cell? ⟨b, off + i * 3 + 1, none⟩ = some (.int .u16 y) ∧ w.cell? ⟨b, off + i * 3 + 2, none⟩ = some (.bool z) ∧ 0 ≤ x ∧ x ≤ 255 ∧ 0 ≤ y ∧ y ≤ 65535
theorem OpsSrc.later {a : Option Addr} {len : Nat} {w w' : World} (h : OpsSrc a len w) (hb : Below w.heap.size w w') : OpsSrc a len w' := by
  rcases h with h | ⟨b, off, rfl, h⟩
  · exact .inl h
  · refine .inr ⟨b, off, rfl, fun i hi => ?_⟩
    obtain ⟨x, y, z, h1, h2, h3, r⟩ := h i hi
    exact ⟨x, y, z, cell_later hb h1, cell_later hb h2, cell_later hb h3, r⟩

theorem modw {y : Int} {wd : Nat} (d1 : 1 ≤ wd) : 0 ≤ y % ((wd : Int) * 64) ∧ y % ((wd : Int) * 64) < 64 * (wd : Int) := by
  have h1 := Int.emod_nonneg y (show (wd : Int) * 64 ≠ 0 by omega)
  have h2 := Int.emod_lt_of_pos y (show (0 : Int) < (wd : Int) * 64 by omega)
  omega

def idx (t : Int) (L m : Nat) : Nat := ((t + (m : Int)) % (L : Int)).toNat
/-- While the tallies are put by: the table, the row of those put by so far (1 .. k - 1). -/
def Bef (Hb Tb Sb Bf : Nat) (q : Int) (L wd : Nat) (t : Int) (ts ss : List Int) (w : World) (k : Nat) (wx : World) : Prop :=
  HP Hb Tb Sb q L wd ts ss wx ∧ Below w.heap.size w wx ∧ w.heap.size ≤ Bf ∧ Bf ≠ Hb ∧ Bf ≠ Tb ∧ Bf ≠ Sb ∧ ∃ bs : List Int, RowAt Bf .i64 31 bs wx ∧ bs.length = 4 * L ∧ ∀ m, 1 ≤ m → m < k → ∀ c, c < 4 → bs.getD (m * 4 + c) 0 = ts.getD (idx t L m * 4 + c) 0
theorem before_start {Hb Tb Sb : Nat} {q : Int} {L wd : Nat} {t : Int} {ts ss : List Int} {w wr : World} (H : HP Hb Tb Sb q L wd ts ss wr) (hB : Below w.heap.size w wr) :
    Bef Hb Tb Sb wr.heap.size q L wd t ts ss w 1 (wr.alloc (.cells ((zs (4 * L)).map (Value.int .i64)).toArray 31)) := by
  have hl := H.lts
  have hb : Below wr.heap.size wr (wr.alloc (.cells ((zs (4 * L)).map (Value.int .i64)).toArray 31)) := (Below.refl _ _).alloc (Nat.le_refl _) _
  exact ⟨H.later hb, hB.trans (hb.mono hB.size), hB.size, by omega, by omega, by omega, zs (4 * L), heap_alloc_new wr _, by simp [zs], fun m h1 h2 => by omega⟩

theorem Bef.put {Hb Tb Sb Bf : Nat} {q : Int} {L wd : Nat} {t : Int} {ts ss : List Int} {w : World} {m : Nat} {wx : World} (h : Bef Hb Tb Sb Bf q L wd t ts ss w m wx) (hm : m < L) :
    Bef Hb Tb Sb Bf q L wd t ts ss w (m + 1) ((((wx.setCell ⟨Bf, m * 4, none⟩ (.int .i64 (ts[idx t L m * 4]?.getD 0))).setCell ⟨Bf, m * 4 + 1, none⟩ (.int .i64 (ts[idx t L m * 4 + 1]?.getD 0))).setCell ⟨Bf, m * 4 + 2, none⟩ (.int .i64 (ts[idx t L m * 4 + 2]?.getD 0))).setCell ⟨Bf, m * 4 + 3, none⟩ (.int .i64 (ts[idx t L m * 4 + 3]?.getD 0))) := by
  obtain ⟨H, hB, f0, f1, f2, f3, bs, hr, lb, hh⟩ := h
  have hp : ∀ (k : Nat) (v : Value) (w : World), HP Hb Tb Sb q L wd ts ss w → HP Hb Tb Sb q L wd ts ss (w.setCell ⟨Bf, k, none⟩ v) := fun k v w H =>
    H.of_heap (heap_setCell_other w _ Hb v (Ne.symm f1)) (heap_setCell_other w _ Tb v (Ne.symm f2)) (heap_setCell_other w _ Sb v (Ne.symm f3))
  have hbl : ∀ (k : Nat) (v : Value) (wx : World), Below w.heap.size w wx → Below w.heap.size w (wx.setCell ⟨Bf, k, none⟩ v) := fun k v wx h => h.setCell (p := ⟨Bf, k, none⟩) f0 v
  refine ⟨hp _ _ _ (hp _ _ _ (hp _ _ _ (hp _ _ _ H))), hbl _ _ _ (hbl _ _ _ (hbl _ _ _ (hbl _ _ _ hB))), f0, f1, f2, f3, _, (((hr.set _ _).set _ _).set _ _).set _ _, by simpa using lb, ?_⟩
  intro m' h1 h2 c hc
  by_cases hmm : m' = m
  · subst hmm
    have : c = 0 ∨ c = 1 ∨ c = 2 ∨ c = 3 := by omega
    rcases this with rfl | rfl | rfl | rfl <;> simp only [List.getD_eq_getElem?_getD, List.getElem?_set, List.length_set, Nat.add_zero] <;> (repeat (first | rw [if_pos trivial] | rw [if_pos (by omega)] | rw [if_neg (by omega)])) <;> simp
  · have := hh m' h1 (by omega) c hc
    rw [← this]
    simp only [List.getD, List.getElem?_set]
    rw [if_neg (by omega), if_neg (by omega), if_neg (by omega), if_neg (by omega)]

/-- Once the phase is let go. -/
def Aft (Hb Tb Sb Bf : Nat) (q : Int) (L wd : Nat) (ts ss bs : List Int) (w wx : World) : Prop :=
  HP Hb Tb Sb q L wd ts ss wx ∧ Below w.heap.size w wx ∧ RowAt Bf .i64 31 bs wx
theorem Aft.later {Hb Tb Sb Bf : Nat} {q : Int} {L wd : Nat} {ts ss bs : List Int} {w wx wy : World} (h : Aft Hb Tb Sb Bf q L wd ts ss bs w wx) (hb : Below wx.heap.size wx wy) : Aft Hb Tb Sb Bf q L wd ts ss bs w wy :=
  ⟨h.1.later hb, h.2.1.trans (hb.mono h.2.1.size), (hb.block _ (Array.getElem?_eq_some_iff.1 h.2.2).1).trans h.2.2⟩
theorem agg_eq {ts : List Int} {i : Nat} {a b c d : Int} (h0 : ts.getD (i * 4) 0 = a) (h1 : ts.getD (i * 4 + 1) 0 = b) (h2 : ts.getD (i * 4 + 2) 0 = c) (h3 : ts.getD (i * 4 + 3) 0 = d) :
    tallyAt ts i = .agg #[.int .i64 a, .int .i64 b, .int .i64 c, .int .i64 d] := by
  subst h0 h1 h2 h3; rfl
theorem idx_ne {t : Int} {L m : Nat} (hL : 0 < L) (h1 : 1 ≤ m) (h2 : m < L) : idx t L m ≠ idx t L 0 := by
  intro h
  have e1 := Int.emod_nonneg (t + (m : Int)) (show (L : Int) ≠ 0 by omega)
  have e2 := Int.emod_nonneg (t + ((0 : Nat) : Int)) (show (L : Int) ≠ 0 by omega)
  have h' : (t + (m : Int)) % (L : Int) = (t + ((0 : Nat) : Int)) % (L : Int) := by simp only [idx] at h; omega
  have hd : (L : Int) ∣ (t + (m : Int)) - (t + ((0 : Nat) : Int)) := Int.dvd_of_emod_eq_zero (by rw [Int.sub_emod, h']; simp)
  have he : (t + (m : Int)) - (t + ((0 : Nat) : Int)) = (m : Int) := by omega
  rw [he] at hd
  have := Int.le_of_dvd (by omega) hd
  omega
theorem release_step {Hb Tb Sb Bf : Nat} {q : Int} {L wd : Nat} {t : Int} {ts ss : List Int} {w wx w1 : World} (h : Bef Hb Tb Sb Bf q L wd t ts ss w L wx) (hL : 0 < L) (qT : w.heap.size ≤ Tb) (qS : w.heap.size ≤ Sb)
    (H1 : HP Hb Tb Sb q L wd (zero4 ts (idx t L 0)) (zeroW ss (idx t L 0 * wd) wd) w1) (hO : Oth [Tb, Sb] wx w1) (hi : idx t L 0 < L) :
    ∃ ts2 ss2 bs : List Int, Aft Hb Tb Sb Bf q L wd ts2 ss2 bs w w1 ∧ bs.length = 4 * L ∧ (∀ c, c < 4 → ts2.getD (idx t L 0 * 4 + c) 0 = 0) ∧ (∀ j, idx t L 0 * wd ≤ j → j < idx t L 0 * wd + wd → ss2.getD j 0 = 0) ∧
      ∀ m, 1 ≤ m → m < L → tallyAt ts2 (idx t L m) = .agg #[.int .i64 (bs.getD (m * 4) 0), .int .i64 (bs.getD (m * 4 + 1) 0), .int .i64 (bs.getD (m * 4 + 2) 0), .int .i64 (bs.getD (m * 4 + 3) 0)] := by
  obtain ⟨H, hB, f0, f1, f2, f3, bs, hr, lb, hh⟩ := h
  refine ⟨_, _, bs, ⟨H1, hB.trans (hO.below _ (by simp; omega)), (hO.block _ (by simp; omega)).trans hr⟩, lb, fun c hc => zero4_at _ _ _ hc, fun j h1 h2 => zeroW_in _ _ _ _ ?_ h1 h2, fun m h1 h2 => ?_⟩
  · have := H.lenS
    have : idx t L 0 * wd ≤ L * wd := Nat.mul_le_mul_right _ (Nat.le_of_lt hi)
    omega
  · have hne := idx_ne (t := t) hL h1 h2
    apply agg_eq
    · rw [show idx t L m * 4 = idx t L m * 4 + 0 from rfl, zero4_off _ _ _ _ (by omega) hne]; exact (hh m h1 h2 0 (by omega)).symm
    · rw [zero4_off _ _ _ _ (by omega) hne]; exact (hh m h1 h2 1 (by omega)).symm
    · rw [zero4_off _ _ _ _ (by omega) hne]; exact (hh m h1 h2 2 (by omega)).symm
    · rw [zero4_off _ _ _ _ (by omega) hne]; exact (hh m h1 h2 3 (by omega)).symm

set_option maxRecDepth 100000 in
set_option maxHeartbeats 4000000 in
theorem hold_walk (a0 a1 a2 a4 : Int) (a3 : Option Addr) (len cap : Nat) (w : World) (b1 : 0 ≤ a1 ∧ a1 ≤ 255) (b2 : 0 ≤ a2 ∧ a2 ≤ 255) (b4 : 0 ≤ a4 ∧ a4 ≤ 65535) (w3 : OpsSrc a3 len w) (hbig : ¬ (1024 : Int) < (len : Int)) :
    Calls Yba.prog 4 #[.int .i64 a0, .int .u8 a1, .int .u8 a2, .slice a3 len cap, .int .u16 a4] w fun e w' => e = .returned (.bool true) ∧ Below w.heap.size w w' := by
  obtain ⟨b1l, b1u⟩ := b1
  obtain ⟨b2l, b2u⟩ := b2
  obtain ⟨b4l, b4u⟩ := b4
  have W3 : Hid (OpsSrc a3 len w) := w3
  clear w3
  have hlen : len ≤ 1024 := by omega
  go_enter Yba.func4, Yba.ntmps4
  go_upto_region 3 with fail
  go_cut [11] from 26 to 28 (fun s wx => ∃ t : Int, s = .int .i64 t ∧ 0 ≤ t ∧ t ≤ 4294967295 ∧ w = wx)
  case first =>
    go_wp2
    go_meet
    case rel => exact ⟨_, rfl, by omega, by omega, rfl⟩
  case rest =>
    obtain ⟨t, rfl, t0, t1, rfl⟩ := hcut
    go_upto_region 4 with fail
    go_cut [12] from 29 to 32 (fun s wx => ∃ wd : Nat, s = .int .i64 wd ∧ 1 ≤ wd ∧ wd ≤ 3 ∧ w = wx)
    case first =>
      obtain ⟨m, hm⟩ : ∃ m : Nat, a2 % 3 = (m : Int) := ⟨(a2 % 3).toNat, by omega⟩
      have hm2 : m ≤ 2 := by omega
      go_wp2
      go_meet
      case rel => exact ⟨1 + m, by go_num, by omega, by omega, rfl⟩
    case rest =>
      obtain ⟨wd, rfl, d1, d3, rfl⟩ := hcut
      go_upto_region 5 with fail
      go_cut [13] from 33 to 36 (fun s wx => ∃ q : Int, s = .int .i64 q ∧ 1 ≤ q ∧ q ≤ 8 ∧ w = wx)
      case first =>
        go_wp2
        go_meet
        case rel => exact ⟨_, rfl, by omega, by omega, rfl⟩
      case rest =>
        obtain ⟨q, rfl, q1, q8, rfl⟩ := hcut
        have mk1 : ∀ w, (Instr.makeSlice 25 (.int .i64 4) (.int .i64 4)).run Yba.prog w = .ok (.slice (some ⟨w.heap.size, 0, none⟩) 4 4) (w.alloc (.cells ((zs 16).map (Value.int .i64)).toArray 31)) := fun w => make31 4 (by omega) w
        have mk2 : ∀ w, (Instr.makeSlice 23 (.int .i64 (4 * (wd : Int))) (.int .i64 (4 * (wd : Int)))).run Yba.prog w = .ok (.slice (some ⟨w.heap.size, 0, none⟩) (4 * wd) (4 * wd)) (w.alloc (.cells ((zs (4 * wd)).map (Value.int .u64)).toArray 32)) := fun w => make32 (4 * wd) (by omega) w _ (by simp)
        go_upto_region 6 with fail
        go_cut [14] from 37 to 44 (fun s wx => ∃ Hb Tb Sb : Nat, s = .pointer (some ⟨Hb, 0, none⟩) ∧ Filled Hb Tb Sb q 4 wd w wx)
        case first =>
          go_region
          all_goals
            go_wp2
            go_meet
          case rel => exact ⟨_, _, _, rfl, filled_TS q 4 wd w⟩
          case rel => exact ⟨_, _, _, rfl, filled_ST q 4 wd w⟩
        case rest =>
          obtain ⟨Hb, Tb, Sb, rfl, hF⟩ := hcut
          have HF : Hid (Filled Hb Tb Sb q 4 wd w wc) := hF
          clear hF mk1 mk2
          go_wp2_with fail
          go_loopw [47, 16, 17] (fun c _ _ wr => ∃ k : Nat, k ≤ len ∧ c = .int .i64 k ∧ ∃ Tb Sb L : Nat, Filled Hb Tb Sb q L wd w wr ∧ (L = 4 ∨ L = 8)) (fun c _ _ _ => len - (intOf c).toNat)
          case atStart => exact ⟨0, Nat.zero_le _, rfl, Tb, Sb, 4, HF.out, .inl rfl⟩
          case round =>
            obtain ⟨k, hk, rfl, T, S, L, hF, hL⟩ := hrel
            clear HF
            have HF : Hid (Filled Hb T S q L wd w wr) := hF
            have HL : Hid (L = 4 ∨ L = 8) := hL
            by_cases hkl : k < len
            ·
              have O3 := W3.out.later hF.2.1
              rcases O3 with hz | ⟨b, off, ha, hc⟩
              · omega
              · obtain ⟨x, y, z, e0, e1, e2, x0, x1, y0, y1⟩ := hc k hkl
                obtain ⟨my0, my1⟩ := modw (y := y) d1
                subst ha
                clear hc hF hL
                have lb : b < wr.heap.size := World.block_lt_of_cell? _ _ e0
                have hwr : IntKind.i64.wrap ((wd : Int) * 64) = (wd : Int) * 64 := by rw [IntKind.wrap_i64]; omega
                have hw0 : ((wd : Int) * 64 == 0) = false := by simp; omega
                have HC1 : Hid (∀ o h fr b, h = t + x % 6 → fr = y % ((wd : Int) * 64) → (b = 1 ∨ b = 2) → Calls Yba.prog 8 #[.pointer (some ⟨Hb, 0, none⟩), .int .i64 t, .int .i64 h, .int .i64 fr, .int .i8 b] (wr.alloc o).drew fun e w' => e = .returned (.tuple #[]) ∧ Hid (∃ T S L' : Nat, Filled Hb T S q L' wd w w' ∧ (L' = 4 ∨ L' = 8))) := by
                  intro o h fr b e1 e2 hb
                  subst e1 e2
                  exact hold_any Hb T S L wd q t (t + x % 6) (y % ((wd : Int) * 64)) b w (wr.alloc o).drew (HF.out.later ((Below.refl _ _).alloc (Nat.le_refl _) o)).drew HL.out t0 t1 (by omega) (by omega) d1 d3 my0 my1 hb
                clear my0 my1
                have rawh : IntKind.i64.wrap (t + IntKind.i64.wrap (x.tmod 6)) = t + x % 6 := by
                  rw [Int.tmod_eq_emod_of_nonneg x0, IntKind.wrap_i64, IntKind.wrap_i64]; omega
                have rawf : IntKind.i64.wrap (y.tmod (IntKind.i64.wrap ((wd : Int) * 64))) = y % ((wd : Int) * 64) := by
                  have := modw (y := y) d1
                  rw [hwr, Int.tmod_eq_emod_of_nonneg y0, IntKind.wrap_i64]; omega
                have HRH : Hid (IntKind.i64.wrap (t + IntKind.i64.wrap (x.tmod 6)) = t + x % 6) := rawh
                have HRF : Hid (IntKind.i64.wrap (y.tmod (IntKind.i64.wrap ((wd : Int) * 64))) = y % ((wd : Int) * 64)) := rawf
                clear rawh rawf
                cases z
                all_goals
                  go_wp2_with fail
                  go_region_with (go_at_call 8; refine (HC1.out _ _ _ _ (by first | rw [HRH.out] | rfl) (by first | rw [HRF.out] | rfl) (by first | exact .inl rfl | exact .inr rfl)).mono ?_; rintro e w' ⟨rfl, hF'⟩)
                  all_goals
                    go_wp2
                    go_roundw
                    case rel =>
                      obtain ⟨T', S', L', hF', hL'⟩ := hF'
                      exact ⟨k + 1, by omega, by go_num, T', S', L', hF', hL'⟩
                    case measure => simp [intOf]; omega
            · obtain ⟨wo, rfl⟩ : ∃ wo : World, wo = wr := ⟨_, rfl⟩
              have hkl' : ¬ (k : Int) < (len : Int) := by omega
              obtain ⟨⟨ts, ss, H⟩, hB, qH, qT, qS⟩ := hF
              have hL8 : L ≤ 8 := by omega
              have hL1 : 4 ≤ L := by omega
              obtain ⟨c0, c1, c2, c3⟩ := H.head.cells
              have mk := make31 L (by omega)
              have hst := before_start (t := t) H hB
              have HST : Hid (Bef Hb T S wo.heap.size q L wd t ts ss w 1 (wo.alloc (.cells ((zs (4 * L)).map (Value.int .i64)).toArray 31))) := hst
              clear hst H hB HF hL
              go_wp2_with fail
              clear mk c0 c1 c2 c3
              go_loopw [20] (fun c wx => ∃ m : Nat, 1 ≤ m ∧ m ≤ L ∧ c = .int .i64 m ∧ Bef Hb T S wo.heap.size q L wd t ts ss w m wx) (fun c _ => L - (intOf c).toNat)
              case atStart => exact ⟨1, Nat.le_refl _, by omega, rfl, HST.out⟩
              case round =>
                obtain ⟨m, hm1, hmL, rfl, hBf⟩ := hrel
                clear HST
                have HST : Hid (Bef Hb T S wo.heap.size q L wd t ts ss w m wr) := hBf
                by_cases hml : m < L
                · obtain ⟨H, hB, f0, f1, f2, f3, bs, hr, lb, hh⟩ := hBf
                  have hi : (t + (m : Int)) % (L : Int) = (idx t L m : Int) := by
                    have := Int.emod_nonneg (t + (m : Int)) (show (L : Int) ≠ 0 by omega)
                    simp only [idx]; omega
                  have hidx : idx t L m < L := by
                    have := Int.emod_lt_of_pos (t + (m : Int)) (show (0 : Int) < L by omega)
                    omega
                  have hlt := H.lts
                  have hbl : wo.heap.size < wr.heap.size := (Array.getElem?_eq_some_iff.1 hr).1
                  go_wp2_with fail
                  refine (tally_any Hb T S L wd (idx t L m) q t (t + m) ts ss wr H t0 (by omega) (by omega) (by omega) (by omega) (by omega) hi).mono ?_
                  rintro e w' ⟨rfl, hb⟩
                  have hr' : RowAt wo.heap.size .i64 31 bs w' := (hb.block _ hbl).trans hr
                  have H' := H.later hb
                  clear HST
                  have HST : Hid (Bef Hb T S wo.heap.size q L wd t ts ss w m w') := ⟨H', hB.trans (hb.mono hB.size), f0, f1, f2, f3, bs, hr', lb, hh⟩
                  have e0 := hr'.cell (m * 4) (by omega)
                  have e1 := hr'.cell (m * 4 + 1) (by omega)
                  have e2 := hr'.cell (m * 4 + 2) (by omega)
                  have e3 := hr'.cell (m * 4 + 3) (by omega)
                  have g0 := hr'.free (m * 4)
                  have g1 := hr'.free (m * 4 + 1)
                  have g2 := hr'.free (m * 4 + 2)
                  have g3 := hr'.free (m * 4 + 3)
                  unfold tallyAt
                  go_wp2
                  go_roundw
                  case rel => exact ⟨m + 1, by omega, by omega, by go_num, HST.out.put hml⟩
                  case measure => simp [intOf]; omega
                · obtain ⟨wl, rfl⟩ : ∃ wl : World, wl = wr := ⟨_, rfl⟩
                  have hml' : ¬ (m : Int) < (L : Int) := by omega
                  have emL : m = L := by omega
                  subst emL
                  have hi0 : t % (m : Int) = (idx t m 0 : Int) := by
                    have := Int.emod_nonneg (t + ((0 : Nat) : Int)) (show (m : Int) ≠ 0 by omega)
                    simp only [idx]; simp at this ⊢; omega
                  have hidx : idx t m 0 < m := by
                    have := Int.emod_lt_of_pos t (show (0 : Int) < m by omega)
                    omega
                  go_wp2_with fail
                  refine (release_any Hb T S m wd (idx t m 0) q t ts ss wl hBf.1 t0 (by omega) (by omega) (by omega) (by omega) d3 hi0).mono ?_
                  rintro e w1 ⟨rfl, H1, hO⟩
                  obtain ⟨ts2, ss2, bs, hA, lb, hz, hzs, hsame⟩ := release_step hBf (by omega) qT qS H1 hO hidx
                  clear hBf HST H1 hO
                  obtain ⟨c0, c1, c2, c3⟩ := hA.1.head.cells
                  have z0 : tallyAt ts2 (idx t m 0) = .agg #[.int .i64 0, .int .i64 0, .int .i64 0, .int .i64 0] := agg_eq (hz 0 (by omega)) (hz 1 (by omega)) (hz 2 (by omega)) (hz 3 (by omega))
                  have HSM : Hid (∀ n, 1 ≤ n → n < m → tallyAt ts2 (idx t m n) = .agg #[.int .i64 (bs.getD (n * 4) 0), .int .i64 (bs.getD (n * 4 + 1) 0), .int .i64 (bs.getD (n * 4 + 2) 0), .int .i64 (bs.getD (n * 4 + 3) 0)]) := hsame
                  have HZ : Hid ((∀ c, c < 4 → ts2.getD (idx t m 0 * 4 + c) 0 = 0) ∧ (∀ j, idx t m 0 * wd ≤ j → j < idx t m 0 * wd + wd → ss2.getD j 0 = 0)) := ⟨hz, hzs⟩
                  clear hsame hz hzs
                  go_wp2_with fail
                  refine (tally_any Hb T S m wd (idx t m 0) q t t ts2 ss2 w1 hA.1 t0 (by omega) (by omega) (by omega) (by omega) (by omega) hi0).mono ?_
                  rintro e w2 ⟨rfl, hb⟩
                  rw [z0]
                  clear z0
                  have hA2 := hA.later hb
                  have HA : Hid (Aft Hb T S wo.heap.size q m wd ts2 ss2 bs w w2) := hA2
                  clear hA hA2 hb c0 c1 c2 c3
                  have nq := neq31_same 0 0 0 0
                  go_wp2_with fail
                  clear nq
                  go_loopw [21] (fun c wx => ∃ n : Nat, 1 ≤ n ∧ n ≤ m ∧ c = .int .i64 n ∧ Aft Hb T S wo.heap.size q m wd ts2 ss2 bs w wx) (fun c _ => m - (intOf c).toNat)
                  case atStart => exact ⟨1, Nat.le_refl _, by omega, rfl, HA.out⟩
                  case round =>
                    obtain ⟨n, hn1, hnm, rfl, hA⟩ := hrel
                    clear HA
                    have HA : Hid (Aft Hb T S wo.heap.size q m wd ts2 ss2 bs w wr) := hA
                    by_cases hnl : n < m
                    ·
                      have hi : (t + (n : Int)) % (m : Int) = (idx t m n : Int) := by
                        have := Int.emod_nonneg (t + (n : Int)) (show (m : Int) ≠ 0 by omega)
                        simp only [idx]; omega
                      have HC : Hid (∀ h, h = t + (n : Int) → Calls Yba.prog 9 #[.pointer (some ⟨Hb, 0, none⟩), .int .i64 t, .int .i64 h] wr.drew fun e w' => e = .returned (.agg #[.int .i64 (bs.getD (n * 4) 0), .int .i64 (bs.getD (n * 4 + 1) 0), .int .i64 (bs.getD (n * 4 + 2) 0), .int .i64 (bs.getD (n * 4 + 3) 0)]) ∧ Hid (Aft Hb T S wo.heap.size q m wd ts2 ss2 bs w w')) := by
                        intro h e1
                        subst e1
                        refine (tally_any Hb T S m wd (idx t m n) q t (t + n) ts2 ss2 wr.drew (hA.1.of_heap rfl rfl rfl) t0 (by omega) (by omega) (by omega) (by omega) (by omega) hi).mono ?_
                        rintro e w' ⟨rfl, hb⟩
                        refine ⟨by rw [HSM.out n hn1 hnl], hA.later ?_⟩
                        exact (Below.refl _ _).drew.trans hb
                      have hr := hA.2.2
                      have e0 := hr.cell (n * 4) (by omega)
                      have e1 := hr.cell (n * 4 + 1) (by omega)
                      have e2 := hr.cell (n * 4 + 2) (by omega)
                      have e3 := hr.cell (n * 4 + 3) (by omega)
                      have nq := neq31_same
                      have hraw : IntKind.i64.wrap (t + (n : Int)) = t + n := by rw [IntKind.wrap_i64]; omega
                      have HRW : Hid (IntKind.i64.wrap (t + (n : Int)) = t + n) := hraw
                      clear hr hA hraw
                      go_wp2_with fail
                      go_region_with (go_at_call 9; refine (HC.out _ (by first | rw [HRW.out] | rfl)).mono ?_; rintro e w' ⟨rfl, HA'⟩; have e4 := HA'.out.2.2.cell (n * 4) (by omega); have e5 := HA'.out.2.2.cell (n * 4 + 1) (by omega); have e6 := HA'.out.2.2.cell (n * 4 + 2) (by omega); have e7 := HA'.out.2.2.cell (n * 4 + 3) (by omega))
                      all_goals
                        go_wp2
                        go_roundw
                        case rel => exact ⟨n + 1, by omega, by omega, by go_num, HA'.out⟩
                        case measure => simp [intOf]; omega
                    · obtain ⟨wz, rfl⟩ : ∃ wz : World, wz = wr := ⟨_, rfl⟩
                      have hnl' : ¬ (n : Int) < (m : Int) := by omega
                      obtain ⟨my0, my1⟩ := modw (y := a4) d1
                      have HH := hold_one Hb T S m wd (idx t m 0) q t (a4 % ((wd : Int) * 64)) ts2 ss2 wz hA.1 t0 t1 (by omega) (by omega) d1 d3 my0 my1 hi0 (by omega) HZ.out.1 HZ.out.2
                      clear my0 my1
                      have hwr : IntKind.i64.wrap ((wd : Int) * 64) = (wd : Int) * 64 := by rw [IntKind.wrap_i64]; omega
                      have hw0 : ((wd : Int) * 64 == 0) = false := by simp; omega
                      go_wp2_with fail
                      clear hwr hw0
                      refine HH.mono ?_
                      rintro e w3 ⟨rfl, ts3, ss3, H3, hO3, k0, k2, k3⟩
                      have hB3 : Below w.heap.size w w3 := hA.2.1.trans (hO3.below _ (by simp; omega))
                      clear HH hO3 HA HSM HZ hA
                      go_wp2_with fail
                      refine (tally_any Hb T S m wd (idx t m 0) q t t ts3 ss3 w3 H3 t0 (by omega) (by omega) (by omega) (by omega) (by omega) hi0).mono ?_
                      rintro e w4 ⟨rfl, hb4⟩
                      have HB4 : Hid (Below w.heap.size w w4) := hB3.trans (hb4.mono hB3.size)
                      rw [agg_eq (ts := ts3) (i := idx t m 0) k0 rfl k2 k3]
                      clear H3 hB3 hb4
                      go_wp2
                      go_ret
                      exact ⟨rfl, HB4.out.alloc HB4.out.size _⟩

set_option maxRecDepth 100000 in
theorem hold_big (a0 a1 a2 a4 : Int) (a3 : Option Addr) (len cap : Nat) (w : World) (hbig : (1024 : Int) < (len : Int)) :
    Calls Yba.prog 4 #[.int .i64 a0, .int .u8 a1, .int .u8 a2, .slice a3 len cap, .int .u16 a4] w fun e w' => e = .returned (.bool true) ∧ Below w.heap.size w w' := by
  go_enter Yba.func4, Yba.ntmps4
  go_wp2
  go_ret
  exact ⟨rfl, Below.refl _ _⟩
end Go.Proofs.Ybulkwqm
