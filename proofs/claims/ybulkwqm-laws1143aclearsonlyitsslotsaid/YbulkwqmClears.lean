import Derived.Test.YbulkwqmStage
import Derived.BigRegion
namespace Go.Proofs.Ybulkwqm
open Go.ChangeShapes Go.WideShapes Go.ChangeAt Go.RowKit
set_option linter.unusedVariables false

theorem wf_i64_bounds {n : Int} (h : (Lit.int .i64 n).wf = true) : -9223372036854775808 ≤ n ∧ n ≤ 9223372036854775807 := by
  have := h
  simp [Lit.wf, IntKind.min, IntKind.max, IntKind.bits, IntKind.signed] at this
  omega

theorem zeros {Tb m s : Nat} {ts : List Int} {w : World} (h : m = s) (r : RowAt Tb .i64 31 (zero4 ts s) w) (hl : m * 4 + 3 < (zero4 ts s).length) :
    w.cell? ⟨Tb, m * 4, none⟩ = some (.int .i64 0) ∧ w.cell? ⟨Tb, m * 4 + 1, none⟩ = some (.int .i64 0) ∧ w.cell? ⟨Tb, m * 4 + 2, none⟩ = some (.int .i64 0) ∧ w.cell? ⟨Tb, m * 4 + 3, none⟩ = some (.int .i64 0) := by
  subst h
  refine ⟨?_, ?_, ?_, ?_⟩
  · rw [r.cell (m * 4) (by omega)]; have := zero4_at ts m 0 (by omega); rw [Nat.add_zero] at this; rw [this]
  · rw [r.cell (m * 4 + 1) (by omega), zero4_at ts m 1 (by omega)]
  · rw [r.cell (m * 4 + 2) (by omega), zero4_at ts m 2 (by omega)]
  · rw [r.cell (m * 4 + 3) (by omega), zero4_at ts m 3 (by omega)]
theorem sames {Tb Ot n m s : Nat} {ts : List Int} {w : World} (h : ¬ m = s) (r : RowAt Tb .i64 31 (zero4 ts s) w) (r' : RowAt Ot .i64 31 ts w) (hm : m < n) (hl : ts.length = 4 * n) :
    ∃ v0 v1 v2 v3 : Int, w.cell? ⟨Tb, m * 4, none⟩ = some (.int .i64 v0) ∧ w.cell? ⟨Tb, m * 4 + 1, none⟩ = some (.int .i64 v1) ∧ w.cell? ⟨Tb, m * 4 + 2, none⟩ = some (.int .i64 v2) ∧ w.cell? ⟨Tb, m * 4 + 3, none⟩ = some (.int .i64 v3) ∧
      w.cell? ⟨Ot, m * 4, none⟩ = some (.int .i64 v0) ∧ w.cell? ⟨Ot, m * 4 + 1, none⟩ = some (.int .i64 v1) ∧ w.cell? ⟨Ot, m * 4 + 2, none⟩ = some (.int .i64 v2) ∧ w.cell? ⟨Ot, m * 4 + 3, none⟩ = some (.int .i64 v3) := by
  have hz : (zero4 ts s).length = ts.length := by simp [zero4]
  have e0 := zero4_off ts s m 0 (by omega) h
  rw [Nat.add_zero] at e0
  refine ⟨ts.getD (m * 4) 0, ts.getD (m * 4 + 1) 0, ts.getD (m * 4 + 2) 0, ts.getD (m * 4 + 3) 0, ?_, ?_, ?_, ?_, r'.cell _ (by omega), r'.cell _ (by omega), r'.cell _ (by omega), r'.cell _ (by omega)⟩
  · rw [r.cell (m * 4) (by omega), e0]
  · rw [r.cell (m * 4 + 1) (by omega), zero4_off ts s m 1 (by omega) h]
  · rw [r.cell (m * 4 + 2) (by omega), zero4_off ts s m 2 (by omega) h]
  · rw [r.cell (m * 4 + 3) (by omega), zero4_off ts s m 3 (by omega) h]
theorem zeroS {Sb Os n wd s j : Nat} {ss : List Int} {w : World} (hd : j / wd = s) (d1 : 1 ≤ wd) (hsn : s < n) (r : RowAt Sb .u64 32 (zeroW ss (s * wd) wd) w) (hl : j < (zeroW ss (s * wd) wd).length) (r' : RowAt Os .u64 32 ss w) (hls : s * wd ≤ ss.length) : w.cell? ⟨Sb, j, none⟩ = some (.int .u64 0) := by
  rw [r.cell j hl]
  have h1 : s * wd ≤ j := (Nat.le_div_iff_mul_le d1).1 (by omega)
  have h2 : j < (s + 1) * wd := (Nat.div_lt_iff_lt_mul d1).1 (by omega)
  rw [Nat.add_mul, Nat.one_mul] at h2
  rw [zeroW_in ss (s * wd) wd j hls h1 h2]
theorem sameS {Sb Os n wd s j : Nat} {ss : List Int} {w : World} (hd : ¬ j / wd = s) (d1 : 1 ≤ wd) (hsn : s < n) (r : RowAt Sb .u64 32 (zeroW ss (s * wd) wd) w) (hl : j < (zeroW ss (s * wd) wd).length) (r' : RowAt Os .u64 32 ss w) (hls : s * wd + wd ≤ ss.length) (hjs : j < ss.length) :
    ∃ v : Int, w.cell? ⟨Sb, j, none⟩ = some (.int .u64 v) ∧ w.cell? ⟨Os, j, none⟩ = some (.int .u64 v) := by
  refine ⟨ss.getD j 0, ?_, r'.cell j hjs⟩
  rw [r.cell j hl]
  have hout : j < s * wd ∨ s * wd + wd ≤ j := by
    by_cases h1 : j < s * wd
    · exact .inl h1
    · by_cases h2 : s * wd + wd ≤ j
      · exact .inr h2
      · exact absurd (Nat.div_eq_of_lt_le (by omega) (by rw [Nat.add_mul, Nat.one_mul]; omega)) hd
  rw [zeroW_out ss (s * wd) wd j hls hout]

theorem wrap_small (x : Int) (h0 : 0 ≤ x) (h1 : x ≤ 1000000) : IntKind.i64.wrap x = x := by rw [IntKind.wrap_i64]; omega

theorem wrap64_div {j N wd : Nat} (h : j ≤ N) (hN : N ≤ 24) : wrap64 ((j : Int) / (wd : Int)) = ((j / wd : Nat) : Int) := by
  have hle : j / wd ≤ j := Nat.div_le_self _ _
  rw [← Int.natCast_ediv]
  generalize j / wd = c at hle
  unfold wrap64
  omega

set_option maxRecDepth 100000 in
set_option maxHeartbeats 4000000 in
theorem clears_walk (a0 : Int) (a1 : Int) (a2 : Int) (a3 : Option Addr) (len3 cap3 : Nat) (a4 : Option Addr) (len4 cap4 : Nat) (w : World) (w0 : (Lit.int .i64 a0).wf = true) (b1 : 0 ≤ a1 ∧ a1 ≤ 255) (b2 : 0 ≤ a2 ∧ a2 ≤ 255) (w3 : Src .i64 a3 len3 w) (w4 : Src .u64 a4 len4 w) :
    Calls Yba.prog 3 #[.int .i64 a0, .int .u8 a1, .int .u8 a2, .slice a3 len3 cap3, .slice a4 len4 cap4] w fun e w' => e = .returned (.bool true) ∧ Below w.heap.size w w' := by
  obtain ⟨l0, u0⟩ := wf_i64_bounds w0
  obtain ⟨b1l, b1u⟩ := b1
  obtain ⟨b2l, b2u⟩ := b2
  have W3 : Hid (Src .i64 a3 len3 w) := w3
  have W4 : Hid (Src .u64 a4 len4 w) := w4
  clear w3 w4 w0
  go_enter Yba.func3, Yba.ntmps3
  go_upto_if 25 with fail
  go_cut [11] from 26 to 28 (fun s wx => ∃ t : Int, s = .int .i64 t ∧ 0 ≤ t ∧ t ≤ 9223372036854775807 ∧ w = wx)
  case first =>

    by_cases hneg : a0 < 0
    · go_wp2
      go_meet
      case rel => exact ⟨-(a0 + 1), rfl, by omega, by omega, rfl⟩
    · go_wp2
      go_meet
      case rel => exact ⟨a0, rfl, by omega, by omega, rfl⟩

  case rest =>
    obtain ⟨t, rfl, t0, t1, rfl⟩ := hcut
    clear l0 u0
    go_upto_region 4 with fail
    go_cut [12] from 29 to 31 (fun s wx => ∃ n : Nat, s = .int .i64 n ∧ 1 ≤ n ∧ n ≤ 8 ∧ w = wx)
    case first =>

      have h4 : a1 % 4 = 0 ∨ a1 % 4 = 1 ∨ a1 % 4 = 2 ∨ a1 % 4 = 3 := by omega
      rcases h4 with h4 | h4 | h4 | h4
      all_goals
        go_wp2
        go_meet
      case rel => exact ⟨1, rfl, by omega, by omega, rfl⟩
      case rel => exact ⟨2, rfl, by omega, by omega, rfl⟩
      case rel => exact ⟨4, rfl, by omega, by omega, rfl⟩
      case rel => exact ⟨8, rfl, by omega, by omega, rfl⟩

    case rest =>
      obtain ⟨n, rfl, n1, n8, rfl⟩ := hcut
      go_upto_region 5 with fail
      go_cut [13] from 32 to 35 (fun s wx => ∃ wd : Nat, s = .int .i64 wd ∧ 1 ≤ wd ∧ wd ≤ 3 ∧ w = wx)
      case first =>

        obtain ⟨m, hm⟩ : ∃ m : Nat, a2 % 3 = (m : Int) := ⟨(a2 % 3).toNat, by omega⟩
        have hm2 : m ≤ 2 := by omega
        go_wp2
        go_meet
        case rel => exact ⟨1 + m, by go_num, by omega, by omega, rfl⟩

      case rest =>
        obtain ⟨wd, rfl, d1, d3, rfl⟩ := hcut
        have hN : n * wd ≤ 24 := Nat.le_trans (Nat.mul_le_mul n8 d3) (by omega)
        have nw0 : (0 : Int) ≤ (n : Int) * (wd : Int) := by rw [← Int.natCast_mul]; omega
        have nw1 : (n : Int) * (wd : Int) ≤ 24 := by rw [← Int.natCast_mul]; omega
        have mk1 := make31 n (by omega)
        have mk2 : ∀ w, (Instr.makeSlice 23 (.int .i64 ((n : Int) * (wd : Int))) (.int .i64 ((n : Int) * (wd : Int)))).run Yba.prog w = .ok (.slice (some ⟨w.heap.size, 0, none⟩) (n * wd) (n * wd)) (w.alloc (.cells ((zs (n * wd)).map (Value.int .u64)).toArray 32)) := fun w => make32 (n * wd) (by omega) w _ (by simp)
        have MK1 := mk1
        have MK2 := mk2
        have KM1 : Hid (∀ w, (Instr.makeSlice 25 (.int .i64 (n : Int)) (.int .i64 (n : Int))).run Yba.prog w = .ok (.slice (some ⟨w.heap.size, 0, none⟩) n n) (w.alloc (.cells ((zs (4 * n)).map (Value.int .i64)).toArray 31))) := mk1
        have KM2 : Hid (∀ w, (Instr.makeSlice 23 (.int .i64 ((n : Int) * (wd : Int))) (.int .i64 ((n : Int) * (wd : Int)))).run Yba.prog w = .ok (.slice (some ⟨w.heap.size, 0, none⟩) (n * wd) (n * wd)) (w.alloc (.cells ((zs (n * wd)).map (Value.int .u64)).toArray 32))) := mk2
        clear MK1 MK2
        go_upto_region 6 with fail
        go_cut [14] from 36 to 44 (fun s wx => ∃ Hb Tb Sb : Nat, s = .pointer (some ⟨Hb, 0, none⟩) ∧ Filled Hb Tb Sb 3 n wd w wx)
        case first =>

          go_region
          all_goals
            go_wp2
            go_meet
          case rel => exact ⟨_, _, _, rfl, filled_TS 3 n wd w⟩
          case rel => exact ⟨_, _, _, rfl, filled_ST 3 n wd w⟩

        case rest =>
          obtain ⟨Hb, Tb, Sb, rfl, hF⟩ := hcut
          have HF : Hid (Filled Hb Tb Sb 3 n wd w wc) := hF
          clear hF
          go_wp2_with fail
          go_loopw [15, 16] (fun i _ wr => ∃ m : Nat, m ≤ n ∧ i = .int .i64 m ∧ Filled Hb Tb Sb 3 n wd w wr) (fun i _ _ => n - (intOf i).toNat)
          case atStart => exact ⟨0, Nat.zero_le _, rfl, HF.out⟩
          case round =>
            obtain ⟨m, hm, rfl, hF⟩ := hrel
            clear HF mk1 mk2
            have HF : Hid (Filled Hb Tb Sb 3 n wd w wr) := hF
            obtain ⟨c0, c1, c2, c3⟩ := hF.head
            by_cases hmn : m < n
            ·
              obtain ⟨⟨v0, e0⟩, f0⟩ := hF.cellT (m * 4) (by omega)
              have S3 : Hid (Src .i64 a3 len3 wr) := W3.out.later hF.2.1
              clear hF
              go_upto_region 10 with fail
              go_cut [] from 50 to 60 (fun wx => Filled Hb Tb Sb 3 n wd w wx)
              case first =>
                go_region_with (go_at_call 5; refine (pick_any a3 len3 cap3 _ _ (by first | omega | (simp only [IntKind.wrap_i64]; omega)) (by exact S3.out)).mono ?_; rintro e w' ⟨v, rfl, rfl⟩)
                all_goals
                  go_wp2
                  go_meet
                  case rel => exact (HF.out.setT _ _).drew
              case rest =>
                clear c0 c1 c2 c3 e0 f0 HF S3
                have HF : Hid (Filled Hb Tb Sb 3 n wd w wc) := hcut
                clear hcut
                go_wp2_with fail
                go_loopw [16] (fun k wr => ∃ j : Nat, j ≤ 3 ∧ k = .int .i64 j ∧ Filled Hb Tb Sb 3 n wd w wr) (fun k _ => 3 - (intOf k).toNat)
                case atStart => exact ⟨0, Nat.zero_le _, rfl, HF.out⟩
                case round =>
                  obtain ⟨j, hj, rfl, hF⟩ := hrel
                  clear HF
                  have HF : Hid (Filled Hb Tb Sb 3 n wd w wr) := hF
                  obtain ⟨c0, c1, c2, c3⟩ := hF.head
                  by_cases hj3 : j < 3
                  · obtain ⟨⟨v0, e0⟩, f0⟩ := hF.cellT (m * 4 + 1 + j) (by omega)
                    have S3 : Hid (Src .i64 a3 len3 wr) := W3.out.later hF.2.1
                    have hix : Hid (0 ≤ IntKind.i64.wrap (IntKind.i64.wrap (IntKind.i64.wrap (4 * (m : Int)) + 1) + (j : Int))) := by
                      show 0 ≤ _
                      rw [wrap_small (4 * (m : Int)) (by omega) (by omega), wrap_small (4 * (m : Int) + 1) (by omega) (by omega), wrap_small (4 * (m : Int) + 1 + (j : Int)) (by omega) (by omega)]
                      omega
                    clear hF
                    go_wp2_with fail
                    go_region_with (go_at_call 5; refine (pick_any a3 len3 cap3 _ _ (by exact hix.out) (by exact S3.out)).mono ?_; rintro e w' ⟨v, rfl, rfl⟩)
                    all_goals
                      go_wp2
                      go_roundw
                      case rel => exact ⟨j + 1, by omega, by go_num, (HF.out.setT _ _).drew⟩
                      case measure => simp [intOf]; omega
                  · clear hF c0 c1 c2 c3
                    go_wp2_with fail
                    go_roundw
                    case rel => exact ⟨m + 1, by omega, by go_num, HF.out⟩
                    case measure => simp [intOf]; omega

            · clear hF c0 c1 c2 c3
              go_wp2_with fail
              go_loopw [17] (fun i wr => ∃ m : Nat, m ≤ n * wd ∧ i = .int .i64 m ∧ Filled Hb Tb Sb 3 n wd w wr) (fun i _ => n * wd - (intOf i).toNat)
              case atStart => exact ⟨0, Nat.zero_le _, rfl, HF.out⟩
              case round =>
                obtain ⟨m, hm, rfl, hF⟩ := hrel
                clear HF
                have HF : Hid (Filled Hb Tb Sb 3 n wd w wr) := hF
                obtain ⟨c0, c1, c2, c3⟩ := hF.head
                by_cases hmn : m < n * wd
                ·
                  have hmi : (m : Int) < (n : Int) * (wd : Int) := by rw [← Int.natCast_mul]; omega
                  obtain ⟨⟨v0, e0⟩, f0⟩ := hF.cellS m hmn
                  have S4 : Hid (Src .u64 a4 len4 wr) := W4.out.later hF.2.1
                  clear hF
                  go_wp2_with fail
                  go_region_with (go_at_call 6; refine (picku_any a4 len4 cap4 _ _ (by omega) (by exact S4.out)).mono ?_; rintro e w' ⟨v, rfl, rfl⟩)
                  all_goals
                    go_wp2
                    go_roundw
                    case rel => exact ⟨m + 1, by omega, by go_num, (HF.out.setS _ _).drew⟩
                    case measure => simp [intOf]; omega

                · have hmi : ¬ (m : Int) < (n : Int) * (wd : Int) := by rw [← Int.natCast_mul]; omega
                  obtain ⟨⟨ts, ss, H⟩, hB, qH, qT, qS⟩ := hF
                  have lH : Hb < wr.heap.size := World.block_lt_of_cell? _ _ c0
                  have lT : Tb < wr.heap.size := (Array.getElem?_eq_some_iff.1 H.rowT).1
                  have lS : Sb < wr.heap.size := (Array.getElem?_eq_some_iff.1 H.rowS).1
                  obtain ⟨wA, wB, hcA, hcB, hd3, HB, rT, rS, hsA, hBB⟩ := stage H lH lT lS
                  have kT : Hid (RowAt wr.heap.size .i64 31 ts wB) := rT
                  have kS : Hid (RowAt wA.heap.size .u64 32 ss wB) := rS
                  have KB : Hid (HP Hb Tb Sb 3 n wd ts ss wB) := HB
                  have BB : Hid (Below w.heap.size w wB) := hB.trans (hBB.mono hB.size)
                  have LS : Hid (ss.length = n * wd) := H.lenS
                  have SA : Hid (wA.heap.size = wr.heap.size + 1) := hsA
                  have HcA : Hid ((Builtin.copy_ #[25, 25] 3 #[.slice (some ⟨wr.heap.size, 0, none⟩) n n, .slice (some ⟨Tb, 0, none⟩) n n]).run Yba.prog (wr.alloc (.cells ((zs (4 * n)).map (Value.int .i64)).toArray 31)) = .ok (.int .i64 (n : Int)) wA) := hcA
                  have HcB : Hid ((Builtin.copy_ #[23, 23] 3 #[.slice (some ⟨wA.heap.size, 0, none⟩) (n * wd) (n * wd), .slice (some ⟨Sb, 0, none⟩) (n * wd) (n * wd)]).run Yba.prog (wA.alloc (.cells ((zs (n * wd)).map (Value.int .u64)).toArray 32)) = .ok (.int .i64 ((n * wd : Nat) : Int)) wB) := hcB
                  have l2 : ∀ o, (wr.alloc o).cell? ⟨Hb, 2, none⟩ = some (.slice (some ⟨Tb, 0, none⟩) n n) := fun o => cell_later ((Below.refl _ _).alloc (Nat.le_refl _) o) c2
                  have mk1 := KM1.out
                  have mk2 := KM2.out
                  clear rT rS HB hBB hsA hcA hcB H hB HF c0 c1 c2 c3
                  obtain ⟨s, hs⟩ : ∃ s : Nat, t % (n : Int) = (s : Int) := ⟨(t % (n : Int)).toNat, by have := Int.emod_nonneg t (show (n : Int) ≠ 0 by omega); omega⟩
                  have hsn : s < n := by have := Int.emod_lt_of_pos t (show (0 : Int) < n by omega); omega
                  have HS : Hid (t % (n : Int) = (s : Int)) := hs
                  clear hs
                  go_wp2_with (first | (show wpList _ _ _ (Oper.mk (some 104) _ _ _ _ _ :: _) _ _; refine Lib.wpList_copy_run _ rfl _ _ 25 25 rfl _ _ rfl rfl HcA.out ?_) | (show wpList _ _ _ (Oper.mk (some 114) _ _ _ _ _ :: _) _ _; refine Lib.wpList_copy_run _ rfl _ _ 23 23 rfl _ _ rfl rfl HcB.out ?_))
                  refine (release_any Hb Tb Sb n wd s 3 t ts ss wB KB.out t0 t1 (by omega) (by omega) (by omega) d3 HS.out).mono ?_
                  rintro e w9 ⟨rfl, H9, O9⟩
                  clear mk1 mk2 l2 hd3 KM1 KM2
                  obtain ⟨c0, c1, c2, c3⟩ := H9.head.cells
                  have hwd0 : ((wd : Int) == 0) = false := by simp; omega
                  have hn0 : ((n : Int) == 0) = false := by simp; omega
                  have K9 : Hid (HP Hb Tb Sb 3 n wd (zero4 ts s) (zeroW ss (s * wd) wd) w9) := H9
                  have B9 : Hid (Below w.heap.size w w9) := BB.out.trans (O9.below _ (by simp; omega))
                  have RT : Hid (RowAt wr.heap.size .i64 31 ts w9) := kT.out.of_eq (O9.block _ (by simp; omega))
                  have RS : Hid (RowAt wA.heap.size .u64 32 ss w9) := kS.out.of_eq (O9.block _ (by have := SA.out; simp; omega))
                  clear H9 O9 kT kS KB BB
                  go_wp2_with fail
                  clear c0 c1
                  go_loopw [21] (fun i wr => ∃ m : Nat, m ≤ n ∧ i = .int .i64 m ∧ ∃ k, wr = w9.drewN k) (fun i _ => n - (intOf i).toNat)
                  case atStart => exact ⟨0, Nat.zero_le _, rfl, 0, rfl⟩
                  case round =>
                    obtain ⟨m, hm, rfl, kd, rfl⟩ := hrel
                    by_cases hmn : m < n
                    · have nq := neq31_same
                      have lt := K9.out.lenT
                      have lt2 : ts.length = 4 * n := by simpa [zero4] using lt
                      by_cases hms : m = s
                      · have hb : ((m : Int) == t % (n : Int)) = true := by rw [HS.out, hms]; simp
                        obtain ⟨z0, z1, z2, z3⟩ : w9.cell? ⟨Tb, m * 4, none⟩ = some (.int .i64 0) ∧ w9.cell? ⟨Tb, m * 4 + 1, none⟩ = some (.int .i64 0) ∧ w9.cell? ⟨Tb, m * 4 + 2, none⟩ = some (.int .i64 0) ∧ w9.cell? ⟨Tb, m * 4 + 3, none⟩ = some (.int .i64 0) := zeros hms K9.out.rowT (by omega)
                        clear hms lt lt2
                        go_wp2_with fail
                        go_roundw
                        case rel => exact ⟨m + 1, by omega, by go_num, _, rfl⟩
                        case measure => simp [intOf]; omega
                      · have hb : ((m : Int) == t % (n : Int)) = false := by rw [HS.out]; simp; omega
                        obtain ⟨v0, v1, v2, v3, x0, x1, x2, x3, y0, y1, y2, y3⟩ := sames hms K9.out.rowT RT.out (by omega) lt2
                        have hmi : (m : Int) < (n : Int) := by omega
                        clear hms lt lt2
                        go_wp2_with fail
                        go_quiet (fail)
                        go_wp2
                        go_roundw
                        case rel => exact ⟨m + 1, by omega, by go_num, _, rfl⟩
                        case measure => simp [intOf]; omega
                    · go_wp2_with fail
                      go_loopw [22] (fun i wr => ∃ m : Nat, m ≤ n * wd ∧ i = .int .i64 m ∧ ∃ k, wr = w9.drewN k) (fun i _ => n * wd - (intOf i).toNat)
                      case atStart => exact ⟨0, Nat.zero_le _, rfl, _, rfl⟩
                      case round =>
                        obtain ⟨j, hj, rfl, kd, rfl⟩ := hrel
                        by_cases hjn : j < n * wd
                        · have hji : (j : Int) < (n : Int) * (wd : Int) := by rw [← Int.natCast_mul]; omega
                          have ls := K9.out.lenS
                          have ls2 : s * wd + wd ≤ n * wd := by have := Nat.mul_le_mul_right wd (show s + 1 ≤ n by omega); rw [Nat.add_mul, Nat.one_mul] at this; exact this
                          have ls3 : ss.length = n * wd := LS.out
                          by_cases hd : j / wd = s
                          · have hb : (wrap64 ((j : Int) / (wd : Int)) == t % (n : Int)) = true := by rw [HS.out, wrap64_div hj hN, hd]; simp
                            have z0 : w9.cell? ⟨Sb, j, none⟩ = some (.int .u64 0) := zeroS hd d1 hsn K9.out.rowS (by omega) RS.out (by omega)
                            clear hd ls ls2 ls3
                            go_wp2_with fail
                            go_roundw
                            case rel => exact ⟨j + 1, by omega, by go_num, _, rfl⟩
                            case measure => simp [intOf]; omega
                          · have hb : (wrap64 ((j : Int) / (wd : Int)) == t % (n : Int)) = false := by rw [HS.out, wrap64_div hj hN]; simp; omega
                            obtain ⟨v0, x0, y0⟩ := sameS hd d1 hsn K9.out.rowS (by omega) RS.out (by omega) (by omega)
                            clear hd ls ls2 ls3
                            go_wp2_with fail
                            go_quiet (fail)
                            go_wp2
                            go_roundw
                            case rel => exact ⟨j + 1, by omega, by go_num, _, rfl⟩
                            case measure => simp [intOf]; omega
                        · have hji : ¬ (j : Int) < (n : Int) * (wd : Int) := by rw [← Int.natCast_mul]; omega
                          go_wp2_with fail
                          go_ret
                          exact ⟨rfl, below_drewN B9.out _⟩
end Go.Proofs.Ybulkwqm
