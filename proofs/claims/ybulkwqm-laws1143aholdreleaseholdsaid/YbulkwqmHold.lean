import Derived.Test.YbulkwqmGrow
import Derived.OpenShut
namespace Go.Proofs.Ybulkwqm
open Go.ChangeShapes Go.WideShapes Go.ChangeAt Go.RowKit
set_option linter.unusedVariables false

/-- slot, at four or eight slots, at most five phases ahead. -/
theorem slot_all (Hb Tb Sb L wd : Nat) (q t h : Int) (w0 w : World) (F : Filled Hb Tb Sb q L wd w0 w) (hL : L = 4 ∨ L = 8) (ht : 0 ≤ t) (htb : t ≤ 4294967295) (hth : t ≤ h) (h5 : h ≤ t + 5) (d1 : 1 ≤ wd) (d3 : wd ≤ 3) :
    Calls Yba.prog 10 #[.pointer (some ⟨Hb, 0, none⟩), .int .i64 t, .int .i64 h] w fun e w' => ∃ T S L' : Nat, e = .returned (.int .i64 (h % (L' : Int))) ∧ Filled Hb T S q L' wd w0 w' ∧ (L' = 4 ∨ L' = 8) := by
  obtain ⟨c0, c1, c2, c3⟩ := F.head
  by_cases hlt : h - t < (L : Int)
  · refine (slot_has Hb Tb L t h w c2 ht hth (by omega) (by omega) hlt (by omega)).mono ?_
    rintro e w' ⟨rfl, rfl⟩
    exact ⟨Tb, Sb, L, rfl, F, hL⟩
  · have h4 : L = 4 := by omega
    subst h4
    obtain ⟨⟨ts, ss, H⟩, hB, qH, qT, qS⟩ := F
    refine (slot_grow Hb Tb Sb wd q t h ts ss w H ht htb (by omega) (by omega) d1 d3).mono ?_
    rintro e w' ⟨T, S, ts', ss', rfl, H', hT, hS, hb⟩
    have hs := hB.size
    exact ⟨T, S, 8, rfl, ⟨⟨ts', ss', H'⟩, hB.trans (hb.below _ hs (by simpa using qH)), qH, by omega, by omega⟩, .inr rfl⟩

/-- What hold leaves of a slot that was empty: one message, for bit b = 1. -/
def OneIn (q b : Int) (i wd : Nat) (ts ss ts' : List Int) : Prop :=
  q ≠ 0 → (∀ c, c < 4 → ts.getD (i * 4 + c) 0 = 0) → (∀ j, i * wd ≤ j → j < i * wd + wd → ss.getD j 0 = 0) → b = 1 → ts'.getD (i * 4) 0 = 1 ∧ ts'.getD (i * 4 + 2) 0 = 1 ∧ ts'.getD (i * 4 + 3) 0 = 0

theorem HP.drewN {Hb Tb Sb : Nat} {q : Int} {L wd : Nat} {ts ss : List Int} {w : World} (h : HP Hb Tb Sb q L wd ts ss w) (n : Nat) : HP Hb Tb Sb q L wd ts ss (w.drewN n) := h.of_heap rfl rfl rfl
theorem one_in {q u m0 p2 : Int} {i wd L : Nat} {ts ss : List Int} (hl : ts.length = 4 * L) (hi : i < L) (hm : m0 = ts.getD (i * 4) 0) (hu : m0 = 0 → u = 1) (hp : p2 = (ts.set (i * 4) u).getD (i * 4 + 1 + 1) 0) :
    OneIn q 1 i wd ts ss ((ts.set (i * 4) u).set (i * 4 + 1 + 1) (wrap64 (p2 + 1))) := by
  have hp' : p2 = (ts.set (i * 4) u).getD (i * 4 + 2) 0 := hp
  show OneIn q 1 i wd ts ss ((ts.set (i * 4) u).set (i * 4 + 2) (wrap64 (p2 + 1)))
  intro _ hz _ _
  have h0 := hz 0 (by omega)
  have h2 := hz 2 (by omega)
  have h3 := hz 3 (by omega)
  rw [Nat.add_zero] at h0
  have hu1 : u = 1 := hu (hm.trans h0)
  have hp0 : p2 = 0 := by
    rw [hp', List.getD_eq_getElem?_getD, List.getElem?_set_ne (by omega), ← List.getD_eq_getElem?_getD]
    exact h2
  subst hu1 hp0
  simp only [List.getD_eq_getElem?_getD] at h3 ⊢
  refine ⟨?_, ?_, ?_⟩
  · rw [List.getElem?_set_ne (by omega), List.getElem?_set_self (by omega)]; rfl
  · rw [List.getElem?_set_self (by simp; omega)]; simp [wrap64]
  · rw [List.getElem?_set_ne (by omega), List.getElem?_set_ne (by omega)]; exact h3

theorem and_zero_u64 (mk : Int) (h : (Lit.int .u64 mk).wf = true) : bits .and .u64 0 mk = 0 := by
  have hb := bounds_u64 h
  rw [u64_and 0 mk (by omega) (by omega) (by omega) (by omega)]
  simp

set_option maxRecDepth 100000 in
set_option maxHeartbeats 4000000 in
theorem hold_gen (R : Nat → Nat → Nat → List Int → List Int → Nat → World → Prop) (Hb wd : Nat) (q t h fr b : Int) (w : World) (d1 : 1 ≤ wd) (d3 : wd ≤ 3) (hf0 : 0 ≤ fr) (hf1 : fr < 64 * (wd : Int)) (hb : b = 1 ∨ b = 2)
    (hslot : Calls Yba.prog 10 #[.pointer (some ⟨Hb, 0, none⟩), .int .i64 t, .int .i64 h] w fun e w1 => ∃ T S L ts ss i, e = .returned (.int .i64 ((i : Nat) : Int)) ∧ i < L ∧ L ≤ 8 ∧ HP Hb T S q L wd ts ss w1 ∧ R T S L ts ss i w1) :
    Calls Yba.prog 8 #[.pointer (some ⟨Hb, 0, none⟩), .int .i64 t, .int .i64 h, .int .i64 fr, .int .i8 b] w fun e w' => ∃ T S L ts ss i w1, e = .returned (.tuple #[]) ∧ R T S L ts ss i w1 ∧ HP Hb T S q L wd ts ss w1 ∧ i < L ∧ ∃ ts' ss', HP Hb T S q L wd ts' ss' w' ∧ Oth [T, S] w1 w' ∧ OneIn q b i wd ts ss ts' := by
  go_enter Yba.func8, Yba.ntmps8
  go_wp2_with fail
  refine hslot.mono ?_
  clear hslot
  rintro e w1 ⟨T, S, L, ts, ss, i, rfl, hiL, hL8, H, hR⟩
  obtain ⟨c0, c1, c2, c3⟩ := H.head.cells
  have HH : Hid (HP Hb T S q L wd ts ss w1) := H
  have HR : Hid (R T S L ts ss i w1) := hR
  have H1 : Hid (HP Hb T S q L wd ts ss w1) := H
  have lT := H.lenT
  have lS := H.lenS
  clear H hR
  have hm1 : i * wd + wd ≤ L * wd := by have := Nat.mul_le_mul_right wd (show i + 1 ≤ L by omega); rw [Nat.add_mul, Nat.one_mul] at this; exact this
  have hm2 : L * wd ≤ 24 := Nat.le_trans (Nat.mul_le_mul hL8 d3) (by omega)
  have n1 : (0 : Int) ≤ (i : Int) * (wd : Int) := by rw [← Int.natCast_mul]; omega
  have n2 : (i : Int) * (wd : Int) ≤ 24 := by rw [← Int.natCast_mul]; omega
  have n3 : (i : Int) * (wd : Int) + (wd : Int) ≤ (L : Int) * (wd : Int) := by rw [← Int.natCast_mul, ← Int.natCast_mul]; omega
  have n4 : (i : Int) * (wd : Int) + fr / 64 < (L : Int) * (wd : Int) := by omega
  have n5 : (0 : Int) ≤ (i : Int) * (wd : Int) + fr / 64 := by omega
  have nj : Hid (((i : Int) * (wd : Int) + fr / 64).toNat = i * wd + (fr / 64).toNat) := by
    show _ = _
    rw [← Int.natCast_mul]; omega
  have LT : Hid (ts.length = 4 * L) := lT
  have LS : Hid (ss.length = L * wd) := lS
  clear lT lS
  go_upto_region 2 with fail
  go_cut [12, 13] from 24 to 40 (fun a b wx => ∃ (j : Nat) (mk : Int), a = .pointer (some ⟨S, j, none⟩) ∧ b = .int .u64 mk ∧ i * wd ≤ j ∧ j < i * wd + wd ∧ (Lit.int .u64 mk).wf = true ∧ HP Hb T S q L wd ts ss wx ∧ Oth [T, S] w1 wx)
  case first =>
    go_quiet (fail)
    go_wp2
    go_meet
    case rel => exact ⟨_, _, rfl, rfl, by rw [nj.out]; omega, by rw [nj.out]; omega, wf_wrap _ _, HH.out.drewN _, (Oth.refl _ _).drewN _⟩
  case rest =>
    obtain ⟨j, mk, rfl, rfl, j1, j2, wfm, H, hO⟩ := hcut
    clear c0 c1 c2 c3 n1 n2 n3 n4 n5 nj HH
    have HH : Hid (HP Hb T S q L wd ts ss wc) := H
    have HO : Hid (Oth [T, S] w1 wc) := hO
    have WM : Hid ((Lit.int .u64 mk).wf = true) := wfm
    obtain ⟨c0, c1, c2, c3⟩ := H.head.cells
    have x0 := H.rowT.cell (i * 4) (by have := LT.out; omega)
    have y0 := H.rowS.cell j (by have := LS.out; omega)
    obtain ⟨m0, hm0⟩ : ∃ m0, m0 = ts.getD (i * 4) 0 := ⟨_, rfl⟩
    obtain ⟨x, hx⟩ : ∃ x, x = ss.getD j 0 := ⟨_, rfl⟩
    rw [← hm0] at x0
    rw [← hx] at y0
    have M0 : Hid (m0 = ts.getD (i * 4) 0) := hm0
    have X0 : Hid (x = ss.getD j 0) := hx
    clear H hO wfm hm0 hx
    by_cases hq : m0 = q
    · have hqb : (m0 == q) = true := by simp [hq]
      have HQ : Hid (m0 = q) := hq
      clear hq
      go_wp2
      go_quiet (fail)
      go_wp2
      refine bodyPost_ret (v := .tuple #[]) (results_none rfl _ _ _) rfl ?_
      refine ⟨T, S, L, ts, ss, i, w1, rfl, HR.out, H1.out, hiL, ts, ss, HH.out.drewN _, HO.out.drewN _, ?_⟩
      intro hq0 hz _ _
      have := hz 0 (by omega)
      exact absurd (HQ.out.symm.trans (M0.out.trans this)) hq0
    · have hqb : (m0 == q) = false := by simp [hq]
      clear hq
      by_cases hm : bits .and .u64 x mk = 0
      · have hmb : (bits .and .u64 x mk != 0) = false := by simp [hm]
        clear hm
        go_wp2
        go_quiet (fail)
        go_upto_region 4 with fail
        go_cut [] from 58 to 63 (fun wx => ∃ v : Int, HP Hb T S q L wd ts (ss.set j v) wx ∧ Oth [T, S] w1 wx)
        case first =>
          have f0 : wc.frozen? ⟨S, j, none⟩ = false := HH.out.rowS.free j
          go_wp2
          go_meet
          case rel => exact ⟨_, (HH.out.drewN _).setS j _, (HO.out.drewN _).setCell _ _ (by simp)⟩
        case rest =>
          obtain ⟨v, H, hO⟩ := hcut
          clear c0 c1 c2 c3 x0 y0 HH HO
          have HH : Hid (HP Hb T S q L wd ts (ss.set j v) wc) := H
          have HO : Hid (Oth [T, S] w1 wc) := hO
          have x0 := H.rowT.cell (i * 4) (by have := LT.out; omega)
          rw [← M0.out] at x0
          have f0 := H.rowT.free (i * 4)
          clear H hO
          go_upto_region 5 with fail
          go_cut [] from 64 to 70 (fun wx => ∃ u : Int, (m0 = 0 → u = 1) ∧ HP Hb T S q L wd (ts.set (i * 4) u) (ss.set j v) wx ∧ Oth [T, S] w1 wx)
          case first =>
            go_wp2
            go_meet
            case rel => exact ⟨_, fun h => by rw [h]; simp [wrap64], HH.out.setT _ _, HO.out.setCell _ _ (by simp)⟩
          case rest =>
            obtain ⟨u, hu, H, hO⟩ := hcut
            clear x0 f0 HH HO
            have HH : Hid (HP Hb T S q L wd (ts.set (i * 4) u) (ss.set j v) wc) := H
            have HO : Hid (Oth [T, S] w1 wc) := hO
            have HU : Hid (m0 = 0 → u = 1) := hu
            have x2 := H.rowT.cell (i * 4 + 1 + 1) (by have := LT.out; simp; omega)
            have x3 := H.rowT.cell (i * 4 + 1 + 2) (by have := LT.out; simp; omega)
            have f2 := H.rowT.free (i * 4 + 1 + 1)
            have f3 := H.rowT.free (i * 4 + 1 + 2)
            obtain ⟨p2, hp2⟩ : ∃ p2, p2 = (ts.set (i * 4) u).getD (i * 4 + 1 + 1) 0 := ⟨_, rfl⟩
            obtain ⟨p3, hp3⟩ : ∃ p3, p3 = (ts.set (i * 4) u).getD (i * 4 + 1 + 2) 0 := ⟨_, rfl⟩
            rw [← hp2] at x2
            rw [← hp3] at x3
            have P2 : Hid (p2 = (ts.set (i * 4) u).getD (i * 4 + 1 + 1) 0) := hp2
            have P3 : Hid (p3 = (ts.set (i * 4) u).getD (i * 4 + 1 + 2) 0) := hp3
            clear H hO hu hp2 hp3
            rcases hb with rfl | rfl
            · go_wp2
              go_region
              all_goals
                go_wp2
                go_end0
                refine ⟨T, S, L, ts, ss, i, w1, rfl, HR.out, H1.out, hiL, _, _, (HH.out.setT (i * 4 + 1 + 1) _).of_heap rfl rfl rfl, (HO.out.setCell _ _ (by simp)).drew, ?_⟩
                exact one_in LT.out hiL M0.out HU.out P2.out
            · go_wp2
              go_region
              all_goals
                go_wp2
                go_end0
                refine ⟨T, S, L, ts, ss, i, w1, rfl, HR.out, H1.out, hiL, _, _, (HH.out.setT (i * 4 + 1 + 2) _).of_heap rfl rfl rfl, (HO.out.setCell _ _ (by simp)).drew, ?_⟩
                intro _ _ _ hb
                omega
      · have hmb : (bits .and .u64 x mk != 0) = true := by simp [hm]
        have HM : Hid (¬ bits .and .u64 x mk = 0) := hm
        clear hm
        go_wp2
        go_quiet (fail)
        go_wp2
        refine bodyPost_ret (v := .tuple #[]) (results_none rfl _ _ _) rfl ?_
        refine ⟨T, S, L, ts, ss, i, w1, rfl, HR.out, H1.out, hiL, ts, ss, HH.out.drewN _, HO.out.drewN _, ?_⟩
        intro hq0 hz hw0 _
        have hx0 : x = 0 := X0.out.trans (hw0 j j1 j2)
        exact absurd (by rw [hx0]; exact and_zero_u64 mk WM.out) HM.out
end Go.Proofs.Ybulkwqm
