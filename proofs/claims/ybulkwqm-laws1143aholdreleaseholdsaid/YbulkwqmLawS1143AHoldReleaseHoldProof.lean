import Derived.Test.YbulkwqmRows
import Derived.Test.YbulkwqmHoldLaw
import Derived.WalkKit
import Derived.ProofKit
import Derived.OpenShut
import Derived.ShutString
import Derived.ChangeOld
import Derived.Below
import Derived.Deep.Slices
import Derived.Deep.Strs
namespace Go.Proofs.Ybulkwqm.lawS1143AHoldReleaseHold
open Go.ChangeShapes Go.WideShapes Go.ChangeAt Go.RowKit Go.Deep
open Go.ChangeMaps (open_string shut_string)
set_option linter.unusedVariables false

theorem own : ownKnob Yba.prog.godebug = none := by kernel_rfl
theorem laidOut : laidOutB Yba.prog = true := by kernel_rfl
theorem cells40 : Yba.prog.cellsOf 40 = 3 := by kernel_rfl
theorem cells5 : Yba.prog.cellsOf 5 = 1 := by kernel_rfl
theorem cells37 : Yba.prog.cellsOf 37 = 1 := by kernel_rfl
theorem cells4 : Yba.prog.cellsOf 4 = 1 := by kernel_rfl

theorem ops_of {H : Type} {enc : TypeId × Value → H} {W : World} {fuel : Nat} {a : Option Addr} {len cap : Nat} {x : DataW H × List MemPlace} (h : DataW.trod enc Yba.prog W 0 (fun _ => true) true fuel 36 [.slice a len cap] = some x) :
    OpsSrc a len W := by
  by_cases h0 : len = 0
  · exact .inl h0
  rcases open_slice Yba.underlying36 h with ⟨hc, _⟩ | ⟨x, len', cap', m, n, D, Pl, hc, hb, hl, hm, hmm, _, hx⟩
  · simp only [List.cons.injEq, Value.slice.injEq, and_true] at hc
    exact absurd hc.2.1 h0
  · simp only [List.cons.injEq, Value.slice.injEq, and_true] at hc
    obtain ⟨rfl, rfl, rfl⟩ := hc
    have hlm : len ≤ m := by rw [hmm]; split <;> omega
    have each : ∀ i, i < m → ∃ (u y : Int) (z : Bool), W.cell? (x.add (i * 3)) = some (.int .u8 u) ∧ W.cell? (x.add (i * 3 + 1)) = some (.int .u16 y) ∧ W.cell? (x.add (i * 3 + 2)) = some (.bool z) ∧ 0 ≤ u ∧ u ≤ 255 ∧ 0 ≤ y ∧ y ≤ 65535 := by
      intro i hi
      obtain ⟨cs', h1, h2⟩ := hx i hi
      rw [cells40] at h1
      obtain ⟨_, hlen, hcell⟩ := World.cells?_some h1
      obtain ⟨y0, y1, y2, k, hxy, _, u0, u1, u2⟩ := trod_struct3 Yba.underlying40 h2
      match cs', hlen with
      | [v0, v1, v2], _ =>
        simp only [cells5, cells37, cells4, List.drop, List.take] at u0 u1 u2
        obtain ⟨s, e0, d0, f0⟩ := DataW.trod_int Yba.underlying5 u0
        obtain ⟨q, e1, d1, f1⟩ := DataW.trod_int Yba.underlying37 u1
        obtain ⟨p, e2, d2⟩ := DataW.trod_bool Yba.underlying4 u2
        simp only [List.cons.injEq, and_true] at e0 e1 e2
        subst e0; subst e1; subst e2
        have c0 := hcell 0 (by omega)
        have c1 := hcell 1 (by omega)
        have c2 := hcell 2 (by omega)
        rw [add_add] at c0 c1 c2
        have g0 := bounds_u8 f0
        have g1 := bounds_u16 f1
        exact ⟨s, q, p, by simpa using c0, by simpa using c1, by simpa using c2, g0.1, g0.2, g1.1, g1.2⟩
    obtain ⟨b, off, spot⟩ := x
    obtain ⟨_, _, _, h1, _⟩ := each 0 (by omega)
    have hspot : spot = none := by simpa [Addr.add] using World.cell?_spot h1
    subst hspot
    refine .inr ⟨b, off, rfl, fun i hi => ?_⟩
    obtain ⟨u, y, z, h1, h2, h3, r⟩ := each i (by omega)
    rw [add_plain] at h1 h2 h3
    exact ⟨u, y, z, h1, by rw [Nat.add_assoc]; exact h2, by rw [Nat.add_assoc]; exact h3, r⟩

theorem walk (a0 a1 a2 a4 : Int) (a3 : Option Addr) (len cap : Nat) (w : World) (w1 : (Lit.int .u8 a1).wf = true) (w2 : (Lit.int .u8 a2).wf = true) (w4 : (Lit.int .u16 a4).wf = true) (w3 : OpsSrc a3 len w) :
    Calls Yba.prog 4 #[.int .i64 a0, .int .u8 a1, .int .u8 a2, .slice a3 len cap, .int .u16 a4] w fun e w' => e = .returned (.bool true) ∧ Below w.heap.size w w' := by
  by_cases hb : (1024 : Int) < (len : Int)
  · exact hold_big a0 a1 a2 a4 a3 len cap w hb
  · exact hold_walk a0 a1 a2 a4 a3 len cap w (bounds_u8 w1) (bounds_u8 w2) (bounds_u16 w4) w3 hb

/-! ### THE ROW's STEP: WRITTEN OUT: LEAVE IT -/
set_option maxRecDepth 100000 in
theorem lifted (os : Os) (started : os.Started) (H : Type) (enc : TypeId × Value → H) :
    ReturnsInHanded {} Yba.checked os 4 .any (Rows.lawS1143AHoldReleaseHoldSpec.pre6 enc Yba.prog Yba.f4 Rows.lawS1143AHoldReleaseHoldRow.domain false) (Rows.lawS1143AHoldReleaseHoldSpec.post enc Yba.prog Yba.f4 false true false false) := by
  refine returnsInHanded_of_change (C := Yba.checked) own started (by kernel_rfl) Yba.func4
    (ChangeSpec.witness6 (enc := enc) (C := Yba.checked) false ⟨#[], #[.int .i64 0, .int .u8 0, .int .u8 0, .slice none 0 0, .int .u16 0], []⟩ 8 (by kernel_rfl) (by kernel_rfl) (by kernel_rfl) (by kernel_rfl)) ?_
  intro W base args ds gs before hval0 hW hcnd _
  have hval : ∀ (j : Nat) t v, Yba.f4.params[j]? = some t → args[j]? = some v → Value.okWide Yba.prog W .any base t v := hval0
  have hW' := hW
  obtain ⟨p, q, hA0, hV, rfl, hfz, hnd⟩ := hW
  have hA : DataW.TrodAll enc Yba.prog W 0 (fun _ => true) true Yba.f4.params.toList args.toList ds p := hA0
  rw [Yba.params4] at hA hval
  obtain ⟨v0, vs0, d0, ds0, p0, q0, hargs, rfl, rfl, h0, r0⟩ := trodAll_cons hA
  obtain ⟨v1, vs1, d1, ds1, p1, q1, rfl, rfl, rfl, h1, r1⟩ := trodAll_cons r0
  obtain ⟨v2, vs2, d2, ds2, p2, q2, rfl, rfl, rfl, h2, r2⟩ := trodAll_cons r1
  obtain ⟨v3, vs3, d3, ds3, p3, q3, rfl, rfl, rfl, h3, r3⟩ := trodAll_cons r2
  obtain ⟨v4, vs4, d4, ds4, p4, q4, rfl, rfl, rfl, h4, r4⟩ := trodAll_cons r3
  obtain ⟨rfl, rfl, rfl⟩ := trodAll_nil r4
  obtain rfl : args = #[v0, v1, v2, v3, v4] := by cases args; simp_all
  obtain ⟨rfl, rfl⟩ := trodVars_none hV
  obtain ⟨a0, rfl, rfl, rfl, w0⟩ := open_int Yba.underlying3 (hval 0 3 v0 rfl rfl) h0
  obtain ⟨a1, rfl, rfl, rfl, w1⟩ := open_int Yba.underlying5 (hval 1 5 v1 rfl rfl) h1
  obtain ⟨a2, rfl, rfl, rfl, w2⟩ := open_int Yba.underlying5 (hval 2 5 v2 rfl rfl) h2
  obtain ⟨a3, len3, cap3, rfl⟩ := okWide_slice Yba.underlying36 (hval 3 36 v3 rfl rfl)
  have k3 := h3
  have lt3 : ∀ x ∈ p3, x.block < W.heap.size := by obtain ⟨m, hm⟩ := k3; exact DataW.trod_lt m _ _ _ hm
  have w3 : OpsSrc a3 len3 W := by
    obtain ⟨fuel, hf⟩ := h3
    exact ops_of hf
  obtain ⟨a4, rfl, rfl, rfl, w4⟩ := open_int Yba.underlying37 (hval 4 37 v4 rfl rfl) h4
  clear hA0 hval0
  refine (walk a0 a1 a2 a4 a3 len3 cap3 W w1 w2 w4 w3).mono fun e W' ⟨he, bel⟩ => ?_
  subst he
  exact ⟨_, rfl, _, _, _, [], _, [], hW', trodAll_mk1 (shut_bool Yba.underlying4 _), (trodAll_cons_mk (shut_int Yba.underlying3 w0) (trodAll_cons_mk (shut_int Yba.underlying5 w1) (trodAll_cons_mk (shut_int Yba.underlying5 w2) (trodAll_cons_mk (Below.trod laidOut (by kernel_rfl) (of_decide_eq_true (by kernel_rfl)) k3 bel lt3) (trodAll_cons_mk (shut_int Yba.underlying37 w4) trodAll_mk0))))), rfl, bel.frame _, fun h => by cases h⟩

theorem over : Rows.lawS1143AHoldReleaseHoldRow.holds Yba.pinned (OpenSpec.ofChange Rows.lawS1143AHoldReleaseHoldSpec) :=
  OpenClaim.holds_of_wide 4 Yba.f4 rfl rfl rfl rfl rfl rfl rfl ⟨rfl, rfl, rfl, rfl, rfl⟩ rfl rfl rfl rfl rfl (by kernel_rfl) Yba.func4 (by kernel_rfl)
    (of_decide_eq_true (by kernel_rfl)) (by unfold Func.isWrapper; first | (rw [if_pos (by decide +kernel)]; kernel_rfl) | (rw [if_neg (by decide +kernel)]; exact ⟨rfl, rfl⟩))
    (fun os started H enc _ => lifted os started H enc)

/-- ████ THE STATEMENT ████ -/
theorem proved : Rows.LawS1143AHoldReleaseHoldSaid := over
#print axioms proved
end Go.Proofs.Ybulkwqm.lawS1143AHoldReleaseHold
