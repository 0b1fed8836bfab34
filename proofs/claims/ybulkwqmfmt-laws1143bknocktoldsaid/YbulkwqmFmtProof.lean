import Derived.Test.YbulkwqmFmtRows
import Derived.Test.YbulkwqmFmtCards
import Derived.Test.YbulkwqmFmtTie
import Derived.Test.YbulkwqmFmtLaw
import Derived.ProofKit
import Derived.LaidMore
import Derived.OpenShut
import Derived.Carry
import Derived.Stop.JoinedAt
import Derived.Stop.JoinedTold
import Derived.Stop.Texts
import Derived.Stop.LaidErr
import Derived.Stop.LaidTwo
import Derived.SevenTiedAt
import Derived.SevenToldRow
import Derived.Deep.Grids
namespace Go.Proofs.YbulkwqmFmt
open Go.ChangeShapes Go.WideShapes Go.ChangeAt Go.RowKit Go.Kit Go.Deep
open Go.Extern.Stop Go.Stop Go.Extern
set_option linter.unusedVariables false

theorem Ybaf.own : ownKnob Ybaf.prog.godebug = none := by kernel_rfl
theorem Ybaf.laidOut : laidOutB Ybaf.pinned.checked.prog = true := by kernel_rfl
theorem Ybaf.stops : Ybaf.pinned.checked.prog.stops = ["fmt.errorf"] := by kernel_rfl
theorem Ybaf.stopKnobs : Ybaf.pinned.checked.prog.stopKnobs = [] := by kernel_rfl
theorem Ybaf.quiet (os : Os) : Stop.quiet Ybaf.pinned.checked.prog os := by
  intro k hk
  rw [Ybaf.stopKnobs] at hk
  cases hk
/-- errKnocked's name; errRefused's. -/
abbrev nmK : String := Rows.lawS1143BKnockRow.named.getD 0 default
abbrev nmR : String := Rows.lawS1143BKnockRow.named.getD 1 default
theorem Ybaf.gK : Ybaf.prog.globalNamed nmK = some 0 := by kernel_rfl
theorem Ybaf.gR : Ybaf.prog.globalNamed nmR = some 1 := by kernel_rfl
theorem Ybaf.gKType : (Ybaf.prog.globals[0]?).map (·.type) = some 78 := by kernel_rfl
theorem Ybaf.gRType : (Ybaf.prog.globals[1]?).map (·.type) = some 78 := by kernel_rfl
theorem Ybaf.cells104 : Ybaf.prog.cellsOf 104 = 1 := by kernel_rfl
theorem Ybaf.cells9 : Ybaf.prog.cellsOf 9 = 1 := by kernel_rfl
theorem Ybaf.cells4 : Ybaf.prog.cellsOf 4 = 1 := by kernel_rfl
theorem Ybaf.star : "*" ++ "errors.errorString" = "*errors.errorString" := by decide
theorem Ybaf.row102 (u : TypeId) (h : Ybaf.prog.typeName? 3 u = some "*errors.errorString") : u = 102 :=
  typeName_ptr_named (nm := "errors.errorString") (by rw [Ybaf.star]; kernel_rfl) (by kernel_rfl) (by decide) u (by rw [Ybaf.star]; exact h)

abbrev refS : ByteArray := { data := #[114, 101, 102, 117, 115, 101, 100] }
abbrev knoS : ByteArray := { data := #[107, 110, 111, 99, 107, 101, 100] }
/-- The two sentinels laid as their initialisers lay them. -/
def laidW (w0 : World) : World :=
  { w0 with heap := (((w0.heap.modify 1 fun
      | .cells _ t frozen => .cells #[.iface 102 (.pointer (some ⟨w0.heap.size, 0, none⟩))] t frozen
      | o => o).modify 0 fun
      | .cells _ t frozen => .cells #[.iface 102 (.pointer (some ⟨w0.heap.size + 1, 0, none⟩))] t frozen
      | o => o).push (.cells #[.string refS] 104)).push (.cells #[.string knoS] 104) }
theorem laid_met (os : Os) (args : Array Value) : laidMetH Ybaf.prog Rows.lawS1143BKnockRow.laid ((laidW (World.holding Ybaf.prog os ⟨#[], #[], []⟩)).forCall (fun _ _ => 0) ⟨#[], args, []⟩).memory :=
  laidMetH_of_parts3 (fuel := 8) (laidMet_of_run' 8 (by kernel_rfl) (by kernel_rfl)) (by kernel_rfl) (by kernel_rfl)

theorem pre_of {H : Type} {enc : TypeId × Value → H} {W : World} {fuel : Nat} {a : Option Addr} {len cap : Nat} {x : DataW H × List MemPlace} (h : DataW.trod enc Ybaf.prog W 0 (fun _ => true) true fuel 22 [.slice a len cap] = some x) :
    ∃ z, PreSrc a len z W := by
  by_cases h0 : len = 0
  · exact ⟨fun _ => false, .inl h0⟩
  rcases open_bools Ybaf.underlying22 Ybaf.underlying4 Ybaf.cells4 h with ⟨hc, _⟩ | ⟨x, len', cap', B, hc, hb, hl, hm, _, hx⟩
  · simp only [List.cons.injEq, Value.slice.injEq, and_true] at hc
    exact absurd hc.2.1 h0
  · simp only [List.cons.injEq, Value.slice.injEq, and_true] at hc
    obtain ⟨rfl, rfl, rfl⟩ := hc
    obtain ⟨b, off, spot⟩ := x
    have hspot : spot = none := by simpa [Addr.add] using World.cell?_spot (hx 0 (by omega))
    subst hspot
    refine ⟨B, .inr ⟨b, off, rfl, fun i hi => ?_⟩⟩
    rw [← add_plain]
    exact hx i (by omega)

set_option maxRecDepth 100000 in
theorem lifted (os : Os) (started : os.Started) (H : Type) (enc : TypeId × Value → H) :
    ReturnsInTold none {} Ybaf.checked os 3 .any Input.okWide ((OpenSpec.ofChange Rows.lawS1143BKnockSpec).preRow enc Ybaf.prog Ybaf.f3 [] false Rows.lawS1143BKnockRow.laid) (fun F => ((OpenSpec.ofChange Rows.lawS1143BKnockSpec).at F).post enc Ybaf.prog Ybaf.f3 false true false false) (aloneAtReturn Ybaf.prog) nothingAlways := by
  refine returnsInTold_of_row (C := Ybaf.checked) (s := OpenSpec.ofChange Rows.lawS1143BKnockSpec) (by kernel_rfl) Ybaf.own started (by kernel_rfl) Ybaf.func3
    (OpenSpec.witness_stopped_at (enc := enc) (C := Ybaf.checked) false (laidW (World.holding Ybaf.prog os ⟨#[], #[], []⟩)) #[.int .u8 0, .int .u8 0, .int .i64 0, .slice none 0 0] rfl (by kernel_rfl) (by kernel_rfl) (by kernel_rfl)
      (OpenSpec.preRow_of_B rfl 8 (by kernel_rfl) (by kernel_rfl) (laid_met os _))) ?_
  intro F W base args ds gs before _ hF hval0 hW _ _ _ hL _
  have hval : ∀ (j : Nat) t v, Ybaf.f3.params[j]? = some t → args[j]? = some v → Value.okWide Ybaf.prog W .any base t v := hval0
  have hW' := hW
  obtain ⟨p, q, hA0, hV0, rfl, hfz, hnd⟩ := hW
  have hA : DataW.TrodAll enc Ybaf.prog W 0 (fun _ => true) true Ybaf.f3.params.toList args.toList ds p := hA0
  have hV : DataW.TrodVars enc Ybaf.prog W (fun _ => true) [nmK, nmR] gs q := hV0
  rw [Ybaf.params3] at hA hval
  obtain ⟨v0, vs0, d0, ds0, p0, q0, hargs, rfl, rfl, h0, r0⟩ := trodAll_cons hA
  obtain ⟨v1, vs1, d1, ds1, p1, q1, rfl, rfl, rfl, h1, r1⟩ := trodAll_cons r0
  obtain ⟨v2, vs2, d2, ds2, p2, q2, rfl, rfl, rfl, h2, r2⟩ := trodAll_cons r1
  obtain ⟨v3, vs3, d3, ds3, p3, q3, rfl, rfl, rfl, h3, r3⟩ := trodAll_cons r2
  obtain ⟨rfl, rfl, rfl⟩ := trodAll_nil r3
  obtain rfl : args = #[v0, v1, v2, v3] := by cases args; simp_all
  obtain ⟨a0, rfl, rfl, rfl, w0⟩ := open_int Ybaf.underlying5 (hval 0 5 v0 rfl rfl) h0
  obtain ⟨a1, rfl, rfl, rfl, w1⟩ := open_int Ybaf.underlying5 (hval 1 5 v1 rfl rfl) h1
  obtain ⟨a2, rfl, rfl, rfl, w2⟩ := open_int Ybaf.underlying3 (hval 2 3 v2 rfl rfl) h2
  obtain ⟨a3, len3, cap3, rfl⟩ := okWide_slice Ybaf.underlying22 (hval 3 22 v3 rfl rfl)
  have k3 := h3
  have lt3 : ∀ x ∈ p3, x.block < W.heap.size := by obtain ⟨m, hm⟩ := k3; exact DataW.trod_lt m _ _ _ hm
  obtain ⟨z, w3⟩ : ∃ z, PreSrc a3 len3 z W := by
    obtain ⟨fuel, hf⟩ := h3
    exact pre_of hf
  obtain ⟨b0, b1, s0, s1, c0, c1, t0, t1, hv0, hv1, hc0, hs0, hz0, hc1, hs1, hz1, hne, hb0, hb1⟩ := laid_sentinels2 hL Ybaf.gR Ybaf.gRType Ybaf.gK Ybaf.gKType Ybaf.underlying78 Ybaf.row102 Ybaf.underlying102 Ybaf.underlying104 rfl rfl Ybaf.underlying9 Ybaf.cells104 Ybaf.cells9
  have vr : ∀ {X : World}, X.var? Ybaf.prog nmK = some #[.iface 102 (.pointer (some b1))] → X.var? Ybaf.prog nmR = some #[.iface 102 (.pointer (some b0))] → ∀ sp : Nat → Bool,
      DataW.TrodVars enc Ybaf.prog X sp [nmK, nmR] [tok enc (.iface 102 (.pointer (some b1))), tok enc (.iface 102 (.pointer (some b0)))] [.cell 0 0, .cell 1 0] :=
    fun x0 x1 sp => vars_read2 enc Ybaf.gK Ybaf.gKType Ybaf.underlying78 x0 trivial Ybaf.gR Ybaf.gRType Ybaf.underlying78 x1 trivial sp
  obtain ⟨rfl, rfl⟩ := hV.unique (vr hv1 hv0 _)
  clear hA0 hV0 hval0
  have hgK : W.cell? ⟨0, 0, none⟩ = some (.iface 102 (.pointer (some b1))) := by simpa using World.var?_cell Ybaf.gK hv1 0
  have hgR : W.cell? ⟨1, 0, none⟩ = some (.iface 102 (.pointer (some b0))) := by simpa using World.var?_cell Ybaf.gR hv0 0
  refine (law_walk F.told a0 a1 a2 a3 len3 cap3 z b1 b0 s0 c1 c0 t1 t0 W (bounds_u8 w0) (bounds_u8 w1) w3 hF hgK hgR hc0 (Ne.symm hne) hb1 hb0).mono fun e W' ⟨he, bel⟩ => ?_
  subst he
  refine ⟨_, rfl, _, _, _, [], _, [.cell 0 0, .cell 1 0], hW', trodAll_mk1 (shut_bool Ybaf.underlying4 _), (trodAll_cons_mk (shut_int Ybaf.underlying5 w0) (trodAll_cons_mk (shut_int Ybaf.underlying5 w1) (trodAll_cons_mk (shut_int Ybaf.underlying3 w2) (trodAll_cons_mk (Below.trod Ybaf.laidOut (by kernel_rfl) (of_decide_eq_true (by kernel_rfl)) k3 bel lt3) trodAll_mk0)))), vr ?_ ?_ _, bel.frame _, fun h => by cases h⟩
  · exact var?_below bel Ybaf.gK (World.block_lt_of_cell? _ _ hgK) hv1
  · exact var?_below bel Ybaf.gR (World.block_lt_of_cell? _ _ hgR) hv0

theorem knock_card : Rows.LawS1143BKnockToldSaid :=
  Claim7.holds_of_told_tied_any_at .later 3 Ybaf.f3 "fmt.errorf" [] [] _ _ _ _ _ (by kernel_rfl) rfl rfl rfl Ybaf.laidOut (by kernel_rfl) rfl ⟨rfl, rfl, rfl, rfl, rfl, rfl, rfl⟩ rfl rfl (by kernel_rfl) (by kernel_rfl) Ybaf.func3 (by kernel_rfl)
    (of_decide_eq_true (by kernel_rfl)) (of_decide_eq_true (by kernel_rfl)) Ybaf.stops.symm rfl Ybaf.stopKnobs.symm (by kernel_rfl)
    (by kernel_rfl) (by kernel_rfl) (by kernel_rfl) (by kernel_rfl) (by kernel_rfl) (by kernel_rfl) (by kernel_rfl) (by kernel_rfl) (by kernel_rfl) rfl (by kernel_rfl) rfl rfl
    rfl rfl
    rfl (by kernel_rfl) (by kernel_rfl) (by kernel_rfl) (by decide) (by kernel_rfl) lawS1143BKnock_row_tie
    (OpenClaim.moreEntering_of (by kernel_rfl) (by kernel_rfl) (by kernel_rfl) (by kernel_rfl) (by kernel_rfl) (by kernel_rfl) (by kernel_rfl) (by kernel_rfl) (by kernel_rfl) (by kernel_rfl))
    ⟨_, WideRow.started_initial, Ybaf.quiet _⟩
    (fun os started _ H enc _ => lifted os started H enc)
#print axioms knock_card
end Go.Proofs.YbulkwqmFmt
