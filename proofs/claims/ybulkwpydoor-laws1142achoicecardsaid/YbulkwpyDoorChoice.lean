import Derived.Test.YbulkwpyDoorRows
import Derived.Test.YbulkwpyDoorTie
import Derived.Test.YbulkwpyDoorCards
import Derived.Test.YbulkwpyDoorLaw
import Derived.ProofKit
import Derived.LaidMore
import Derived.OpenShut
import Derived.Stop.Joined
import Derived.SevenTiedAt
import Derived.Carry
import Derived.Lib.SmallJoins
namespace Go.Proofs.YbulkwpyDoor
open Go.ChangeShapes Go.WideShapes Go.ChangeAt Go.WideMaps Go.WideElems Go.RowKit
set_option linter.unusedVariables false

theorem own : ownKnob Ybad.prog.godebug = none := by kernel_rfl
theorem laidOut : laidOutB Ybad.prog = true := by kernel_rfl
theorem gZ4 : Ybad.prog.globalNamed (Rows.lawS1142AChoiceRow.named.getD 0 default) = some 0 := by kernel_rfl
theorem gZ6 : Ybad.prog.globalNamed (Rows.lawS1142AChoiceRow.named.getD 1 default) = some 1 := by kernel_rfl
theorem gZ0 : Ybad.prog.globalNamed (Rows.lawS1142AChoiceRow.named.getD 2 default) = some 2 := by kernel_rfl
theorem tZ4 : (Ybad.prog.globals[0]?).map (·.type) = some 30 := by kernel_rfl
theorem tZ6 : (Ybad.prog.globals[1]?).map (·.type) = some 30 := by kernel_rfl
theorem tZ0 : (Ybad.prog.globals[2]?).map (·.type) = some 30 := by kernel_rfl
theorem cells30 : Ybad.prog.cellsOf 30 = 1 := by kernel_rfl
theorem cells28 : Ybad.prog.cellsOf 28 = 1 := by kernel_rfl
theorem cells22 : Ybad.prog.cellsOf 22 = 4 := by kernel_rfl
theorem cells5 : Ybad.prog.cellsOf 5 = 1 := by kernel_rfl

/-- A world that meets the condition: the given one, two details laid behind, the two variables' cells made to point there. (Not the heap that the door's own run leaves: that run writes into the model's own table of unique.Make, and a start whose tables are not as at the beginning is no start for the form.) -/
def laidW (w0 : World) : World :=
  { w0 with heap := (((w0.heap.modify 0 fun
      | .cells _ t frozen => .cells #[.pointer (some ⟨w0.heap.size, 0, none⟩)] t frozen
      | o => o).modify 1 fun
      | .cells _ t frozen => .cells #[.pointer (some ⟨w0.heap.size + 1, 0, none⟩)] t frozen
      | o => o).push (.cells #[.bool false, .string ByteArray.empty] 78)).push (.cells #[.bool true, .string ByteArray.empty] 78) }
theorem laidW_met (os : Os) (args : Array Value) : laidMetH Ybad.prog Rows.lawS1142AChoiceRow.laid ((laidW (World.holding Ybad.prog os ⟨#[], #[], []⟩)).forCall (fun _ _ => 0) ⟨#[], args, []⟩).memory :=
  laidMetH_of_parts3 (fuel := 8) (laidMet_of_run' 8 (by kernel_rfl) (by kernel_rfl)) (by kernel_rfl) (by kernel_rfl)

/-- A handle that reads as a struct of one pointer: its one cell. -/
theorem handle_ptr {H : Type} {enc : TypeId × Value → H} {W : World} {base : Nat} {sp : Nat → Bool} {held : Bool} {fuel : Nat} {cs : List Value} {d : DataW H} {p : List MemPlace}
    (h : DataW.trod enc Ybad.prog W base sp held fuel 30 cs = some (.agg [.ptr d], p)) : ∃ a, cs = [.pointer (some a)] := by
  obtain ⟨y0, n, hx, hl, hy⟩ := trod_struct1 Ybad.underlying30 h
  simp only [Prod.mk.injEq, DataW.agg.injEq, List.cons.injEq, and_true] at hx
  rw [cells30] at hl
  match cs, hl with
  | [c], _ =>
    obtain ⟨y1, y2⟩ := y0
    obtain ⟨hx1, hx2⟩ := hx
    simp only at hx1
    subst hx1
    rw [cells28] at hy
    obtain ⟨_, a, _, _, e, _⟩ := ptr_of_trod Ybad.underlying28 hy
    exact ⟨a, by simpa using e⟩
theorem handle_nil {H : Type} {enc : TypeId × Value → H} {W : World} {base : Nat} {sp : Nat → Bool} {held : Bool} {fuel : Nat} {cs : List Value} {p : List MemPlace}
    (h : DataW.trod enc Ybad.prog W base sp held fuel 30 cs = some (.agg [.nil], p)) : cs = [.pointer none] := by
  obtain ⟨y0, n, hx, hl, hy⟩ := trod_struct1 Ybad.underlying30 h
  simp only [Prod.mk.injEq, DataW.agg.injEq, List.cons.injEq, and_true] at hx
  rw [cells30] at hl
  match cs, hl with
  | [c], _ =>
    obtain ⟨y1, y2⟩ := y0
    obtain ⟨hx1, hx2⟩ := hx
    simp only at hx1
    subst hx1
    rw [cells28] at hy
    cases n with
    | zero => simp [DataW.trod] at hy
    | succ n =>
      cases c with
      | pointer o =>
        cases o with
        | none => rfl
        | some a =>
          simp only [DataW.trod, Ybad.underlying28, List.drop_zero, List.take_succ_cons, List.take_zero] at hy
          rw [Option.map_eq_some_iff] at hy
          obtain ⟨x, _, hx⟩ := hy
          simp at hx
      | _ => simp [DataW.trod, Ybad.underlying28] at hy

theorem of_laid {W : World} (h : laidMetH Ybad.prog Rows.lawS1142AChoiceRow.laid W) : ∃ a4 a6, W.cell? ⟨0, 0, none⟩ = some (.pointer (some a4)) ∧ W.cell? ⟨1, 0, none⟩ = some (.pointer (some a6)) ∧ W.cell? ⟨2, 0, none⟩ = some (.pointer none) := by
  rw [MakeChecks.laidMetH_plain _ _ _ (by kernel_rfl)] at h
  obtain ⟨ps, ⟨g0, t0, cs0, f0, p0, q0, hg0, ht0, hv0, hd0, ⟨g1, t1, cs1, f1, p1, q1, hg1, ht1, hv1, hd1, ⟨g2, t2, cs2, f2, p2, q2, hg2, ht2, hv2, hd2, _, _⟩, _⟩, _⟩, _, _⟩ := h
  obtain rfl := Option.some.inj (gZ4.symm.trans hg0)
  obtain rfl := Option.some.inj (gZ6.symm.trans hg1)
  obtain rfl := Option.some.inj (gZ0.symm.trans hg2)
  obtain rfl := Option.some.inj (tZ4.symm.trans ht0)
  obtain rfl := Option.some.inj (tZ6.symm.trans ht1)
  obtain rfl := Option.some.inj (tZ0.symm.trans ht2)
  obtain ⟨a4, e4⟩ := handle_ptr hd0
  obtain ⟨a6, e6⟩ := handle_ptr hd1
  have e0 := handle_nil hd2
  refine ⟨a4, a6, ?_, ?_, ?_⟩
  · have := World.var?_cell hg0 hv0 0
    rw [Array.eq_one_of_toList e4] at this
    simpa using this
  · have := World.var?_cell hg1 hv1 0
    rw [Array.eq_one_of_toList e6] at this
    simpa using this
  · have := World.var?_cell hg2 hv2 0
    rw [Array.eq_one_of_toList e0] at this
    simpa using this

/-- Four bytes by value, opened. -/
theorem open_four {H : Type} {enc : TypeId × Value → H} {W : World} {base b0 : Nat} {sp : Nat → Bool} {held : Bool} {r : Reach} {v : Value} {d : DataW H} {p : List MemPlace} (hv : Value.okWide Ybad.prog W r b0 22 v) (h : DataW.Trod enc Ybad.prog W base sp held 22 v d p) :
    ∃ x0 x1 x2 x3 : Int, v = .agg #[.int .u8 x0, .int .u8 x1, .int .u8 x2, .int .u8 x3] := by
  simp only [Value.okWide, Ybad.underlying22] at hv
  obtain ⟨cs, rfl, hsz, _⟩ := hv
  obtain ⟨c0, c1, c2, c3, rfl⟩ := Joins.array4 (hsz.trans cells22)
  obtain ⟨fuel, hf⟩ := h
  obtain ⟨xs, m, _, _, _, hlen, hel⟩ := DataW.trod_array Ybad.underlying22 hf
  have k0 := hel 0 (by decide)
  have k1 := hel 1 (by decide)
  have k2 := hel 2 (by decide)
  have k3 := hel 3 (by decide)
  rw [cells5] at k0 k1 k2 k3
  match xs, hlen with
  | [y0, y1, y2, y3], _ =>
    simp [Value.cells] at k0 k1 k2 k3
    obtain ⟨x0, e0, _, _⟩ := DataW.trod_int Ybad.underlying5 k0
    obtain ⟨x1, e1, _, _⟩ := DataW.trod_int Ybad.underlying5 k1
    obtain ⟨x2, e2, _, _⟩ := DataW.trod_int Ybad.underlying5 k2
    obtain ⟨x3, e3, _, _⟩ := DataW.trod_int Ybad.underlying5 k3
    simp at e0 e1 e2 e3
    exact ⟨x0, x1, x2, x3, by rw [e0, e1, e2, e3]⟩

set_option maxRecDepth 100000 in
theorem lifted (os : Os) (started : os.Started) (H : Type) (enc : TypeId × Value → H) :
    ReturnsInHanded {} Ybad.checked os 3 .any (fun w args => (Rows.lawS1142AChoiceSpec.pre enc Ybad.prog Ybad.f3 [] false w args ∧ laidMetH Ybad.prog Rows.lawS1142AChoiceRow.laid w) ∧ sizedMet enc Ybad.prog Ybad.f3 (OpenSpec.ofChange Rows.lawS1142AChoiceSpec) false w args)
      (Rows.lawS1142AChoiceSpec.post enc Ybad.prog Ybad.f3 false true false false) := by
  refine returnsInHanded_of_change_and (C := Ybad.checked) (X := fun w _ => laidMetH Ybad.prog Rows.lawS1142AChoiceRow.laid w) (fun _ _ _ hh h => h.of_heap hh) own started (by kernel_rfl) Ybad.func3
    (ChangeSpec.witness_shaped (enc := enc) (C := Ybad.checked) (os := os) (X := fun w _ => laidMetH Ybad.prog Rows.lawS1142AChoiceRow.laid w) false (laidW (World.holding Ybad.prog os ⟨#[], #[], []⟩))
      #[.bool false, .int .u8 0, .agg #[.int .u8 0, .int .u8 0, .int .u8 0, .int .u8 0], .int .u8 0, .agg #[.int .u8 0, .int .u8 0, .int .u8 0, .int .u8 0], .agg #[.int .u8 0, .int .u8 0, .int .u8 0, .int .u8 0], .int .u32 0, .int .u32 0, .int .u8 0] 8 rfl (World.shaped_of_RefB (by kernel_rfl) (by kernel_rfl)) (by kernel_rfl) (by kernel_rfl) (by kernel_rfl) (laidW_met os _)) ?_
  intro W base args ds gs before hval0 hW _ _ hL _
  have hval : ∀ (j : Nat) t v, Ybad.f3.params[j]? = some t → args[j]? = some v → Value.okWide Ybad.prog W .any base t v := hval0
  have hW' := hW
  obtain ⟨p, q, hA0, hV, rfl, hfz, hnd⟩ := hW
  have hA : DataW.TrodAll enc Ybad.prog W 0 (fun _ => true) true Ybad.f3.params.toList args.toList ds p := hA0
  rw [Ybad.params3] at hA hval
  obtain ⟨v0, vs0, d0, ds0, p0, q0, hargs, rfl, rfl, h0, r0⟩ := trodAll_cons hA
  obtain ⟨v1, vs1, d1, ds1, p1, q1, rfl, rfl, rfl, h1, r1⟩ := trodAll_cons r0
  obtain ⟨v2, vs2, d2, ds2, p2, q2, rfl, rfl, rfl, h2, r2⟩ := trodAll_cons r1
  obtain ⟨v3, vs3, d3, ds3, p3, q3, rfl, rfl, rfl, h3, r3⟩ := trodAll_cons r2
  obtain ⟨v4, vs4, d4, ds4, p4, q4, rfl, rfl, rfl, h4, r4⟩ := trodAll_cons r3
  obtain ⟨v5, vs5, d5, ds5, p5, q5, rfl, rfl, rfl, h5, r5⟩ := trodAll_cons r4
  obtain ⟨v6, vs6, d6, ds6, p6, q6, rfl, rfl, rfl, h6, r6⟩ := trodAll_cons r5
  obtain ⟨v7, vs7, d7, ds7, p7, q7, rfl, rfl, rfl, h7, r7⟩ := trodAll_cons r6
  obtain ⟨v8, vs8, d8, ds8, p8, q8, rfl, rfl, rfl, h8, r8⟩ := trodAll_cons r7
  obtain ⟨rfl, rfl, rfl⟩ := trodAll_nil r8
  obtain rfl : args = #[v0, v1, v2, v3, v4, v5, v6, v7, v8] := by cases args; simp_all
  obtain ⟨rfl, rfl⟩ := trodVars_none hV
  obtain ⟨has, rfl, rfl, rfl⟩ := open_bool Ybad.underlying4 (hval 0 4 v0 rfl rfl) h0
  obtain ⟨ok, rfl, rfl, rfl, wok⟩ := open_int Ybad.underlying5 (hval 1 5 v1 rfl rfl) h1
  obtain ⟨o0, o1, o2, o3, rfl⟩ := open_four (hval 2 22 v2 rfl rfl) h2
  obtain ⟨pk, rfl, rfl, rfl, wpk⟩ := open_int Ybad.underlying5 (hval 3 5 v3 rfl rfl) h3
  obtain ⟨x0, x1, x2, x3, rfl⟩ := open_four (hval 4 22 v4 rfl rfl) h4
  obtain ⟨a0, a1, a2, a3, rfl⟩ := open_four (hval 5 22 v5 rfl rfl) h5
  obtain ⟨asn, rfl, rfl, rfl, wasn⟩ := open_int Ybad.underlying23 (hval 6 23 v6 rfl rfl) h6
  obtain ⟨og, rfl, rfl, rfl, wog⟩ := open_int Ybad.underlying23 (hval 7 23 v7 rfl rfl) h7
  obtain ⟨cl, rfl, rfl, rfl, wcl⟩ := open_int Ybad.underlying5 (hval 8 5 v8 rfl rfl) h8
  have lt2 : ∀ x ∈ p2, x.block < W.heap.size := by obtain ⟨m, hm⟩ := h2; exact DataW.trod_lt m _ _ _ hm
  have lt4 : ∀ x ∈ p4, x.block < W.heap.size := by obtain ⟨m, hm⟩ := h4; exact DataW.trod_lt m _ _ _ hm
  have lt5 : ∀ x ∈ p5, x.block < W.heap.size := by obtain ⟨m, hm⟩ := h5; exact DataW.trod_lt m _ _ _ hm
  obtain ⟨a4, a6, hz4, hz6, hz0⟩ := of_laid hL
  have bok := bounds_u8 wok
  have bpk := bounds_u8 wpk
  have bcl := bounds_u8 wcl
  clear hA0 hval0
  refine (law_walk has ok o0 o1 o2 o3 pk x0 x1 x2 x3 a0 a1 a2 a3 asn og cl (some a4) (some a6) W hz4 hz6 hz0 rfl rfl bok.1 bok.2 bpk.1 bpk.2 bcl.1 bcl.2).mono fun e W' ⟨he, bel⟩ => ?_
  subst he
  exact ⟨_, rfl, _, _, _, [], _, [], hW', trodAll_mk1 (shut_bool Ybad.underlying4 _), (trodAll_cons_mk (shut_bool Ybad.underlying4 _) (trodAll_cons_mk (shut_int Ybad.underlying5 wok) (trodAll_cons_mk (Below.trod laidOut (by kernel_rfl) (of_decide_eq_true (by kernel_rfl)) h2 bel lt2)
    (trodAll_cons_mk (shut_int Ybad.underlying5 wpk) (trodAll_cons_mk (Below.trod laidOut (by kernel_rfl) (of_decide_eq_true (by kernel_rfl)) h4 bel lt4) (trodAll_cons_mk (Below.trod laidOut (by kernel_rfl) (of_decide_eq_true (by kernel_rfl)) h5 bel lt5)
    (trodAll_cons_mk (shut_int Ybad.underlying23 wasn) (trodAll_cons_mk (shut_int Ybad.underlying23 wog) (trodAll_cons_mk (shut_int Ybad.underlying5 wcl) trodAll_mk0))))))))), rfl, bel.frame _, fun h => by cases h⟩

theorem choice_holds : Rows.LawS1142AChoiceSaid :=
  OpenClaim.holds_of_wide 3 Ybad.f3 rfl rfl rfl rfl rfl rfl rfl ⟨rfl, rfl, rfl, rfl, rfl⟩ rfl rfl rfl rfl rfl (by kernel_rfl) Ybad.func3 (by kernel_rfl)
    (of_decide_eq_true (by kernel_rfl)) (by unfold Func.isWrapper; first | (rw [if_pos (by decide +kernel)]; kernel_rfl) | (rw [if_neg (by decide +kernel)]; exact ⟨rfl, rfl⟩))
    (fun os started H enc _ => lifted os started H enc)

theorem choice_card : Rows.LawS1142AChoiceCardSaid :=
  Claim7.holds_tied_plain_at .later [] [.called, .called, .zero] true (true, "adc9fc24f8b68c7526d64f254ac9ef96b003dace36df9525d758dc7e4e61b7ba") false
    choice_holds (fun _ h => by cases h) (by kernel_rfl) (fun _ h => by cases h) lawS1142AChoice_row_tie rfl ⟨rfl, rfl⟩ (by kernel_rfl) rfl
    (fun f fn hf hfn => by
      obtain rfl : f = 3 := Option.some.inj ((show Ybad.prog.funcNamed Rows.lawS1142AChoiceRow.func = some 3 by kernel_rfl).symm.trans hf) |>.symm
      obtain rfl : fn = Ybad.f3 := (Option.some.inj (Ybad.func3.symm.trans hfn)).symm
      exact ⟨by kernel_rfl, fun j t ht => by
        rw [Ybad.params3] at ht
        have hm : t ∈ [4, 5, 22, 5, 22, 22, 23, 23, 5] := by simpa using Array.mem_of_getElem? ht
        have hall : ([4, 5, 22, 5, 22, 22, 23, 23, 5].all fun u => !Ybad.prog.wantsStandIn u) = true := by kernel_rfl
        exact (show Ybad.prog.wantsStandIn t = false by simpa using List.all_eq_true.1 hall t hm)⟩)
    (by kernel_rfl)
#print axioms choice_card
end Go.Proofs.YbulkwpyDoor
