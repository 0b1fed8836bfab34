import Derived.Test.YbulkwqmDoorLaid
import Derived.Test.YbulkwqmDoorLawS
import Derived.ChangeMaps5
namespace Go.Proofs.YbulkwqmDoor
open Go.ChangeShapes Go.WideShapes Go.ChangeAt Go.WideMaps Go.WideElems Go.RowKit Go.Lib
set_option linter.unusedVariables false

set_option maxRecDepth 100000 in
theorem liftedS (os : Os) (started : os.Started) (H : Type) (enc : TypeId × Value → H) :
    ReturnsInHanded {} Ybad.checked os 4 .any (fun w args => (Rows.lawS1143CSenderSpec.pre enc Ybad.prog Ybad.f4 [] false w args ∧ laidMetH Ybad.prog Rows.lawS1143CSenderRow.laid w) ∧ sizedMet enc Ybad.prog Ybad.f4 (OpenSpec.ofChange Rows.lawS1143CSenderSpec) false w args)
      (Rows.lawS1143CSenderSpec.post enc Ybad.prog Ybad.f4 false true false false) := by
  refine returnsInHanded_of_change_and (C := Ybad.checked) (X := fun w _ => laidMetH Ybad.prog Rows.lawS1143CSenderRow.laid w) (fun _ _ _ hh h => h.of_heap hh) own started (by kernel_rfl) Ybad.func4
    (ChangeSpec.witness_shaped (enc := enc) (C := Ybad.checked) (os := os) (X := fun w _ => laidMetH Ybad.prog Rows.lawS1143CSenderRow.laid w) false (laidW (World.holding Ybad.prog os ⟨#[], #[], []⟩))
      #[.slice none 0 0, .string ByteArray.empty, .int .i64 0, .int .i64 0] 8 rfl (World.shaped_of_RefB (by kernel_rfl) (by kernel_rfl)) (by kernel_rfl) (by kernel_rfl) (by kernel_rfl) (laidW_met os _)) ?_
  intro W base args ds gs before hval0 hW _ _ hL _
  have hval : ∀ (j : Nat) t v, Ybad.f4.params[j]? = some t → args[j]? = some v → Value.okWide Ybad.prog W .any base t v := hval0
  have hW' := hW
  obtain ⟨p, q, hA0, hV, rfl, hfz, hnd⟩ := hW
  have hA : DataW.TrodAll enc Ybad.prog W 0 (fun _ => true) true Ybad.f4.params.toList args.toList ds p := hA0
  rw [Ybad.params4] at hA hval
  obtain ⟨v0, vs0, d0, ds0, p0, q0, hargs, rfl, rfl, h0, r0⟩ := trodAll_cons hA
  obtain ⟨v1, vs1, d1, ds1, p1, q1, rfl, rfl, rfl, h1, r1⟩ := trodAll_cons r0
  obtain ⟨v2, vs2, d2, ds2, p2, q2, rfl, rfl, rfl, h2, r2⟩ := trodAll_cons r1
  obtain ⟨v3, vs3, d3, ds3, p3, q3, rfl, rfl, rfl, h3, r3⟩ := trodAll_cons r2
  obtain ⟨rfl, rfl, rfl⟩ := trodAll_nil r3
  obtain rfl : args = #[v0, v1, v2, v3] := by cases args; simp_all
  obtain ⟨rfl, rfl⟩ := trodVars_none hV
  obtain ⟨ao, c, xs, rfl, hsrc, hbx, hxl⟩ := src_of (okWide_slice Ybad.underlying22 (hval 0 22 v0 rfl rfl)) h0
  obtain ⟨kind, rfl, rfl, rfl, wk⟩ := ChangeMaps.open_string Ybad.underlying9 (hval 1 9 v1 rfl rfl) h1
  obtain ⟨tm, rfl, rfl, rfl, wt⟩ := open_int Ybad.underlying2 (hval 2 2 v2 rfl rfl) h2
  obtain ⟨fr, rfl, rfl, rfl, wf⟩ := open_int Ybad.underlying3 (hval 3 3 v3 rfl rfl) h3
  have lt0 : ∀ x ∈ p0, x.block < W.heap.size := by obtain ⟨m, hm⟩ := h0; exact DataW.trod_lt m _ _ _ hm
  have bt := bounds_i64 wt
  have bf := bounds_i64 wf
  clear hA0 hval0
  refine (lawS_walk ao c xs kind tm fr W hsrc bt.1 bt.2 bf.1 bf.2 hxl (by unfold maxLen at wk; omega) (tab_of_laid hL)).mono fun e W' ⟨he, bel⟩ => ?_
  subst he
  exact ⟨_, rfl, _, _, _, [], _, [], hW', trodAll_mk1 (shut_bool Ybad.underlying4 _), (trodAll_cons_mk (Below.trod laidOut (by kernel_rfl) (of_decide_eq_true (by kernel_rfl)) h0 bel lt0) (trodAll_cons_mk (ChangeMaps.shut_string Ybad.underlying9 wk) (trodAll_cons_mk (shut_int Ybad.underlying2 wt) (trodAll_cons_mk (shut_int Ybad.underlying3 wf) trodAll_mk0)))), rfl, bel.frame _, fun h => by cases h⟩

theorem sender_holds : Rows.LawS1143CSenderSaid :=
  OpenClaim.holds_of_wide 4 Ybad.f4 rfl rfl rfl rfl rfl rfl rfl ⟨rfl, rfl, rfl, rfl, rfl⟩ rfl rfl rfl rfl rfl (by kernel_rfl) Ybad.func4 (by kernel_rfl)
    (of_decide_eq_true (by kernel_rfl)) (by unfold Func.isWrapper; first | (rw [if_pos (by decide +kernel)]; kernel_rfl) | (rw [if_neg (by decide +kernel)]; exact ⟨rfl, rfl⟩))
    (fun os started H enc _ => liftedS os started H enc)

theorem sender_card : Rows.LawS1143CSenderCardSaid :=
  Claim7.holds_tied_plain_at .later [] [.data, .data, .data] true (true, "2bc1ae2e8e745f9fb4155b5ceef6ff35b98e4ece1a36a8dbb17720f134614ff4") false
    sender_holds (fun _ h => by cases h) (by kernel_rfl) (fun _ h => by cases h) lawS1143CSender_row_tie rfl ⟨rfl, rfl⟩ (by kernel_rfl) rfl
    (fun f fn hf hfn => by
      obtain rfl : f = 4 := Option.some.inj ((show Ybad.prog.funcNamed Rows.lawS1143CSenderRow.func = some 4 by kernel_rfl).symm.trans hf) |>.symm
      obtain rfl : fn = Ybad.f4 := (Option.some.inj (Ybad.func4.symm.trans hfn)).symm
      exact ⟨by kernel_rfl, fun j t ht => by
        rw [Ybad.params4] at ht
        have hm : t ∈ [22, 9, 2, 3] := by simpa using Array.mem_of_getElem? ht
        have hall : ([22, 9, 2, 3].all fun u => !Ybad.prog.wantsStandIn u) = true := by kernel_rfl
        exact (show Ybad.prog.wantsStandIn t = false by simpa using List.all_eq_true.1 hall t hm)⟩)
    (by kernel_rfl)
#print axioms sender_card
end Go.Proofs.YbulkwqmDoor
