/-
  THE SHELL OF A PROOF OF 'Rows.LawS1142CBuiltSaid' ('example.com/prefixlens/prefixlens/probe.LawS1142CBuilt'), WRITTEN BY PROGRAM (proof-skeleton.mjs, third state) off the guide's own print for that function. Not trusted: Lean checks it.
  THE WALK IS TYPED BY HAND. ALL ELSE IS THE GUIDE's OWN WAY (howto/template/XProofs.lean; Derived/Test/ChunkProofs.lean for 'Below') at this function's number and types: leave it.
-/
import Derived.Test.YbulkwpyRows
import Derived.Test.YbulkwpyPay
import Derived.WalkSmall
import Derived.Laws.CopyOwn
import Derived.WalkKit
import Derived.ProofKit
import Derived.OpenShut
import Derived.ShutString
import Derived.ChangeOld
import Derived.Below
namespace Go.Proofs.Ybulkwpy.lawS1142CBuilt
open Go.ChangeShapes Go.WideShapes Go.ChangeAt Go.RowKit
open Go.ChangeMaps (open_string shut_string)
set_option linter.unusedVariables false

theorem own : ownKnob Yba.prog.godebug = none := by kernel_rfl
theorem laidOut : laidOutB Yba.prog = true := by kernel_rfl

/-- WHAT THE WALK IS TOLD OF A SLICE OF INTEGERS THAT CAME IN: it is nil; or it leads to a row of 'cap' cells, the numbers 'zs' (the first 'len' are its elements, the rest its spare room), each fitting its kind. -/
def IsRow (k : IntKind) (w : World) (a : Option Addr) (len cap : Nat) (zs : List Int) : Prop :=
  (a = none ∧ len = 0 ∧ cap = 0 ∧ zs = []) ∨
  ∃ x, a = some x ∧ len ≤ cap ∧ cap ≤ maxLen ∧ zs.length = cap ∧ (∀ i, i < zs.length → w.cell? (x.add i) = some (.int k (zs.getD i 0))) ∧ ∀ n ∈ zs, (Lit.int k n).wf = true

theorem infoB : (Yba.prog.info? 5).map (fun i => (i.zero, i.size, i.bytes)) = some (some (.int .u8 0), 1, 1) := by kernel_rfl

/-- The call's own row: block B holds N cells of type 5, none frozen. -/
def Own (B N : Nat) (w : World) : Prop := ∃ cur : List Value, cur.length = N ∧ w.heap[B]? = some (.cells cur.toArray 5 (0, 0))
theorem Own.cell {B N : Nat} {w : World} (h : Own B N w) (i : Nat) (hi : i < N) : ∃ v, w.cell? ⟨B, i, none⟩ = some v := by
  obtain ⟨cur, hl, hg⟩ := h
  refine ⟨cur[i], ?_⟩
  rw [cell_of_row w B i _ 5 (0, 0) hg]
  simp
theorem Own.free {B N : Nat} {w : World} (h : Own B N w) (i : Nat) : w.frozen? ⟨B, i, none⟩ = false := by
  obtain ⟨cur, hl, hg⟩ := h
  exact frozen_of_row w B i _ 5 hg
theorem Own.set {B N : Nat} {w : World} (h : Own B N w) (i : Nat) (v : Value) : Own B N (w.setCell ⟨B, i, none⟩ v) := by
  obtain ⟨cur, hl, hg⟩ := h
  refine ⟨cur.set i v, by simpa using hl, ?_⟩
  rw [heap_setCell_same w B i _ 5 v hg]
  simp

theorem own_of {w w' : World} {n : Nat} {xs : List Value} (h : w'.ownsRow w.heap.size 5 1 (.slice (some ⟨w.heap.size, 0, none⟩) n n) n xs) : Own w.heap.size n w' := by
  obtain ⟨_, h2⟩ := h
  rcases h2 with ⟨h, _⟩ | ⟨g, cap, cur, h, _, hg, _, _, hs, _⟩
  · cases h
  · simp only [Value.slice.injEq, Option.some.injEq, Addr.mk.injEq, and_true, true_and] at h
    obtain ⟨rfl, rfl⟩ := h
    exact ⟨cur.toList, by simpa using hs, by simpa using hg⟩

theorem IsRow.cells {k : IntKind} {w : World} {a : Option Addr} {len cap : Nat} {zs : List Int} (h : IsRow k w a len cap zs) (hp : 0 < len) :
    ∃ x, a = some x ∧ x.block < w.heap.size ∧ len ≤ zs.length ∧ ∀ i, i < zs.length → w.cell? (x.add i) = some (.int k (zs.getD i 0)) := by
  rcases h with ⟨rfl, rfl, rfl, rfl⟩ | ⟨x, rfl, hl, hm, hz, hc, hw⟩
  · omega
  · refine ⟨x, rfl, ?_, by omega, hc⟩
    have h := World.block_lt_of_cell? _ _ (hc 0 (by omega))
    have e : (x.add 0).block = x.block := by unfold Addr.add; split <;> rfl
    rwa [e] at h

theorem src {x : Addr} {z : List Int} {len : Nat} {w wr : World} (hl : len ≤ z.length) (hc : ∀ i, i < z.length → w.cell? (x.add i) = some (.int .u8 (z.getD i 0)))
    (hb : ∀ p : Addr, p.block = x.block → wr.cell? p = w.cell? p) :
    ∃ cs : List Value, cs.length = len ∧ (∀ v ∈ cs, v.oneCell' = true) ∧ ∀ j v, cs[j]? = some v → wr.cell? (x.add j) = some v := by
  refine ⟨(z.take len).map (Value.int .u8), by simp; omega, ?_, ?_⟩
  · intro v hv; obtain ⟨_, _, rfl⟩ := List.mem_map.1 hv; rfl
  · intro j v hj
    have e : (x.add j).block = x.block := by unfold Addr.add; split <;> rfl
    have hjl : j < len := by
      have := (List.getElem?_eq_some_iff.1 hj).1; simp at this; omega
    rw [hb _ e, hc j (by omega)]
    rw [List.getElem?_map, List.getElem?_take, if_pos hjl] at hj
    simp [List.getElem?_eq_getElem (show j < z.length by omega)] at hj
    simp [List.getElem?_eq_getElem (show j < z.length by omega), hj]

theorem own_splice {w : World} {B N off : Nat} {cur cs : List Value} (h : Hid (w.heap[B]? = some (.cells (splice cur off cs).toArray 5 (0, 0)))) (hl : cur.length = N) (hf : off + cs.length ≤ N) : Own B N w :=
  ⟨splice cur off cs, by rw [length_splice _ _ _ (by omega), hl], h⟩

theorem Own.c0 {B N : Nat} {w : World} (h : Own B N w) (hN : 0 < N) (u : Value) : (w.setCell ⟨B, 0, none⟩ u).cell? ⟨B, 0, none⟩ = some u := by
  obtain ⟨cur, hl, hg⟩ := h
  rw [cell_of_row _ B 0 _ 5 (0, 0) (heap_setCell_same w B 0 _ 5 u hg)]
  have hp : 0 < cur.length := by omega
  simp [hp]

def ResT (b off n cap : Nat) (c : Int) (v : Value) (ok : Bool) : Prop := (n = 0 ∧ v = .slice none 0 0 ∧ ok = false) ∨ (0 < n ∧ Res b off n cap c v ok)

theorem pay_tot (b off n cap : Nat) (c : Int) (w : World) (hwf : (Lit.int .u8 c).wf = true) (hcap : n ≤ cap) (hc : w.cell? ⟨b, off, none⟩ = some (.int .u8 c)) :
    Calls Yba.prog 5 #[.slice (some ⟨b, off, none⟩) n cap] w fun e w' => ∃ v ok, e = .returned (.tuple #[v, .bool ok]) ∧ Hid (ResT b off n cap c v ok) ∧ w' = w := by
  have hb := bounds_u8 hwf
  by_cases hn : n = 0
  · subst hn
    refine (pay_empty _ _ _).mono ?_
    rintro e w' ⟨rfl, rfl⟩
    exact ⟨_, _, rfl, .inl ⟨rfl, rfl, rfl⟩, rfl⟩
  · refine (pay_any b off n cap c w (by omega) (by omega) (by omega) hcap hc).mono ?_
    rintro e w' ⟨v, ok, rfl, hr, rfl⟩
    exact ⟨v, ok, rfl, .inr ⟨by omega, hr⟩, rfl⟩

theorem check_tot (b off n cap : Nat) (c : Int) (v : Value) (ok : Bool) (w : World) (hwf : (Lit.int .u8 c).wf = true) (hm : n ≤ maxLen) (hc : w.cell? ⟨b, off, none⟩ = some (.int .u8 c)) (hr : Hid (ResT b off n cap c v ok)) :
    Calls Yba.prog 6 #[.slice (some ⟨b, off, none⟩) n cap, v, .bool ok] w fun e w' => e = .returned (.bool true) ∧ ∃ k, w' = w.drewN k := by
  have hb := bounds_u8 hwf
  rcases hr with ⟨rfl, rfl, rfl⟩ | ⟨hn, hr⟩
  · refine (check_empty _ _ _).mono ?_
    rintro e w' ⟨rfl, rfl⟩
    exact ⟨rfl, 0, rfl⟩
  · exact check_any b off n cap c v ok w hn (by omega) (by omega) hm hc hr

theorem walk_small (a0 : Int) (a1 : Int) (a2 : Int) (a3 : Option Addr) (len3 cap3 : Nat) (z3 : List Int) (w : World) (w0 : (Lit.int .u8 a0).wf = true) (w1 : (Lit.int .u8 a1).wf = true) (w2 : (Lit.int .u8 a2).wf = true) (w3 : IsRow .u8 w a3 len3 cap3 z3) (hbig : ¬ (1024 : Int) < (len3 : Int)) :
    Calls Yba.prog 4 #[.int .u8 a0, .int .u8 a1, .int .u8 a2, .slice a3 len3 cap3] w fun e w' => e = .returned (.bool true) ∧ Below w.heap.size w w' := by
  have b0 := bounds_u8 w0
  have b1 := bounds_u8 w1
  have b2 := bounds_u8 w2
  obtain ⟨q, hq⟩ : ∃ q : Nat, bits .and .u8 a1 15 = (q : Int) := ⟨(a1 % 16).toNat, by rw [and15 a1 (by omega) (by omega)]; omega⟩
  have hq16 : q < 16 := by have := and15 a1 (by omega) (by omega); omega
  obtain ⟨i0, hi, hz0, hz1, hz2⟩ := info_parts infoB
  have hsz : (Yba.prog.info? 5).map (·.size) = some 1 := by kernel_rfl
  clear w0 w1 w2
  by_cases hl0 : 0 < len3
  · obtain ⟨x, rfl, hx, hlz, hcells⟩ := w3.cells hl0
    clear w3
    have hN : (0 : Int) < (q : Int) * 4 + (len3 : Int) := by omega
    go_enter Yba.func4, Yba.ntmps4
    go_wp2_with (at_make; refine wpList_make_full _ rfl _ _ 22 rfl w.heap.size 5 i0 (.int .u8 0) 1 Yba.underlying22 hi hz0 hz1 _ _ _ _ (q * 4 + len3) rfl rfl (by omega) (by omega) (by rw [hz2]; omega) (by unfold maxLen; omega) (Nat.le_refl _) ?_; intro wa hown hgrow)
    all_goals
      have hO := own_of hown
      have hB : Below w.heap.size w wa := (Below.refl _ _).grown hgrow (Nat.le_refl _) (by simp)
      clear hown hgrow
      go_loopw [12] (fun i wr => ∃ k : Nat, k ≤ q * 4 ∧ i = .int .i64 k ∧ Own w.heap.size (q * 4 + len3) wr ∧ Below w.heap.size w wr) (fun i _ => q * 4 - (intOf i).toNat)
      case atStart => exact ⟨0, Nat.zero_le _, rfl, hO, hB⟩
      case round =>
        obtain ⟨k, hk, rfl, hO, hB⟩ := hrel
        by_cases hlt : k < q * 4
        · obtain ⟨v, hc⟩ := hO.cell k (by omega)
          have hf := hO.free k
          go_wp2
          go_roundw
          case rel => exact ⟨k + 1, by omega, by go_num, hO.set k _, hB.setCell (Nat.le_refl _) _⟩
          case measure => simp [intOf]; omega
        · obtain ⟨cur, hcl, hcg⟩ := hO
          have HG : Hid (wr.heap[w.heap.size]? = some (.cells cur.toArray 5 (0, 0))) := hcg
          have HL : Hid (cur.length = q * 4 + len3) := hcl
          obtain ⟨cs, hn, h1, hs⟩ := src hlz hcells (wr := wr) (fun p hp => hB.cell (by omega))
          have HN : Hid (cs.length = len3) := hn
          have H1 : Hid (∀ v ∈ cs, v.oneCell' = true) := h1
          have HS : Hid (∀ j v, cs[j]? = some v → wr.cell? (x.add j) = some v) := hs
          clear hcg hcells hcl hn h1 hs
          go_wp2_with (show wpList _ _ _ (Oper.mk (some 46) _ _ _ _ _ :: _) _ _; refine wpList_copy_splice rfl _ _ 22 22 rfl 5 Yba.underlying22 hsz _ _ _ _ _ _ rfl rfl w.heap.size (q * 4) cur 5 HG.out cs (by rw [HN.out]; show _ = min _ _; omega) (fun _ => ⟨rfl, x, rfl, HS.out⟩) (by rw [HN.out, HL.out]; exact Nat.le_refl _) H1.out w.heap.size w hB (Nat.le_refl _) ?_; intro wc hgc hBc; have hOc := own_splice (N := q * 4 + len3) hgc (by rw [HL.out]) (by rw [HN.out]; exact Nat.le_refl _); obtain ⟨vc, hcc⟩ := hOc.cell 0 (by omega); have hfc := hOc.free 0)
          all_goals
            refine (pay_tot w.heap.size 0 _ _ _ _ (wf_bits _ _ _ _) (by omega) (hOc.c0 (by omega) _)).mono ?_
            rintro e w' ⟨v, ok, rfl, hr, rfl⟩
            go_wp2_with fail
            refine (check_tot w.heap.size 0 _ _ _ v ok _ (wf_bits _ _ _ _) (by unfold maxLen; omega) (hOc.c0 (by omega) _) hr).mono ?_
            rintro e w' ⟨rfl, kk, rfl⟩
            go_wp2_with fail
            go_ret
            exact ⟨rfl, below_drewN (hBc.setCell (Nat.le_refl _) _) _⟩
  · obtain rfl : len3 = 0 := by omega
    clear w3
    by_cases hq0 : 0 < q
    · have hN : (0 : Int) < (q : Int) * 4 := by omega
      go_enter Yba.func4, Yba.ntmps4
      go_wp2_with (at_make; refine wpList_make_full _ rfl _ _ 22 rfl w.heap.size 5 i0 (.int .u8 0) 1 Yba.underlying22 hi hz0 hz1 _ _ _ _ (q * 4) rfl rfl (by omega) (by omega) (by rw [hz2]; omega) (by unfold maxLen; omega) (Nat.le_refl _) ?_; intro wa hown hgrow)
      all_goals
        have hO := own_of hown
        have hB : Below w.heap.size w wa := (Below.refl _ _).grown hgrow (Nat.le_refl _) (by simp)
        clear hown hgrow
        go_loopw [12] (fun i wr => ∃ k : Nat, k ≤ q * 4 ∧ i = .int .i64 k ∧ Own w.heap.size (q * 4) wr ∧ Below w.heap.size w wr) (fun i _ => q * 4 - (intOf i).toNat)
        case atStart => exact ⟨0, Nat.zero_le _, rfl, hO, hB⟩
        case round =>
          obtain ⟨k, hk, rfl, hO, hB⟩ := hrel
          by_cases hlt : k < q * 4
          · obtain ⟨v, hc⟩ := hO.cell k (by omega)
            have hf := hO.free k
            go_wp2
            go_roundw
            case rel => exact ⟨k + 1, by omega, by go_num, hO.set k _, hB.setCell (Nat.le_refl _) _⟩
            case measure => simp [intOf]; omega
          · obtain ⟨vc, hcc⟩ := hO.cell 0 (by omega)
            have hfc := hO.free 0
            go_wp2_with (show wpList _ _ _ (Oper.mk (some 46) _ _ _ _ _ :: _) _ _; refine wpList_copy_nothing rfl _ _ 22 22 rfl 5 Yba.underlying22 hsz _ _ _ _ _ _ rfl rfl (Nat.zero_min _) ?_)
            all_goals
              refine (pay_tot w.heap.size 0 _ _ _ _ (wf_bits _ _ _ _) (by omega) (hO.c0 (by omega) _)).mono ?_
              rintro e w' ⟨v, ok, rfl, hr, rfl⟩
              go_wp2_with fail
              refine (check_tot w.heap.size 0 _ _ _ v ok _ (wf_bits _ _ _ _) (by unfold maxLen; omega) (hO.c0 (by omega) _) hr).mono ?_
              rintro e w' ⟨rfl, kk, rfl⟩
              go_wp2_with fail
              go_ret
              exact ⟨rfl, below_drewN (hB.setCell (Nat.le_refl _) _) _⟩
    · obtain rfl : q = 0 := by omega
      go_enter Yba.func4, Yba.ntmps4
      go_wp2_with (at_make; refine wpList_make_full _ rfl _ _ 22 rfl w.heap.size 5 i0 (.int .u8 0) 1 Yba.underlying22 hi hz0 hz1 _ _ _ _ 0 rfl rfl (by omega) (by omega) (by rw [hz2]; omega) (by unfold maxLen; omega) (Nat.le_refl _) ?_; intro wa hown hgrow)
      all_goals
        have hB : Below w.heap.size w wa := (Below.refl _ _).grown hgrow (Nat.le_refl _) (by simp)
        clear hown hgrow
        go_loopw [12] (fun i wr => i = .int .i64 0 ∧ Below w.heap.size w wr) (fun i _ => 0)
        case atStart => exact ⟨rfl, hB⟩
        case round =>
          obtain ⟨rfl, hB⟩ := hrel
          go_wp2_with (first | (show wpList _ _ _ (Oper.mk (some 46) _ _ _ _ _ :: _) _ _; refine wpList_copy_nothing rfl _ _ 22 22 rfl 5 Yba.underlying22 hsz _ _ _ _ _ _ rfl rfl (Nat.zero_min _) ?_) | (go_at_call 5; refine (pay_empty _ _ _).mono ?_; rintro e w' ⟨rfl, rfl⟩) | (go_at_call 6; refine (check_empty _ _ _).mono ?_; rintro e w' ⟨rfl, rfl⟩))
          all_goals
            go_ret
            exact ⟨rfl, hB⟩

theorem walk (a0 : Int) (a1 : Int) (a2 : Int) (a3 : Option Addr) (len3 cap3 : Nat) (z3 : List Int) (w : World) (w0 : (Lit.int .u8 a0).wf = true) (w1 : (Lit.int .u8 a1).wf = true) (w2 : (Lit.int .u8 a2).wf = true) (w3 : IsRow .u8 w a3 len3 cap3 z3) :
    Calls Yba.prog 4 #[.int .u8 a0, .int .u8 a1, .int .u8 a2, .slice a3 len3 cap3] w fun e w' => e = .returned (.bool true) ∧ Below w.heap.size w w' := by
  by_cases hbig : (1024 : Int) < (len3 : Int)
  · clear w0 w1 w2 w3
    go_enter Yba.func4, Yba.ntmps4
    go_wp2
    go_ret
    exact ⟨rfl, Below.refl _ _⟩
  · exact walk_small a0 a1 a2 a3 len3 cap3 z3 w w0 w1 w2 w3 hbig

/-! ### THE ROW's STEP: WRITTEN OUT: LEAVE IT -/
set_option maxRecDepth 100000 in
theorem lifted (os : Os) (started : os.Started) (H : Type) (enc : TypeId × Value → H) :
    ReturnsInHanded {} Yba.checked os 4 .any (Rows.lawS1142CBuiltSpec.pre6 enc Yba.prog Yba.f4 Rows.lawS1142CBuiltRow.domain false) (Rows.lawS1142CBuiltSpec.post enc Yba.prog Yba.f4 false true false false) := by
  refine returnsInHanded_of_change (C := Yba.checked) own started (by kernel_rfl) Yba.func4
    (ChangeSpec.witness6 (enc := enc) (C := Yba.checked) false ⟨#[], #[.int .u8 0, .int .u8 0, .int .u8 0, .slice none 0 0], []⟩ 8 (by kernel_rfl) (by kernel_rfl) (by kernel_rfl) (by kernel_rfl)) ?_
  intro W base args ds gs before hval0 hW hcnd _
  have hval : ∀ (j : Nat) t v, Yba.f4.params[j]? = some t → args[j]? = some v → Value.okWide Yba.prog W .any base t v := hval0
  have hW' := hW
  obtain ⟨p, q, hA0, hV, rfl, hfz, hnd⟩ := hW
  have hA : DataW.TrodAll enc Yba.prog W 0 (fun _ => true) true Yba.f4.params.toList args.toList ds p := hA0
  rw [Yba.params4] at hA hval
  obtain ⟨v0, vs0, d0, ds0, p0, q0, hargs, rfl, rfl, h0, r0⟩ := trodAll_cons hA
  obtain ⟨v1, vs1, d1, ds1, p1, q1, rfl, rfl, rfl, h1, r1⟩ := trodAll_cons r0
  obtain ⟨v2, vs2, d2, ds2, p2, q2, rfl, rfl, rfl, h2, r2⟩ := trodAll_cons r1
  obtain ⟨v3, vs3, d3, ds3, p3, q3, rfl, rfl, rfl, h3, r3⟩ := trodAll_cons r2
  obtain ⟨rfl, rfl, rfl⟩ := trodAll_nil r3
  obtain rfl : args = #[v0, v1, v2, v3] := by cases args; simp_all
  obtain ⟨rfl, rfl⟩ := trodVars_none hV
  obtain ⟨a0, rfl, rfl, rfl, w0⟩ := open_int Yba.underlying5 (hval 0 5 v0 rfl rfl) h0
  obtain ⟨a1, rfl, rfl, rfl, w1⟩ := open_int Yba.underlying5 (hval 1 5 v1 rfl rfl) h1
  obtain ⟨a2, rfl, rfl, rfl, w2⟩ := open_int Yba.underlying5 (hval 2 5 v2 rfl rfl) h2
  obtain ⟨a3, len3, cap3, rfl⟩ := okWide_slice Yba.underlying22 (hval 3 22 v3 rfl rfl)
  have k3 := h3
  have lt3 : ∀ x ∈ p3, x.block < W.heap.size := by obtain ⟨m, hm⟩ := k3; exact DataW.trod_lt m _ _ _ hm
  obtain ⟨z3, w3⟩ : ∃ zs, IsRow .u8 W a3 len3 cap3 zs := by
    obtain ⟨fuel, hf⟩ := h3
    rcases open_ints Yba.underlying22 Yba.underlying5 (by kernel_rfl) hf with ⟨hcs, _⟩ | ⟨x, l, c, zs, hcs, _, hl, hm, hz, _, hcell, hwz⟩
    · simp [Value.cells] at hcs
      obtain ⟨rfl, rfl, rfl⟩ := hcs
      exact ⟨[], .inl ⟨rfl, rfl, rfl, rfl⟩⟩
    · simp [Value.cells] at hcs
      obtain ⟨rfl, rfl, rfl⟩ := hcs
      exact ⟨zs, .inr ⟨_, rfl, hl, hm, by simpa using hz, hcell, hwz⟩⟩
  clear hA0 hval0
  refine (walk a0 a1 a2 a3 len3 cap3 z3 W w0 w1 w2 w3).mono fun e W' ⟨he, bel⟩ => ?_
  subst he
  exact ⟨_, rfl, _, _, _, [], _, [], hW', trodAll_mk1 (shut_bool Yba.underlying4 _), (trodAll_cons_mk (shut_int Yba.underlying5 w0) (trodAll_cons_mk (shut_int Yba.underlying5 w1) (trodAll_cons_mk (shut_int Yba.underlying5 w2) (trodAll_cons_mk (Below.trod laidOut (by kernel_rfl) (of_decide_eq_true (by kernel_rfl)) k3 bel lt3) trodAll_mk0)))), rfl, bel.frame _, fun h => by cases h⟩

theorem over : Rows.lawS1142CBuiltRow.holds Yba.pinned (OpenSpec.ofChange Rows.lawS1142CBuiltSpec) :=
  OpenClaim.holds_of_wide 4 Yba.f4 rfl rfl rfl rfl rfl rfl rfl ⟨rfl, rfl, rfl, rfl, rfl⟩ rfl rfl rfl rfl rfl (by kernel_rfl) Yba.func4 (by kernel_rfl)
    (of_decide_eq_true (by kernel_rfl)) (by unfold Func.isWrapper; first | (rw [if_pos (by decide +kernel)]; kernel_rfl) | (rw [if_neg (by decide +kernel)]; exact ⟨rfl, rfl⟩))
    (fun os started H enc _ => lifted os started H enc)

/-- ████ THE STATEMENT ████ -/
theorem proved : Rows.LawS1142CBuiltSaid := over
#print axioms proved
end Go.Proofs.Ybulkwpy.lawS1142CBuilt
