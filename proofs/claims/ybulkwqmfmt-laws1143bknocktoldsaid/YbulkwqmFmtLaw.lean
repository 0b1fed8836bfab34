import Derived.Test.YbulkwqmFmtKnock
namespace Go.Proofs.YbulkwqmFmt
open Go.ChangeShapes Go.WideShapes Go.RowKit Go.Extern.Stop Go.Stop Go.Extern Go.Conc
set_option linter.unusedVariables false

/-- The row of knocks laid beforehand, as it came in. -/
def PreSrc (a : Option Addr) (len : Nat) (z : Nat → Bool) (w : World) : Prop := len = 0 ∨ ∃ b off, a = some ⟨b, off, none⟩ ∧ ∀ i, i < len → w.cell? ⟨b, off + i, none⟩ = some (.bool (z i))
theorem PreSrc.later {a : Option Addr} {len : Nat} {z : Nat → Bool} {w w' : World} (h : PreSrc a len z w) (hb : Below w.heap.size w w') : PreSrc a len z w' := by
  rcases h with h | ⟨b, off, rfl, h⟩
  · exact .inl h
  · exact .inr ⟨b, off, rfl, fun i hi => cell_later hb (h i hi)⟩
def pj (len : Nat) (z : Nat → Bool) (i : Nat) : Bool := decide (i < len) && z i

theorem NWp.mono {P : Program} {c : Code} {Q Q' : Exit → Act → World → Prop} {a : Act} {w : World} (h : NWp P c Q a w) (hq : ∀ e a w, Q e a w → Q' e a w) : NWp P c Q' a w :=
  fun b k cs hb => let ⟨e, a', w', q, r⟩ := h b k cs hb; ⟨e, a', w', hq _ _ _ q, r⟩
theorem NWp.mid {P : Program} {x y : Code} {Q : Exit → Act → World → Prop} {a : Act} {w : World} (M : Act → World → Prop) (h1 : NWp P x (Exit.then M Q) a w) (h2 : ∀ a w, M a w → NWp P y Q a w) : NWp P (Code.seq x y) Q a w :=
  NWp.seq (h1.mono fun e a w h => by cases e <;> first | exact h2 _ _ h | exact h)

/-- The frame at the first loop's head. -/
def I1 (a0 a1 id : Int) (a3 : Option Addr) (len cap n self Pb : Nat) (z : Nat → Bool) (w0 : World) (m : Nat) (a : Act) (w : World) : Prop :=
  ∃ (i : Nat) (u13 u19 u20 u21 u22 u23 u24 u25 u26 u27 u28 u29 u30 u31 u32 u33 u34 u35 u36 u37 u38 u39 u40 u41 u42 u43 u44 u45 u46 u47 u48 u49 u50 u51 u52 u53 u54 u55 u56 u57 u58 u59 : Value), m = n + 1 - i ∧ self < i ∧ i ≤ n + 1 ∧ LS w0 Pb self n i (pj len z) w ∧ a = { tmps := #[.int .u8 a0, .int .u8 a1, .int .i64 id, .slice a3 len cap, undef, undef, undef, undef, .bool false, .int .i64 (n : Int), .int .i64 (self : Int), .slice (some ⟨Pb, 0, none⟩) (n + 1) (n + 1), .int .i64 (i : Int), u13, undef, undef, undef, undef, undef, u19, u20, u21, u22, u23, u24, u25, u26, u27, u28, u29, u30, u31, u32, u33, u34, u35, u36, u37, u38, u39, u40, u41, u42, u43, u44, u45, u46, u47, u48, u49, u50, u51, u52, u53, u54, u55, u56, u57, u58, u59, undef, undef, undef, undef, undef, undef, undef, undef, undef, undef, undef, undef, undef, undef, undef, undef, undef, undef, undef, undef, undef, undef, undef, undef, undef, undef, undef, undef, undef, undef, undef, undef, undef, undef, undef, undef, undef, undef, undef, undef, undef, undef, undef, undef, undef, undef, undef, undef, undef, undef, undef, undef, undef, undef, undef, undef, undef, undef, undef, undef, undef, undef, undef, undef, undef], defers := [] }

/-- A new peer's cells; its knocks' channel at block c. -/
abbrev peerCells (c : Nat) : Array Value := #[.bool false, .bool false, .bool false, .int .i32 0, .int .u32 0, .slice none 0 0, .bool false, .chan none, .chan (some c)]
/-- In the first loop's round, behind the test. -/
def M1 (a0 a1 id : Int) (a3 : Option Addr) (len cap n self Pb i : Nat) (z : Nat → Bool) (wx : World) (a : Act) (w' : World) : Prop :=
  ∃ (u19 u20 u21 u22 u23 u24 u25 u26 u27 u28 u29 u30 u31 u32 u33 u34 u35 u36 u37 u38 u39 u40 u41 u42 u43 u44 u45 u46 u47 u48 u49 u51 u52 u53 u54 u55 u56 u57 u58 u59 : Value), a = { tmps := #[.int .u8 a0, .int .u8 a1, .int .i64 id, .slice a3 len cap, undef, undef, undef, undef, .bool false, .int .i64 (n : Int), .int .i64 (self : Int), .slice (some ⟨Pb, 0, none⟩) (n + 1) (n + 1), .int .i64 (i : Int), .pointer (some ⟨wx.heap.size + 1, 0, none⟩), undef, undef, undef, undef, undef, u19, u20, u21, u22, u23, u24, u25, u26, u27, u28, u29, u30, u31, u32, u33, u34, u35, u36, u37, u38, u39, u40, u41, u42, u43, u44, u45, u46, u47, u48, u49, .bool (pj len z i), u51, u52, u53, u54, u55, u56, u57, u58, u59, undef, undef, undef, undef, undef, undef, undef, undef, undef, undef, undef, undef, undef, undef, undef, undef, undef, undef, undef, undef, undef, undef, undef, undef, undef, undef, undef, undef, undef, undef, undef, undef, undef, undef, undef, undef, undef, undef, undef, undef, undef, undef, undef, undef, undef, undef, undef, undef, undef, undef, undef, undef, undef, undef, undef, undef, undef, undef, undef, undef, undef, undef, undef, undef, undef], defers := [] } ∧ w' = ((wx.alloc (.chan 1 #[] false 0 0 false)).alloc (.cells (peerCells wx.heap.size) 35))
/-- .. behind the send. -/
def M2 (a0 a1 id : Int) (a3 : Option Addr) (len cap n self Pb i : Nat) (z : Nat → Bool) (wx : World) (a : Act) (w' : World) : Prop :=
  ∃ (u19 u20 u21 u22 u23 u24 u25 u26 u27 u28 u29 u30 u31 u32 u33 u34 u35 u36 u37 u38 u39 u40 u41 u42 u43 u44 u45 u46 u47 u48 u49 u50 u51 u52 u53 u54 u55 u56 u57 u58 u59 : Value), a = { tmps := #[.int .u8 a0, .int .u8 a1, .int .i64 id, .slice a3 len cap, undef, undef, undef, undef, .bool false, .int .i64 (n : Int), .int .i64 (self : Int), .slice (some ⟨Pb, 0, none⟩) (n + 1) (n + 1), .int .i64 (i : Int), .pointer (some ⟨wx.heap.size + 1, 0, none⟩), undef, undef, undef, undef, undef, u19, u20, u21, u22, u23, u24, u25, u26, u27, u28, u29, u30, u31, u32, u33, u34, u35, u36, u37, u38, u39, u40, u41, u42, u43, u44, u45, u46, u47, u48, u49, u50, u51, u52, u53, u54, u55, u56, u57, u58, u59, undef, undef, undef, undef, undef, undef, undef, undef, undef, undef, undef, undef, undef, undef, undef, undef, undef, undef, undef, undef, undef, undef, undef, undef, undef, undef, undef, undef, undef, undef, undef, undef, undef, undef, undef, undef, undef, undef, undef, undef, undef, undef, undef, undef, undef, undef, undef, undef, undef, undef, undef, undef, undef, undef, undef, undef, undef, undef, undef, undef, undef, undef, undef, undef, undef], defers := [] } ∧ w' = (if pj len z i then ((wx.alloc (.chan 1 #[] false 0 0 false)).alloc (.cells (peerCells wx.heap.size) 35)).setChan wx.heap.size 1 #[.agg #[]] false 1 0 false else ((wx.alloc (.chan 1 #[] false 0 0 false)).alloc (.cells (peerCells wx.heap.size) 35)))

set_option maxRecDepth 100000 in
set_option maxHeartbeats 4000000 in
theorem law_walk (F : Interp) (a0 a1 id : Int) (a3 : Option Addr) (len cap : Nat) (z : Nat → Bool) (p0 p1 : Addr) (s1 : ByteArray) (c0 c1 : Array Value) (y0 y1 : TypeId) (w : World) (b0 : 0 ≤ a0 ∧ a0 ≤ 255) (b1 : 0 ≤ a1 ∧ a1 ≤ 255) (w3 : PreSrc a3 len z w) (hF : F.answers w.tape)
    (g0 : w.cell? ⟨0, 0, none⟩ = some (.iface 102 (.pointer (some p0)))) (g1 : w.cell? ⟨1, 0, none⟩ = some (.iface 102 (.pointer (some p1)))) (hs1 : w.cell? p1 = some (.string s1)) (hne : p0 ≠ p1)
    (hc0 : w.heap[p0.block]? = some (.cells c0 y0 (0, 0))) (hc1 : w.heap[p1.block]? = some (.cells c1 y1 (0, 0))) :
    Calls Ybaf.prog 3 #[.int .u8 a0, .int .u8 a1, .int .i64 id, .slice a3 len cap] w fun e w' => e = .returned (.bool true) ∧ Below w.heap.size w w' := by
  obtain ⟨b0l, b0u⟩ := b0
  obtain ⟨b1l, b1u⟩ := b1
  have W3 : Hid (PreSrc a3 len z w) := w3
  have G : Hid ((w.cell? ⟨0, 0, none⟩ = some (.iface 102 (.pointer (some p0)))) ∧ (w.cell? ⟨1, 0, none⟩ = some (.iface 102 (.pointer (some p1)))) ∧ (w.cell? p1 = some (.string s1)) ∧ p0 ≠ p1 ∧ (w.heap[p0.block]? = some (.cells c0 y0 (0, 0))) ∧ (w.heap[p1.block]? = some (.cells c1 y1 (0, 0)))) := ⟨g0, g1, hs1, hne, hc0, hc1⟩
  clear w3 g0 g1 hs1 hne hc0 hc1
  refine NWp.calls Ybaf.func3 rfl ?_ (by rintro _ ⟨h, _⟩; cases h)
  simp only [Ybaf.ntmps3, List.size_toArray, List.length_cons, List.length_nil, Nat.reduceAdd, Nat.reduceSub, Array.replicate_succ, Array.replicate_zero, List.push_toArray, List.append_toArray, List.nil_append, List.cons_append]
  refine NWp.seq (NWp.of_wp ?_)
  go_wp2
  refine NWp.seq (NWp.of_wp ?_)
  go_wp2
  obtain ⟨n, hn⟩ : ∃ n : Nat, a0 % 8 + 1 = (n : Int) := ⟨(a0 % 8 + 1).toNat, by omega⟩
  have n1 : 1 ≤ n := by omega
  have n8 : n ≤ 8 := by omega
  rw [hn]
  have hn0 : ((n : Int) == 0) = false := by simp; omega
  refine NWp.seq (NWp.of_wp ?_)
  go_wp2
  obtain ⟨self, hself⟩ : ∃ self : Nat, wrap64 (a1 % (n : Int) + 1) = (self : Int) ∧ 1 ≤ self ∧ self ≤ n := by
    have h1 := Int.emod_nonneg a1 (show (n : Int) ≠ 0 by omega)
    have h2 := Int.emod_lt_of_pos a1 (show (0 : Int) < n by omega)
    refine ⟨(a1 % (n : Int) + 1).toNat, ?_, by omega, by omega⟩
    unfold wrap64; omega
  obtain ⟨hself, s1', s8⟩ := hself
  rw [hself]
  clear hn0
  have mk := fun w => make24 (n + 1) (by omega) w ((n : Int) + 1) (by omega)
  refine NWp.seq (NWp.of_wp ?_)
  go_wp2
  clear mk
  refine NWp.seq (NWp.seq (NWp.of_wp ?_))
  go_wp2
  refine NWp.block (NWp.loop (I1 a0 a1 id a3 len cap n self w.heap.size z w) (n + 1 - (self + 1)) ?_ ?_)
  · exact ⟨self + 1, _, _, _, _, _, _, _, _, _, _, _, _, _, _, _, _, _, _, _, _, _, _, _, _, _, _, _, _, _, _, _, _, _, _, _, _, _, _, _, _, _, _, rfl, by omega, by omega, LS.start w self n _, rfl⟩
  · rintro m a wx ⟨i, u13, u19, u20, u21, u22, u23, u24, u25, u26, u27, u28, u29, u30, u31, u32, u33, u34, u35, u36, u37, u38, u39, u40, u41, u42, u43, u44, u45, u46, u47, u48, u49, u50, u51, u52, u53, u54, u55, u56, u57, u58, u59, rfl, hi1, hi2, hLS, rfl⟩
    by_cases hin : i ≤ n
    · have hle : (i : Int) ≤ (n : Int) := by omega
      refine NWp.seq (NWp.of_wp ?_)
      go_wp2
      have mc := mkChan
      refine NWp.seq (NWp.block (NWp.seq (NWp.of_wp ?_)))
      go_wp2
      clear mc
      refine NWp.mid (M2 a0 a1 id a3 len cap n self w.heap.size i z wx) (NWp.mid (M1 a0 a1 id a3 len cap n self w.heap.size i z wx) (NWp.of_wp ?_) ?_) ?_
      · have hPre := W3.out.later hLS.1
        by_cases hil : i < len
        · have hil' : (i : Int) < (len : Int) := by omega
          rcases hPre with h0 | ⟨b, off, rfl, hc⟩
          · omega
          · have hci := hc i hil
            have lb : b < wx.heap.size := World.block_lt_of_cell? _ _ hci
            have lb1 : b < wx.heap.size + 1 := by omega
            have hpj : pj len z i = z i := by simp [pj, hil]
            have HPJ : Hid (pj len z i = z i) := hpj
            clear hpj
            go_wp2
            exact ⟨_, _, _, _, _, _, _, _, _, _, _, _, _, _, _, _, _, _, _, _, _, _, _, _, _, _, _, _, _, _, _, _, _, _, _, _, _, _, _, _, by rw [HPJ.out], rfl⟩
        · have hil' : ¬ (i : Int) < (len : Int) := by omega
          have hpj : pj len z i = false := by simp [pj, hil]
          have HPJ : Hid (pj len z i = false) := hpj
          clear hpj
          go_wp2
          exact ⟨_, _, _, _, _, _, _, _, _, _, _, _, _, _, _, _, _, _, _, _, _, _, _, _, _, _, _, _, _, _, _, _, _, _, _, _, _, _, _, _, by rw [HPJ.out], rfl⟩
      · intro a w' hM
        obtain ⟨u19, u20, u21, u22, u23, u24, u25, u26, u27, u28, u29, u30, u31, u32, u33, u34, u35, u36, u37, u38, u39, u40, u41, u42, u43, u44, u45, u46, u47, u48, u49, u51, u52, u53, u54, u55, u56, u57, u58, u59, rfl, rfl⟩ := hM
        refine NWp.cond (t := pj len z i) rfl ?_
        cases hp : pj len z i
        · refine NWp.of_wp (wp_skip ?_)
          exact ⟨_, _, _, _, _, _, _, _, _, _, _, _, _, _, _, _, _, _, _, _, _, _, _, _, _, _, _, _, _, _, _, _, _, _, _, _, _, _, _, _, _, rfl, by rw [hp]; rfl⟩
        · refine NWp.region (show NOps _ _ [0, 1, 2, 3, 4, 5] _ _ _ from ?_)
          refine NOps.value (v := .pointer (some ⟨wx.heap.size + 1, 0, none⟩)) (d := some 51) (w' := ((wx.alloc (.chan 1 #[] false 0 0 false)).alloc (.cells (peerCells wx.heap.size) 35))) rfl rfl rfl (by go_simp) ?_
          refine NOps.value (v := .pointer (some ⟨wx.heap.size + 1, 0, none⟩)) (d := some 52) (w' := ((wx.alloc (.chan 1 #[] false 0 0 false)).alloc (.cells (peerCells wx.heap.size) 35))) rfl rfl rfl (by go_simp) ?_
          refine NOps.value (v := .pointer (some ⟨wx.heap.size + 1, 8, none⟩)) (d := some 53) (w' := ((wx.alloc (.chan 1 #[] false 0 0 false)).alloc (.cells (peerCells wx.heap.size) 35))) rfl rfl rfl (by go_simp) ?_
          refine NOps.value (v := .chan (some wx.heap.size)) (d := some 54) (w' := ((wx.alloc (.chan 1 #[] false 0 0 false)).alloc (.cells (peerCells wx.heap.size) 35))) rfl rfl rfl (by go_simp) ?_
          refine NOps.value (v := .agg #[]) (d := some 55) (w' := ((wx.alloc (.chan 1 #[] false 0 0 false)).alloc (.cells (peerCells wx.heap.size) 35))) rfl rfl rfl (by go_simp) ?_
          refine NOps.send (v := .agg #[]) (z := .tuple #[]) (d := none) rfl rfl rfl (by go_simp; rfl) (chan_new wx (peerCells wx.heap.size)) (by simp) ?_
          refine NOps.of_wpOps ?_
          simp only [wpOps, Exit.then, Act.put, List.setIfInBounds_toArray, List.set_cons_succ, List.set_cons_zero]
          exact ⟨_, _, _, _, _, _, _, _, _, _, _, _, _, _, _, _, _, _, _, _, _, _, _, _, _, _, _, _, _, _, _, _, _, _, _, _, _, _, _, _, _, rfl, by rw [hp]; rfl⟩
      · intro a w' hM
        obtain ⟨u19, u20, u21, u22, u23, u24, u25, u26, u27, u28, u29, u30, u31, u32, u33, u34, u35, u36, u37, u38, u39, u40, u41, u42, u43, u44, u45, u46, u47, u48, u49, u50, u51, u52, u53, u54, u55, u56, u57, u58, u59, rfl, rfl⟩ := hM
        obtain ⟨ps, hps, hpl⟩ := hLS.ahead (peerCells wx.heap.size) (pj len z i)
        have hR := hLS.round (Nat.le_refl _) hi1 hin (peerCells wx.heap.size) rfl
        unfold roundW at hR
        obtain ⟨w3, hw3⟩ : ∃ w3, w3 = (if pj len z i then ((wx.alloc (.chan 1 #[] false 0 0 false)).alloc (.cells (peerCells wx.heap.size) 35)).setChan wx.heap.size 1 #[.agg #[]] false 1 0 false else ((wx.alloc (.chan 1 #[] false 0 0 false)).alloc (.cells (peerCells wx.heap.size) 35))) := ⟨_, rfl⟩
        simp only [← hw3] at hR hps ⊢
        have HR : Hid (LS w w.heap.size self n (i + 1) (pj len z) (w3.setCell ⟨w.heap.size, i, none⟩ (.pointer (some ⟨wx.heap.size + 1, 0, none⟩)))) := hR
        clear hR hLS hw3
        have hce : ∃ v, w3.cell? ⟨w.heap.size, i, none⟩ = some v := ⟨ps[i]'(by omega), by simp [World.cell?, hps, show i < ps.size by omega]⟩
        obtain ⟨v, hce⟩ := hce
        have hfz : w3.frozen? ⟨w.heap.size, i, none⟩ = false := frozen_of_row w3 w.heap.size i _ 24 hps
        refine NWp.of_wp ?_
        go_wp2
        refine NWp.of_wp ?_
        go_wp2
        exact ⟨n + 1 - (i + 1), by omega, i + 1, _, _, _, _, _, _, _, _, _, _, _, _, _, _, _, _, _, _, _, _, _, _, _, _, _, _, _, _, _, _, _, _, _, _, _, _, _, _, _, _, _, _, rfl, by omega, by omega, HR.out, rfl⟩
    · have hle : ¬ (i : Int) ≤ (n : Int) := by omega
      refine NWp.seq (NWp.of_wp ?_)
      go_wp2
      have ei : i = n + 1 := by omega
      subst ei
      have hPs := hLS.ps
      obtain ⟨g0, g1, hs1, hne, hc0, hc1⟩ := G.out
      have n8' : n ≤ 8 := n8
      refine NWp.of_wp ?_
      by_cases hin : (self : Int) < id ∧ id ≤ (n : Int)
      · obtain ⟨k, rfl⟩ : ∃ k : Nat, id = (k : Int) := ⟨id.toNat, by omega⟩
        obtain ⟨hk1, hk2⟩ := hin
        go_wp2_with fail
        refine (knock_in wx.heap.size w.heap.size self n k (pj len z) p0 w _ (hPs.later ((Below.refl _ _).alloc (Nat.le_refl _) _)) ⟨by go_simp, by go_simp, by go_simp⟩ (Nat.le_refl _) n8' g0 (by omega) (by omega)).mono ?_
        rintro e w2 ⟨rfl, hP2⟩
        have HP2 : Hid (Ps w w.heap.size self n (fun j => pj len z j || decide (j = k)) w2) := hP2
        have g0' := cell_later hP2.1 g0
        have nq := neq_same
        clear hP2 hPs hLS g0 g1 hs1 hne hc0 hc1
        go_wp2_with fail
        clear nq g0'
        go_loopw [17, 18] (fun c _ wr => ∃ j : Nat, self < j ∧ j ≤ n + 1 ∧ c = .int .i64 j ∧ w2 = wr) (fun c _ _ => n + 1 - (intOf c).toNat)
        case atStart => exact ⟨self + 1, by omega, by omega, by go_num, rfl⟩
        case round =>
          obtain ⟨j, hj1, hj2, rfl, rfl⟩ := hrel
          by_cases hjn : j ≤ n
          · have hjn' : (j : Int) ≤ (n : Int) := by omega
            have hPj := HP2.out.2 j hj1 hjn
            have hPre := W3.out.later HP2.out.1
            by_cases hil : j < len
            · have hil' : (j : Int) < (len : Int) := by omega
              rcases hPre with h0 | ⟨b, off, rfl, hc⟩
              · omega
              · have hci := hc j hil
                cases hz : z j
                · rw [hz] at hci
                  clear hc
                  by_cases hjk : j = k
                  · subst hjk
                    obtain ⟨C, q1, D, q2, q3⟩ := hPj.full (by simp)
                    clear hPj
                    go_wp2
                    go_roundw
                    case rel =>
                      refine ⟨j + 1, by omega, by omega, ?_⟩
                      first | exact ⟨by go_num, rfl⟩ | exact ⟨by go_num, trivial⟩ | go_num
                    case measure => simp [intOf]; omega
                  · have hjk' : ¬ (j : Int) = (k : Int) := by omega
                    obtain ⟨C, q1, D, q2, q3⟩ := hPj.bare (by simp [pj, hz, hjk])
                    clear hPj
                    go_wp2
                    go_roundw
                    case rel =>
                      refine ⟨j + 1, by omega, by omega, ?_⟩
                      first | exact ⟨by go_num, rfl⟩ | exact ⟨by go_num, trivial⟩ | go_num
                    case measure => simp [intOf]; omega
                · rw [hz] at hci
                  clear hc
                  obtain ⟨C, q1, D, q2, q3⟩ := hPj.full (by simp [pj, hz, hil])
                  clear hPj
                  go_wp2
                  go_roundw
                  case rel =>
                    refine ⟨j + 1, by omega, by omega, ?_⟩
                    first | exact ⟨by go_num, rfl⟩ | exact ⟨by go_num, trivial⟩ | go_num
                  case measure => simp [intOf]; omega
            · have hil' : ¬ (j : Int) < (len : Int) := by omega
              clear hPre
              by_cases hjk : j = k
              · subst hjk
                obtain ⟨C, q1, D, q2, q3⟩ := hPj.full (by simp)
                clear hPj
                go_wp2
                go_roundw
                case rel =>
                  refine ⟨j + 1, by omega, by omega, ?_⟩
                  first | exact ⟨by go_num, rfl⟩ | exact ⟨by go_num, trivial⟩ | go_num
                case measure => simp [intOf]; omega
              · have hjk' : ¬ (j : Int) = (k : Int) := by omega
                obtain ⟨C, q1, D, q2, q3⟩ := hPj.bare (by simp [pj, hil, hjk])
                clear hPj
                go_wp2
                go_roundw
                case rel =>
                  refine ⟨j + 1, by omega, by omega, ?_⟩
                  first | exact ⟨by go_num, rfl⟩ | exact ⟨by go_num, trivial⟩ | go_num
                case measure => simp [intOf]; omega
          · have hjn' : ¬ (j : Int) ≤ (n : Int) := by omega
            go_wp2
            go_ret
            exact ⟨rfl, HP2.out.1⟩
      · go_wp2_with fail
        refine (knock_out F wx.heap.size w.heap.size self n (pj len z) id p1 s1 w _ (hPs.later ((Below.refl _ _).alloc (Nat.le_refl _) _)) ⟨by go_simp, by go_simp, by go_simp⟩ hF g1 hs1 (by omega)).mono ?_
        rintro e w2 ⟨pb, rfl, hcw, hP2⟩
        have HP2 : Hid (Ps w w.heap.size self n (pj len z) w2) := hP2
        have g0' := cell_later hP2.1 g0
        have g1' := cell_later hP2.1 g1
        have k0 := (hP2.1.block _ (Array.getElem?_eq_some_iff.1 hc0).1).trans hc0
        have k1 := (hP2.1.block _ (Array.getElem?_eq_some_iff.1 hc1).1).trans hc1
        have HK : Hid (p1 ≠ p0 ∧ w2.heap[p0.block]? = some (.cells c0 y0 (0, 0)) ∧ w2.heap[p1.block]? = some (.cells c1 y1 (0, 0)) ∧ w2.cell? ⟨pb, 0 + 1, none⟩ = some (.iface 102 (.pointer (some p1)))) := ⟨Ne.symm hne, k0, k1, hcw⟩
        clear hP2 hPs hLS g0 g1 hs1 hne hc0 hc1 k0 k1 hcw
        by_cases hs : (self : Int) < id
        · have hs2 : ¬ id ≤ (n : Int) := by omega
          clear hin
          go_wp2_with fail
          refine (is_wrap_same pb 0 p1 w2 HK.out.2.2.2).mono ?_
          rintro e w4 ⟨rfl, rfl⟩
          go_wp2_with fail
          refine (is_wrap_other pb 0 p0 p1 c1 c0 y1 y0 w4 HK.out.2.2.2 HK.out.1 HK.out.2.2.1 HK.out.2.1).mono ?_
          rintro e w2 ⟨rfl, rfl⟩
          go_wp2_with fail
          clear g0' g1' HK
          go_loopw [17, 18] (fun c _ wr => ∃ j : Nat, self < j ∧ j ≤ n + 1 ∧ c = .int .i64 j ∧ w2 = wr) (fun c _ _ => n + 1 - (intOf c).toNat)
          case atStart => exact ⟨self + 1, by omega, by omega, by go_num, rfl⟩
          case round =>
            obtain ⟨j, hj1, hj2, rfl, rfl⟩ := hrel
            by_cases hjn : j ≤ n
            · have hjn' : (j : Int) ≤ (n : Int) := by omega
              have hPj := HP2.out.2 j hj1 hjn
              have hPre := W3.out.later HP2.out.1
              by_cases hil : j < len
              · have hil' : (j : Int) < (len : Int) := by omega
                rcases hPre with h0 | ⟨b, off, rfl, hc⟩
                · omega
                · have hci := hc j hil
                  cases hz : z j
                  · rw [hz] at hci
                    clear hc
                    obtain ⟨C, q1, D, q2, q3⟩ := hPj.bare (by simp [pj, hz])
                    clear hPj
                    go_wp2
                    go_roundw
                    case rel =>
                      refine ⟨j + 1, by omega, by omega, ?_⟩
                      first | exact ⟨by go_num, rfl⟩ | exact ⟨by go_num, trivial⟩ | go_num
                    case measure => simp [intOf]; omega
                  · rw [hz] at hci
                    clear hc
                    obtain ⟨C, q1, D, q2, q3⟩ := hPj.full (by simp [pj, hz, hil])
                    clear hPj
                    go_wp2
                    go_roundw
                    case rel =>
                      refine ⟨j + 1, by omega, by omega, ?_⟩
                      first | exact ⟨by go_num, rfl⟩ | exact ⟨by go_num, trivial⟩ | go_num
                    case measure => simp [intOf]; omega
              · have hil' : ¬ (j : Int) < (len : Int) := by omega
                clear hPre
                obtain ⟨C, q1, D, q2, q3⟩ := hPj.bare (by simp [pj, hil])
                clear hPj
                go_wp2
                go_roundw
                case rel =>
                  refine ⟨j + 1, by omega, by omega, ?_⟩
                  first | exact ⟨by go_num, rfl⟩ | exact ⟨by go_num, trivial⟩ | go_num
                case measure => simp [intOf]; omega
            · have hjn' : ¬ (j : Int) ≤ (n : Int) := by omega
              go_wp2
              go_ret
              exact ⟨rfl, HP2.out.1⟩
        · clear hin
          go_wp2_with fail
          refine (is_wrap_same pb 0 p1 w2 HK.out.2.2.2).mono ?_
          rintro e w4 ⟨rfl, rfl⟩
          go_wp2_with fail
          refine (is_wrap_other pb 0 p0 p1 c1 c0 y1 y0 w4 HK.out.2.2.2 HK.out.1 HK.out.2.2.1 HK.out.2.1).mono ?_
          rintro e w2 ⟨rfl, rfl⟩
          go_wp2_with fail
          clear g0' g1' HK
          go_loopw [17, 18] (fun c _ wr => ∃ j : Nat, self < j ∧ j ≤ n + 1 ∧ c = .int .i64 j ∧ w2 = wr) (fun c _ _ => n + 1 - (intOf c).toNat)
          case atStart => exact ⟨self + 1, by omega, by omega, by go_num, rfl⟩
          case round =>
            obtain ⟨j, hj1, hj2, rfl, rfl⟩ := hrel
            by_cases hjn : j ≤ n
            · have hjn' : (j : Int) ≤ (n : Int) := by omega
              have hPj := HP2.out.2 j hj1 hjn
              have hPre := W3.out.later HP2.out.1
              by_cases hil : j < len
              · have hil' : (j : Int) < (len : Int) := by omega
                rcases hPre with h0 | ⟨b, off, rfl, hc⟩
                · omega
                · have hci := hc j hil
                  cases hz : z j
                  · rw [hz] at hci
                    clear hc
                    obtain ⟨C, q1, D, q2, q3⟩ := hPj.bare (by simp [pj, hz])
                    clear hPj
                    go_wp2
                    go_roundw
                    case rel =>
                      refine ⟨j + 1, by omega, by omega, ?_⟩
                      first | exact ⟨by go_num, rfl⟩ | exact ⟨by go_num, trivial⟩ | go_num
                    case measure => simp [intOf]; omega
                  · rw [hz] at hci
                    clear hc
                    obtain ⟨C, q1, D, q2, q3⟩ := hPj.full (by simp [pj, hz, hil])
                    clear hPj
                    go_wp2
                    go_roundw
                    case rel =>
                      refine ⟨j + 1, by omega, by omega, ?_⟩
                      first | exact ⟨by go_num, rfl⟩ | exact ⟨by go_num, trivial⟩ | go_num
                    case measure => simp [intOf]; omega
              · have hil' : ¬ (j : Int) < (len : Int) := by omega
                clear hPre
                obtain ⟨C, q1, D, q2, q3⟩ := hPj.bare (by simp [pj, hil])
                clear hPj
                go_wp2
                go_roundw
                case rel =>
                  refine ⟨j + 1, by omega, by omega, ?_⟩
                  first | exact ⟨by go_num, rfl⟩ | exact ⟨by go_num, trivial⟩ | go_num
                case measure => simp [intOf]; omega
            · have hjn' : ¬ (j : Int) ≤ (n : Int) := by omega
              go_wp2
              go_ret
              exact ⟨rfl, HP2.out.1⟩
end Go.Proofs.YbulkwqmFmt
