import Derived.Test.YbulkwqmFmtState
namespace Go.Proofs.YbulkwqmFmt
open Go.ChangeShapes Go.WideShapes Go.RowKit Go.Extern.Stop Go.Stop Go.Extern Go.Conc
set_option linter.unusedVariables false

/-- The peers, q j: does a knock wait at node j? -/
def Ps (w0 : World) (Pb self n : Nat) (q : Nat → Bool) (w : World) : Prop := Below w0.heap.size w0 w ∧ ∀ j, self < j → j ≤ n → Peer Pb self j (q j) w
theorem LS.ps {w0 : World} {Pb self n : Nat} {q : Nat → Bool} {w : World} (h : LS w0 Pb self n (n + 1) q w) : Ps w0 Pb self n q w := ⟨h.1, fun j h1 h2 => h.2.2.2 j h1 (by omega)⟩
theorem Ps.later {w0 : World} {Pb self n : Nat} {q : Nat → Bool} {w w' : World} (h : Ps w0 Pb self n q w) (hb : Below w.heap.size w w') : Ps w0 Pb self n q w' :=
  ⟨h.1.trans (hb.mono h.1.size), fun j h1 h2 => (h.2 j h1 h2).later hb⟩

/-- A mesh as the law makes it, at block Mb. -/
def Mesh (Mb Pb self n : Nat) (w : World) : Prop :=
  w.cell? ⟨Mb, 1, none⟩ = some (.int .i64 (self : Int)) ∧ w.cell? ⟨Mb, 2, none⟩ = some (.int .i64 (n : Int)) ∧ w.cell? ⟨Mb, 33, none⟩ = some (.slice (some ⟨Pb, 0, none⟩) (n + 1) (n + 1))

theorem knock_out (F : Interp) (Mb Pb self n : Nat) (q : Nat → Bool) (id : Int) (p1 : Addr) (s1 : ByteArray) (w0 w : World) (hP : Ps w0 Pb self n q w) (hM : Mesh Mb Pb self n w) (hF : F.answers w0.tape)
    (g1 : w0.cell? ⟨1, 0, none⟩ = some (.iface 102 (.pointer (some p1)))) (hs1 : w0.cell? p1 = some (.string s1)) (ho : ¬ ((self : Int) < id ∧ id ≤ (n : Int))) :
    Calls Ybaf.prog 4 #[.pointer (some ⟨Mb, 0, none⟩), .int .i64 id] w fun e w' => ∃ pb, e = .returned (.iface 90 (.pointer (some ⟨pb, 0, none⟩))) ∧ w'.cell? ⟨pb, 1, none⟩ = some (.iface 102 (.pointer (some p1))) ∧ Ps w0 Pb self n q w' := by
  have hF2 : F.answers w.tape := by rw [hP.1.tape]; exact hF
  refine (knocked_refused F Mb id self n p1 s1 w hF2 (cell_later hP.1 g1) (cell_later hP.1 hs1) hM.1 hM.2.1 (by omega)).mono ?_
  rintro e w' ⟨pb, rfl, hc, hb⟩
  exact ⟨pb, rfl, hc, hP.later hb⟩

theorem Ps.put {w0 : World} {Pb self n k : Nat} {q : Nat → Bool} {w : World} (h : Ps w0 Pb self n q w) (hPb : w0.heap.size ≤ Pb) (h1 : self < k) (h2 : k ≤ n) (s r : Nat) (hs : s + 1 = 1) (hr : r = 0) :
    Ps w0 Pb self n (fun j => q j || decide (j = k)) (w.setChan (Cj Pb self k) 1 #[.agg #[]] false (s + 1) r false) := by
  have hk := h.2 k h1 h2
  refine ⟨below_setChan h.1 (by simp only [Cj]; omega) _ _ _ _ _ _, fun j hj1 hj2 => ?_⟩
  have hj := h.2 j hj1 hj2
  have hoth : ∀ b, b ≠ Cj Pb self k → (w.setChan (Cj Pb self k) 1 #[.agg #[]] false (s + 1) r false).heap[b]? = w.heap[b]? := fun b hb => by
    simp [World.setChan, Array.getElem?_setIfInBounds_ne (Ne.symm hb)]
  have hcell : (w.setChan (Cj Pb self k) 1 #[.agg #[]] false (s + 1) r false).cell? ⟨Pb, j, none⟩ = w.cell? ⟨Pb, j, none⟩ := setChan_cell _ _ _ _ _ _ _ _ _ (by simp only [Cj]; omega)
  by_cases hjk : j = k
  · subst hjk
    refine ⟨hcell.trans hj.1, ?_, ?_⟩
    · rw [setChan_cell _ _ _ _ _ _ _ _ _ (by simp)]; exact hj.2.1
    · have := heap_setChan w (Cj Pb self j) 1 #[.agg #[]] false (s + 1) r false (Array.getElem?_eq_some_iff.1 hj.2.2).1
      rw [this]
      simp [hs, hr]
  · have hq : (q j || decide (j = k)) = q j := by simp [hjk]
    show Peer Pb self j (q j || decide (j = k)) _
    rw [hq]
    refine hj.keep hcell (hoth _ ?_) (hoth _ ?_)
    · simp only [Cj]; omega
    · simp only [Cj]; omega

theorem Ps.same {w0 : World} {Pb self n k : Nat} {q : Nat → Bool} {w : World} (h : Ps w0 Pb self n q w) (hk : q k = true) : Ps w0 Pb self n (fun j => q j || decide (j = k)) w := by
  refine ⟨h.1, fun j h1 h2 => ?_⟩
  have hq : (q j || decide (j = k)) = q j := by
    by_cases hjk : j = k
    · subst hjk; simp [hk]
    · simp [hjk]
  show Peer Pb self j (q j || decide (j = k)) w
  rw [hq]
  exact h.2 j h1 h2

theorem knock_in (Mb Pb self n k : Nat) (q : Nat → Bool) (p0 : Addr) (w0 w : World) (hP : Ps w0 Pb self n q w) (hM : Mesh Mb Pb self n w) (hPb : w0.heap.size ≤ Pb) (h8 : n ≤ 8)
    (g0 : w0.cell? ⟨0, 0, none⟩ = some (.iface 102 (.pointer (some p0)))) (h1 : self < k) (h2 : k ≤ n) :
    Calls Ybaf.prog 4 #[.pointer (some ⟨Mb, 0, none⟩), .int .i64 (k : Int)] w fun e w' => e = .returned (.iface 102 (.pointer (some p0))) ∧ Ps w0 Pb self n (fun j => q j || decide (j = k)) w' := by
  have hk := hP.2 k h1 h2
  have hg := cell_later hP.1 g0
  cases hq : q k with
  | true =>
    have hc := hk.2.2
    rw [hq] at hc
    refine (knocked_full Mb Pb _ (Cj Pb self k) k 1 0 self n (n + 1) (n + 1) _ false #[.agg #[]] w hg hM.1 hM.2.1 hM.2.2 hk.1 hk.2.1 hc (by omega) (by omega) (by omega) (by omega) (by simp)).mono ?_
    rintro e w' ⟨rfl, rfl⟩
    exact ⟨rfl, hP.same hq⟩
  | false =>
    have hc := hk.2.2
    rw [hq] at hc
    refine (knocked_room Mb Pb _ (Cj Pb self k) k 0 0 self n (n + 1) (n + 1) _ false w hg hM.1 hM.2.1 hM.2.2 hk.1 hk.2.1 hc (by omega) (by omega) (by omega) (by omega)).mono ?_
    rintro e w' ⟨rfl, rfl⟩
    exact ⟨rfl, hP.put hPb h1 h2 0 0 rfl rfl⟩
theorem Peer.full {Pb self j : Nat} {b : Bool} {w : World} (h : Peer Pb self j b w) (hb : b = true) : ∃ C, w.cell? ⟨Pb, j, none⟩ = some (.pointer (some ⟨C, 0, none⟩)) ∧ ∃ D, w.cell? ⟨C, 8, none⟩ = some (.chan (some D)) ∧ ∀ ty, (Builtin.len_ #[25] ty #[.chan (some D)]).run Ybaf.prog w = .ok (.int .i64 1) w := by
  subst hb
  exact ⟨_, h.1, _, h.2.1, fun ty => run_len_chan (P := Ybaf.prog) 25 ty Ybaf.underlying25 h.2.2⟩
theorem Peer.bare {Pb self j : Nat} {b : Bool} {w : World} (h : Peer Pb self j b w) (hb : b = false) : ∃ C, w.cell? ⟨Pb, j, none⟩ = some (.pointer (some ⟨C, 0, none⟩)) ∧ ∃ D, w.cell? ⟨C, 8, none⟩ = some (.chan (some D)) ∧ ∀ ty, (Builtin.len_ #[25] ty #[.chan (some D)]).run Ybaf.prog w = .ok (.int .i64 0) w := by
  subst hb
  exact ⟨_, h.1, _, h.2.1, fun ty => run_len_chan (P := Ybaf.prog) 25 ty Ybaf.underlying25 h.2.2⟩
end Go.Proofs.YbulkwqmFmt
