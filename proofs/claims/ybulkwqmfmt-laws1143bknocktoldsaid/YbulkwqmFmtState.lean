import Derived.Test.YbulkwqmFmtHit
import Derived.Conc.LoneSelectN
import Derived.WalkLawsBesides
import Derived.WalkSmall
import Derived.Deep.QuietTactic
import Derived.BigQuiet
import Derived.Deep.DeepCutAuto
import Derived.Lib.SliceRun
namespace Go.Proofs.YbulkwqmFmt
open Go.ChangeShapes Go.WideShapes Go.RowKit Go.Extern.Stop Go.Stop Go.Extern Go.Conc
set_option linter.unusedVariables false

theorem info24 : (Ybaf.prog.info? 24).map (fun i => (i.zero, i.size, i.bytes)) = some (some (.pointer none), 1, 8) := by kernel_rfl
theorem make24 (n : Nat) (hn : n ≤ 1024) (w : World) (m : Int) (hm : m = (n : Int)) : (Instr.makeSlice 23 (.int .i64 m) (.int .i64 m)).run Ybaf.prog w = .ok (.slice (some ⟨w.heap.size, 0, none⟩) n n) (w.alloc (.cells (madeCells (Value.pointer none).cells n) 24)) := by
  subst hm
  obtain ⟨i0, hi, hz0, hz1, hz2⟩ := info_parts info24
  have h := run_make (P := Ybaf.prog) w 23 24 i0 _ Ybaf.underlying23 hi hz0 .i64 .i64 (n : Int) (n : Int) (by omega) (by omega) (by rw [hz2]; omega) (by omega)
  rw [hz1, Int.toNat_natCast, Nat.mul_one] at h
  exact h
theorem bytes26 : ∃ i, Ybaf.prog.info? 26 = some i ∧ i.bytes = 0 := by
  have h : (Ybaf.prog.info? 26).map (·.bytes) = some 0 := by kernel_rfl
  obtain ⟨i, hi, hb⟩ := Option.map_eq_some_iff.1 h
  exact ⟨i, hi, hb⟩
theorem mkChan (w : World) : (Instr.makeChan 25 (.int .i64 1)).run Ybaf.prog w = .ok (.chan (some w.heap.size)) (w.alloc (.chan 1 #[] false 0 0 false)) := by
  obtain ⟨i, hi, hb⟩ := bytes26
  simpa using run_makeChan (P := Ybaf.prog) (w := w) Ybaf.underlying25 hi .i64 1 (by omega) (by rw [hb]; omega)
theorem neq_same (a : Addr) (w : World) : (binOp .neq 78 (.iface 102 (.pointer (some a))) (.iface 102 (.pointer (some a)))).run Ybaf.prog w = .ok (.bool false) w := by
  obtain ⟨i, hi, hcmp⟩ := Option.map_eq_some_iff.1 Ybaf.isComp
  obtain ⟨j, hj, hjs⟩ := Option.map_eq_some_iff.1 Ybaf.isSize
  simp only [binOp]
  simp [Op.equal, Op.maxDepth, run_equalIn_iface_ptr_same w 9998 a Ybaf.underlying78 Ybaf.underlying102 hi hcmp hj]

/-- The channel of node j; its peer lies one block further. -/
def Cj (Pb self j : Nat) : Nat := Pb + 1 + 2 * (j - self - 1)
def Peer (Pb self j : Nat) (full : Bool) (w : World) : Prop :=
  w.cell? ⟨Pb, j, none⟩ = some (.pointer (some ⟨Cj Pb self j + 1, 0, none⟩)) ∧ w.cell? ⟨Cj Pb self j + 1, 8, none⟩ = some (.chan (some (Cj Pb self j))) ∧
    w.heap[Cj Pb self j]? = some (.chan 1 (if full then #[.agg #[]] else #[]) false (if full then 1 else 0) 0 false)
theorem Peer.later {Pb self j : Nat} {full : Bool} {w w' : World} (h : Peer Pb self j full w) (hb : Below w.heap.size w w') : Peer Pb self j full w' :=
  ⟨cell_later hb h.1, cell_later hb h.2.1, (hb.block _ (Array.getElem?_eq_some_iff.1 h.2.2).1).trans h.2.2⟩
/-- Where only the cell of another node in the row of peers, and another channel, are written. -/
theorem Peer.keep {Pb self j : Nat} {full : Bool} {w w' : World} (h : Peer Pb self j full w) (h1 : w'.cell? ⟨Pb, j, none⟩ = w.cell? ⟨Pb, j, none⟩) (h2 : w'.heap[Cj Pb self j + 1]? = w.heap[Cj Pb self j + 1]?) (h3 : w'.heap[Cj Pb self j]? = w.heap[Cj Pb self j]?) : Peer Pb self j full w' :=
  ⟨h1.trans h.1, by have := h.2.1; simp only [World.cell?] at this ⊢; rw [h2]; exact this, h3.trans h.2.2⟩

def LS (w0 : World) (Pb self n i : Nat) (pj : Nat → Bool) (w : World) : Prop :=
  Below w0.heap.size w0 w ∧ w.heap.size = Cj Pb self i ∧ (∃ ps : Array Value, w.heap[Pb]? = some (.cells ps 24) ∧ ps.size = n + 1) ∧ ∀ j, self < j → j < i → Peer Pb self j (pj j) w

theorem LS.start (w : World) (self n : Nat) (pj : Nat → Bool) : LS w w.heap.size self n (self + 1) pj (w.alloc (.cells (madeCells (Value.pointer none).cells (n + 1)) 24)) := by
  refine ⟨(Below.refl _ _).alloc (Nat.le_refl _) _, by simp [Cj], ⟨_, heap_alloc_new w _, by simp [madeCells]⟩, fun j h1 h2 => by omega⟩

/-- The world behind one round. -/
def roundW (Pb i : Nat) (cs : Array Value) (full : Bool) (w : World) : World :=
  let w2 := (w.alloc (.chan 1 #[] false 0 0 false)).alloc (.cells cs 35)
  (if full then w2.setChan w.heap.size 1 #[.agg #[]] false 1 0 false else w2).setCell ⟨Pb, i, none⟩ (.pointer (some ⟨w.heap.size + 1, 0, none⟩))

theorem LS.round {w0 : World} {Pb self n i : Nat} {pj : Nat → Bool} {w : World} (h : LS w0 Pb self n i pj w) (hP : w0.heap.size ≤ Pb) (h1 : self < i) (h2 : i ≤ n) (cs : Array Value) (hcs : cs[8]? = some (.chan (some w.heap.size))) :
    LS w0 Pb self n (i + 1) pj (roundW Pb i cs (pj i) w) := by
  obtain ⟨hB, hsz, ⟨ps, hps, hpl⟩, hall⟩ := h
  have hPs : Pb < w.heap.size := (Array.getElem?_eq_some_iff.1 hps).1
  have hCi : Cj Pb self i = w.heap.size := hsz.symm
  have b1 : Below w.heap.size w (w.alloc (.chan 1 #[] false 0 0 false)) := (Below.refl _ _).alloc (Nat.le_refl _) _
  have b2 : Below w.heap.size w ((w.alloc (.chan 1 #[] false 0 0 false)).alloc (.cells cs 35)) := b1.alloc b1.size _
  have s2 : ((w.alloc (.chan 1 #[] false 0 0 false)).alloc (.cells cs 35)).heap.size = w.heap.size + 2 := by simp
  have hch : ((w.alloc (.chan 1 #[] false 0 0 false)).alloc (.cells cs 35)).heap[w.heap.size]? = some (.chan 1 #[] false 0 0 false) := by
    rw [Below.heap_alloc _ _ _ (by simp)]; exact heap_alloc_new w _
  have hpe : ((w.alloc (.chan 1 #[] false 0 0 false)).alloc (.cells cs 35)).heap[w.heap.size + 1]? = some (.cells cs 35) := by
    have := heap_alloc_new (w.alloc (.chan 1 #[] false 0 0 false)) (.cells cs 35)
    simpa only [World.size_alloc] using this
  -- the world ahead of the store
  obtain ⟨w3, e3, b3, s3, c3, p3⟩ : ∃ w3, w3 = (if pj i then ((w.alloc (.chan 1 #[] false 0 0 false)).alloc (.cells cs 35)).setChan w.heap.size 1 #[.agg #[]] false 1 0 false else ((w.alloc (.chan 1 #[] false 0 0 false)).alloc (.cells cs 35))) ∧ Below w.heap.size w w3 ∧ w3.heap.size = w.heap.size + 2 ∧
      w3.heap[w.heap.size]? = some (.chan 1 (if pj i then #[.agg #[]] else #[]) false (if pj i then 1 else 0) 0 false) ∧ w3.heap[w.heap.size + 1]? = some (.cells cs 35) := by
    cases hp : pj i with
    | true =>
      refine ⟨_, rfl, ?_, ?_, ?_, ?_⟩
      · simpa using below_setChan b2 (Nat.le_refl _) 1 #[.agg #[]] false 1 0 false
      · simp [size_setChan]
      · simpa using heap_setChan ((w.alloc (.chan 1 #[] false 0 0 false)).alloc (.cells cs 35)) w.heap.size 1 #[.agg #[]] false 1 0 false (by simp; omega)
      · simp only [if_true]
        rw [World.setChan]
        simp only [Array.getElem?_setIfInBounds_ne (show w.heap.size ≠ w.heap.size + 1 by omega)]
        exact hpe
    | false => exact ⟨_, rfl, by simpa using b2, by simp, by simpa using hch, by simpa using hpe⟩
  have hps3 : w3.heap[Pb]? = some (.cells ps 24) := (b3.block _ hPs).trans hps
  show LS w0 Pb self n (i + 1) pj ((if pj i then ((w.alloc (.chan 1 #[] false 0 0 false)).alloc (.cells cs 35)).setChan w.heap.size 1 #[.agg #[]] false 1 0 false else ((w.alloc (.chan 1 #[] false 0 0 false)).alloc (.cells cs 35))).setCell ⟨Pb, i, none⟩ (.pointer (some ⟨w.heap.size + 1, 0, none⟩)))
  rw [← e3]
  clear e3 hch hpe b1 b2 s2
  have hset : (w3.setCell ⟨Pb, i, none⟩ (.pointer (some ⟨w.heap.size + 1, 0, none⟩))).heap[Pb]? = some (.cells (ps.setIfInBounds i (.pointer (some ⟨w.heap.size + 1, 0, none⟩))) 24) := heap_setCell_same w3 Pb i ps 24 _ hps3
  have hoth : ∀ k, k ≠ Pb → (w3.setCell ⟨Pb, i, none⟩ (.pointer (some ⟨w.heap.size + 1, 0, none⟩))).heap[k]? = w3.heap[k]? := fun k hk => heap_setCell_other w3 ⟨Pb, i, none⟩ k _ hk
  refine ⟨(hB.trans (b3.mono hB.size)).setCell (p := ⟨Pb, i, none⟩) hP _, ?_, ⟨_, hset, by simpa using hpl⟩, ?_⟩
  · simp only [World.setCell, Array.size_modify, s3]
    simp only [Cj] at hCi ⊢
    omega
  · intro j hj1 hj2
    by_cases hji : j = i
    · subst hji
      refine ⟨?_, ?_, ?_⟩
      · simp only [World.cell?, hset, hCi]
        have hil : j < ps.size := by omega
        simp [hil]
      · simp only [World.cell?, hCi]
        rw [hoth _ (by omega), p3]
        simpa using hcs
      · rw [hCi, hoth _ (by omega)]; exact c3
    · have hP := hall j hj1 (by omega)
      have hlt : Cj Pb self j + 1 < w.heap.size := by rw [hsz]; simp only [Cj]; omega
      have hne : Pb < Cj Pb self j := by simp only [Cj]; omega
      refine (hP.later b3).keep ?_ (hoth _ (by omega)) (hoth _ (by omega))
      simp only [World.cell?, hset, hps3]
      simp [show ¬ i = j from fun h => hji h.symm]
theorem LS.ahead {w0 : World} {Pb self n i : Nat} {pj : Nat → Bool} {w : World} (h : LS w0 Pb self n i pj w) (cs : Array Value) (full : Bool) :
    ∃ ps : Array Value, (if full then ((w.alloc (.chan 1 #[] false 0 0 false)).alloc (.cells cs 35)).setChan w.heap.size 1 #[.agg #[]] false 1 0 false else ((w.alloc (.chan 1 #[] false 0 0 false)).alloc (.cells cs 35))).heap[Pb]? = some (.cells ps 24) ∧ ps.size = n + 1 := by
  obtain ⟨hB, hsz, ⟨ps, hps, hpl⟩, hall⟩ := h
  have hPs : Pb < w.heap.size := (Array.getElem?_eq_some_iff.1 hps).1
  have b1 : Below w.heap.size w (w.alloc (.chan 1 #[] false 0 0 false)) := (Below.refl _ _).alloc (Nat.le_refl _) _
  have b2 : Below w.heap.size w ((w.alloc (.chan 1 #[] false 0 0 false)).alloc (.cells cs 35)) := b1.alloc b1.size _
  refine ⟨ps, ?_, hpl⟩
  cases full with
  | true => exact ((below_setChan b2 (Nat.le_refl _) 1 #[.agg #[]] false 1 0 false).block _ hPs).trans hps
  | false => exact (b2.block _ hPs).trans hps
theorem chan_new (w : World) (cs : Array Value) : ((w.alloc (.chan 1 #[] false 0 0 false)).alloc (.cells cs 35)).heap[w.heap.size]? = some (.chan 1 #[] false 0 0 false) := by
  rw [Below.heap_alloc _ _ _ (by simp)]; exact heap_alloc_new w _
end Go.Proofs.YbulkwqmFmt
