import Derived.Test.YbulkwpyDoorRows
import Derived.Test.YbulkwpyDoorRouter
import Derived.Deep.DeepCutAuto
namespace Go.Proofs.YbulkwpyDoor
open Go.ChangeShapes Go.WideShapes Go.ChangeAt Go.RowKit
set_option linter.unusedVariables false

/-- These cells hold these values. -/
def Kept (l : List (Nat × Nat × Value)) (w : World) : Prop := ∀ p ∈ l, w.cell? ⟨p.1, p.2.1, none⟩ = some p.2.2
theorem Kept.later {l : List (Nat × Nat × Value)} {w w' : World} (h : Kept l w) (hb : Below w.heap.size w w') : Kept l w' := fun p hp => cell_later hb (h p hp)

def L0 (N : Nat) (z4 z6 : Option Addr) (o0 o1 o2 o3 p0 p1 p2 p3 : Int) : List (Nat × Nat × Value) :=
  [(0, 0, .pointer z4), (1, 0, .pointer z6), (2, 0, .pointer none), (N, 0, .int .u8 o0), (N, 1, .int .u8 o1), (N, 2, .int .u8 o2), (N, 3, .int .u8 o3), (N + 1, 0, .int .u8 p0), (N + 1, 1, .int .u8 p1), (N + 1, 2, .int .u8 p2), (N + 1, 3, .int .u8 p3)]
def L1 (P : Nat) (z4 : Option Addr) (lo : Int) (asn hp lp : Int) (zp : Option Addr) : List (Nat × Nat × Value) :=
  [(P, 0, .int .u64 0), (P, 1, .int .u64 lo), (P, 2, .pointer z4), (P, 3, .int .u32 asn), (P, 4, .int .u64 hp), (P, 5, .int .u64 lp), (P, 6, .pointer zp)]

def L2 (O : Nat) (hi lo : Int) (z : Option Addr) : List (Nat × Nat × Value) := [(O, 0, .int .u64 hi), (O, 1, .int .u64 lo), (O, 2, .pointer z)]
theorem info32 : (Ybad.prog.info? 32).map (fun i => (i.zero, i.size, i.bytes)) = some (some (.agg #[.int .u64 0, .int .u64 0, .pointer none]), 3, 24) := by kernel_rfl

/-- The original address's own block. -/
def oO (hi lo : Int) (z : Option Addr) : Obj := .cells #[.int .u64 hi, .int .u64 lo, .pointer z] 32
/-- What stands behind 'if hasRefl { .. }'. -/
def Mid (has : Bool) (w : World) (A P O : Nat) (l0 l1 : List (Nat × Nat × Value)) (hi lo : Int) (z : Option Addr) (wx : World) : Prop :=
  Kept l0 wx ∧ Kept l1 wx ∧ Kept (L2 O hi lo z) wx ∧ Below w.heap.size w wx ∧
    ((has = false ∧ wx.cell? ⟨A, 14, none⟩ = some (.pointer none)) ∨ (has = true ∧ ∃ R, wx.cell? ⟨A, 14, none⟩ = some (.pointer (some ⟨R, 0, none⟩)) ∧ Kept (L2 R hi lo z) wx))
theorem kept_oO (w : World) (hi lo : Int) (z : Option Addr) : Kept (L2 w.heap.size hi lo z) (w.alloc (oO hi lo z)) := by
  have hA := heap_alloc_new w (oO hi lo z)
  intro p hp
  simp only [L2, List.mem_cons, List.not_mem_nil, or_false] at hp
  rcases hp with rfl | rfl | rfl
  all_goals (rw [cell_of_row _ _ _ _ 32 (0, 0) hA]; rfl)
theorem mid_false {w w3 : World} {A P : Nat} {l0 l1 : List (Nat × Nat × Value)} {hi lo : Int} {z : Option Addr} (h0 : Kept l0 w3) (h1 : Kept l1 w3) (hB : Below w.heap.size w w3) (hA : w3.cell? ⟨A, 14, none⟩ = some (.pointer none)) :
    Mid false w A P w3.heap.size l0 l1 hi lo z (w3.alloc (oO hi lo z)) := by
  have hb : Below w3.heap.size w3 (w3.alloc (oO hi lo z)) := (Below.refl _ _).alloc (Nat.le_refl _) _
  exact ⟨h0.later hb, h1.later hb, kept_oO w3 hi lo z, hB.trans (hb.mono hB.size), .inl ⟨rfl, cell_later hb hA⟩⟩

theorem out9 {w3 wr : World} {A : Nat} {hi lo : Int} {z : Option Addr} (hb : Below (w3.heap.size + 1) (w3.alloc (oO hi lo z)) wr) (h14 : w3.cell? ⟨A, 14, none⟩ = some (.pointer none)) (hf : w3.frozen? ⟨A, 14, none⟩ = false) (hA : A < w3.heap.size) :
    wr.cell? ⟨w3.heap.size, 0, none⟩ = some (.int .u64 hi) ∧ wr.cell? ⟨w3.heap.size, 1, none⟩ = some (.int .u64 lo) ∧ wr.cell? ⟨w3.heap.size, 2, none⟩ = some (.pointer z) ∧ wr.cell? ⟨A, 14, none⟩ = some (.pointer none) ∧ wr.frozen? ⟨A, 14, none⟩ = false := by
  have k := kept_oO w3 hi lo z
  have hba : Below w3.heap.size w3 (w3.alloc (oO hi lo z)) := (Below.refl _ _).alloc (Nat.le_refl _) _
  refine ⟨?_, ?_, ?_, ?_, ?_⟩
  · rw [hb.cell (p := ⟨w3.heap.size, 0, none⟩) (Nat.lt_succ_self _)]; exact k (w3.heap.size, 0, .int .u64 hi) (by simp [L2])
  · rw [hb.cell (p := ⟨w3.heap.size, 1, none⟩) (Nat.lt_succ_self _)]; exact k (w3.heap.size, 1, .int .u64 lo) (by simp [L2])
  · rw [hb.cell (p := ⟨w3.heap.size, 2, none⟩) (Nat.lt_succ_self _)]; exact k (w3.heap.size, 2, .pointer z) (by simp [L2])
  · rw [hb.cell (p := ⟨A, 14, none⟩) (Nat.lt_succ_of_lt hA)]; exact cell_later hba h14
  · rw [hb.frozen (p := ⟨A, 14, none⟩) (Nat.lt_succ_of_lt hA), hba.frozen (p := ⟨A, 14, none⟩) hA]; exact hf

theorem mid_true {w w3 wr : World} {A P : Nat} {l0 l1 : List (Nat × Nat × Value)} {hi lo : Int} {z : Option Addr} {v : Value} (h0 : Kept l0 w3) (h1 : Kept l1 w3) (d0 : ∀ p ∈ l0, p.1 < A) (d1 : ∀ p ∈ l1, p.1 < A) (hB : Below w.heap.size w w3) (hwA : w.heap.size ≤ A) (hA : A < w3.heap.size)
    (hb : Below (w3.heap.size + 1) (w3.alloc (oO hi lo z)) wr) (h14 : wr.cell? ⟨A, 14, none⟩ = some (.pointer none)) :
    Mid true w A P w3.heap.size l0 l1 hi lo z ((wr.setCell ⟨A, 14, none⟩ (.pointer (some ⟨wr.heap.size, 0, none⟩))).alloc (.cells #[.int .u64 hi, .int .u64 lo, .pointer z, v] 51)) := by
  have hba : Below w3.heap.size w3 (w3.alloc (oO hi lo z)) := (Below.refl _ _).alloc (Nat.le_refl _) _
  have hbr : Below w3.heap.size w3 wr := hba.trans (hb.mono (by omega))
  have hO : Kept (L2 w3.heap.size hi lo z) wr := fun p hp => by
    have hp1 : p.1 = w3.heap.size := by simp only [L2, List.mem_cons, List.not_mem_nil, or_false] at hp; rcases hp with rfl | rfl | rfl <;> rfl
    rw [hb.cell (p := ⟨p.1, p.2.1, none⟩) (by show p.1 < _; omega)]
    exact kept_oO w3 hi lo z p hp
  have hso : ∀ (l : List (Nat × Nat × Value)) (u : Value), Kept l wr → (∀ p ∈ l, p.1 ≠ A) → Kept l (wr.setCell ⟨A, 14, none⟩ u) := fun l u hk hd p hp => by
    rw [World.cell?_setCell_other wr ⟨A, 14, none⟩ ⟨p.1, p.2.1, none⟩ u (fun e => hd p hp (by injection e with e1; exact e1.symm))]
    exact hk p hp
  have hall : ∀ (l : List (Nat × Nat × Value)) (W : World) (o : Obj), Kept l W → Kept l (W.alloc o) := fun l W o hk => hk.later ((Below.refl _ _).alloc (Nat.le_refl _) _)
  have hsz : (wr.setCell ⟨A, 14, none⟩ (.pointer (some ⟨wr.heap.size, 0, none⟩))).heap.size = wr.heap.size := by simp [World.setCell]
  refine ⟨hall _ _ _ (hso l0 _ (h0.later hbr) fun p hp => by have := d0 p hp; omega), hall _ _ _ (hso l1 _ (h1.later hbr) fun p hp => by have := d1 p hp; omega), hall _ _ _ (hso _ _ hO fun p hp => ?_), ?_, .inr ⟨rfl, wr.heap.size, ?_, ?_⟩⟩
  · have hp1 : p.1 = w3.heap.size := by simp only [L2, List.mem_cons, List.not_mem_nil, or_false] at hp; rcases hp with rfl | rfl | rfl <;> rfl
    omega
  · have hs := hb.size
    have hs0 := hB.size
    simp at hs
    exact ((hB.trans (hbr.mono hs0)).setCell hwA _).alloc (by rw [hsz]; omega) _
  · exact cell_later ((Below.refl _ _).alloc (Nat.le_refl _) _) (World.cell?_setCell_same wr ⟨A, 14, none⟩ _ h14)
  · have hR := heap_alloc_new (wr.setCell ⟨A, 14, none⟩ (.pointer (some ⟨wr.heap.size, 0, none⟩))) (.cells #[.int .u64 hi, .int .u64 lo, .pointer z, v] 51)
    rw [hsz] at hR
    intro p hp
    simp only [L2, List.mem_cons, List.not_mem_nil, or_false] at hp
    rcases hp with rfl | rfl | rfl
    all_goals (rw [cell_of_row _ _ _ _ 51 (0, 0) hR]; rfl)

theorem az_some {ok : Int} {z4 z6 : Option Addr} (h : ¬ ok % 3 = 0) (t4 : z4.isSome = true) (t6 : z6.isSome = true) : ∃ zo, az ok z4 z6 = some zo := by
  obtain ⟨x, rfl⟩ := Option.isSome_iff_exists.1 t4
  obtain ⟨y, rfl⟩ := Option.isSome_iff_exists.1 t6
  by_cases h1 : ok % 3 = 1
  · exact ⟨x, by simp [az, h1]⟩
  · exact ⟨y, by simp [az, h, h1]⟩

theorem kept_W (o0 o1 o2 o3 p0 p1 p2 p3 a0 a1 a2 a3 : Int) (z4 z6 : Option Addr) (w : World) (hz4 : w.cell? ⟨0, 0, none⟩ = some (.pointer z4)) (hz6 : w.cell? ⟨1, 0, none⟩ = some (.pointer z6)) (hz0 : w.cell? ⟨2, 0, none⟩ = some (.pointer none)) :
    Kept (L0 w.heap.size z4 z6 o0 o1 o2 o3 p0 p1 p2 p3) (((w.alloc (.cells #[.int .u8 o0, .int .u8 o1, .int .u8 o2, .int .u8 o3] 22)).alloc (.cells #[.int .u8 p0, .int .u8 p1, .int .u8 p2, .int .u8 p3] 22)).alloc (.cells #[.int .u8 a0, .int .u8 a1, .int .u8 a2, .int .u8 a3] 22)) ∧ Below w.heap.size w (((w.alloc (.cells #[.int .u8 o0, .int .u8 o1, .int .u8 o2, .int .u8 o3] 22)).alloc (.cells #[.int .u8 p0, .int .u8 p1, .int .u8 p2, .int .u8 p3] 22)).alloc (.cells #[.int .u8 a0, .int .u8 a1, .int .u8 a2, .int .u8 a3] 22)) := by
  have hB : Below w.heap.size w (((w.alloc (.cells #[.int .u8 o0, .int .u8 o1, .int .u8 o2, .int .u8 o3] 22)).alloc (.cells #[.int .u8 p0, .int .u8 p1, .int .u8 p2, .int .u8 p3] 22)).alloc (.cells #[.int .u8 a0, .int .u8 a1, .int .u8 a2, .int .u8 a3] 22)) := (((Below.refl _ _).alloc (Nat.le_refl _) _).alloc (by simp) _).alloc (by simp; omega) _
  have hA : (((w.alloc (.cells #[.int .u8 o0, .int .u8 o1, .int .u8 o2, .int .u8 o3] 22)).alloc (.cells #[.int .u8 p0, .int .u8 p1, .int .u8 p2, .int .u8 p3] 22)).alloc (.cells #[.int .u8 a0, .int .u8 a1, .int .u8 a2, .int .u8 a3] 22)).heap[w.heap.size]? = some (.cells #[.int .u8 o0, .int .u8 o1, .int .u8 o2, .int .u8 o3] 22) := by
    rw [Below.heap_alloc _ _ _ (by simp; omega), Below.heap_alloc _ _ _ (by simp)]; exact heap_alloc_new w _
  have hP : (((w.alloc (.cells #[.int .u8 o0, .int .u8 o1, .int .u8 o2, .int .u8 o3] 22)).alloc (.cells #[.int .u8 p0, .int .u8 p1, .int .u8 p2, .int .u8 p3] 22)).alloc (.cells #[.int .u8 a0, .int .u8 a1, .int .u8 a2, .int .u8 a3] 22)).heap[w.heap.size + 1]? = some (.cells #[.int .u8 p0, .int .u8 p1, .int .u8 p2, .int .u8 p3] 22) := by
    rw [Below.heap_alloc _ _ _ (by simp)]
    have := heap_alloc_new (w.alloc (.cells #[.int .u8 o0, .int .u8 o1, .int .u8 o2, .int .u8 o3] 22)) (.cells #[.int .u8 p0, .int .u8 p1, .int .u8 p2, .int .u8 p3] 22)
    simpa using this
  refine ⟨?_, hB⟩
  intro p hp
  simp only [L0, List.mem_cons, List.not_mem_nil, or_false] at hp
  rcases hp with rfl | rfl | rfl | rfl | rfl | rfl | rfl | rfl | rfl | rfl | rfl
  · exact cell_later hB hz4
  · exact cell_later hB hz6
  · exact cell_later hB hz0
  all_goals first | (rw [cell_of_row _ _ _ _ 22 (0, 0) hA]; rfl) | (rw [cell_of_row _ _ _ _ 22 (0, 0) hP]; rfl)

def peerObj (z4 : Option Addr) (lo asn hp lp : Int) (zp : Option Addr) : Obj := .cells #[.int .u64 0, .int .u64 lo, .pointer z4, .int .u32 asn, .int .u64 hp, .int .u64 lp, .pointer zp] 36

theorem kept_peer (w2 : World) (z4 : Option Addr) (lo asn hp lp : Int) (zp : Option Addr) : Kept (L1 w2.heap.size z4 lo asn hp lp zp) (w2.alloc (peerObj z4 lo asn hp lp zp)) := by
  have hA := heap_alloc_new w2 (peerObj z4 lo asn hp lp zp)
  intro p hp
  simp only [L1, List.mem_cons, List.not_mem_nil, or_false] at hp
  rcases hp with rfl | rfl | rfl | rfl | rfl | rfl | rfl
  all_goals (rw [cell_of_row _ _ _ _ 36 (0, 0) hA]; rfl)

theorem meet1 (o0 o1 o2 o3 p0 p1 p2 p3 a0 a1 a2 a3 lo asn hp lp : Int) (z4 z6 zp : Option Addr) (w w1 w2 : World) (hz4 : w.cell? ⟨0, 0, none⟩ = some (.pointer z4)) (hz6 : w.cell? ⟨1, 0, none⟩ = some (.pointer z6)) (hz0 : w.cell? ⟨2, 0, none⟩ = some (.pointer none))
    (hb1 : Below (((w.alloc (.cells #[.int .u8 o0, .int .u8 o1, .int .u8 o2, .int .u8 o3] 22)).alloc (.cells #[.int .u8 p0, .int .u8 p1, .int .u8 p2, .int .u8 p3] 22)).alloc (.cells #[.int .u8 a0, .int .u8 a1, .int .u8 a2, .int .u8 a3] 22)).drew.heap.size (((w.alloc (.cells #[.int .u8 o0, .int .u8 o1, .int .u8 o2, .int .u8 o3] 22)).alloc (.cells #[.int .u8 p0, .int .u8 p1, .int .u8 p2, .int .u8 p3] 22)).alloc (.cells #[.int .u8 a0, .int .u8 a1, .int .u8 a2, .int .u8 a3] 22)).drew w1) (hb2 : Below w1.heap.size w1 w2) :
    Kept (L0 w.heap.size z4 z6 o0 o1 o2 o3 p0 p1 p2 p3) (w2.alloc (peerObj z4 lo asn hp lp zp)) ∧ Kept (L1 w2.heap.size z4 lo asn hp lp zp) (w2.alloc (peerObj z4 lo asn hp lp zp)) ∧ Below w.heap.size w (w2.alloc (peerObj z4 lo asn hp lp zp)) := by
  obtain ⟨hK, hB⟩ := kept_W o0 o1 o2 o3 p0 p1 p2 p3 a0 a1 a2 a3 z4 z6 w hz4 hz6 hz0
  have hb1' : Below (((w.alloc (.cells #[.int .u8 o0, .int .u8 o1, .int .u8 o2, .int .u8 o3] 22)).alloc (.cells #[.int .u8 p0, .int .u8 p1, .int .u8 p2, .int .u8 p3] 22)).alloc (.cells #[.int .u8 a0, .int .u8 a1, .int .u8 a2, .int .u8 a3] 22)).heap.size (((w.alloc (.cells #[.int .u8 o0, .int .u8 o1, .int .u8 o2, .int .u8 o3] 22)).alloc (.cells #[.int .u8 p0, .int .u8 p1, .int .u8 p2, .int .u8 p3] 22)).alloc (.cells #[.int .u8 a0, .int .u8 a1, .int .u8 a2, .int .u8 a3] 22)) w1 := ((Below.refl _ _).drew).trans hb1
  have s1 := hb1'.size
  have s2 := hb2.size
  have s0 := hB.size
  have hK2 : Kept (L0 w.heap.size z4 z6 o0 o1 o2 o3 p0 p1 p2 p3) w2 := (hK.later hb1').later hb2
  have hB2 : Below w.heap.size w w2 := (hB.trans (hb1'.mono s0)).trans (hb2.mono (Nat.le_trans s0 s1))
  exact ⟨hK2.later ((Below.refl _ _).alloc (Nat.le_refl _) _), kept_peer w2 z4 lo asn hp lp zp, hB2.alloc hB2.size _⟩

theorem after3 {l0 l1 : List (Nat × Nat × Value)} {asn : Int} {w wc w3 : World} (h0 : Kept l0 wc) (h1 : Kept l1 wc) (hB : Below w.heap.size w wc) (hb3 : Below (wc.alloc (.cells #[.int .u8 0, .slice none 0 0, .int .u64 0, .int .u64 0, .pointer none, .int .u32 0, .bool false, .int .u32 asn, .bool false, .slice none 0 0, .slice none 0 0, .slice none 0 0, .bool false, .pointer none, .pointer none, .slice none 0 0] 48)).heap.size (wc.alloc (.cells #[.int .u8 0, .slice none 0 0, .int .u64 0, .int .u64 0, .pointer none, .int .u32 0, .bool false, .int .u32 asn, .bool false, .slice none 0 0, .slice none 0 0, .slice none 0 0, .bool false, .pointer none, .pointer none, .slice none 0 0] 48)) w3) :
    Kept l0 w3 ∧ Kept l1 w3 ∧ Below w.heap.size w w3 ∧ w3.cell? ⟨wc.heap.size, 14, none⟩ = some (.pointer none) ∧ w3.frozen? ⟨wc.heap.size, 14, none⟩ = false ∧ wc.heap.size < w3.heap.size ∧ (∀ p ∈ l0, p.1 < wc.heap.size) ∧ (∀ p ∈ l1, p.1 < wc.heap.size) ∧ w.heap.size ≤ wc.heap.size := by
  have hbc : Below wc.heap.size wc w3 := ((Below.refl _ _).alloc (Nat.le_refl _) _).trans (hb3.mono (by simp))
  have hA := heap_alloc_new wc (.cells #[.int .u8 0, .slice none 0 0, .int .u64 0, .int .u64 0, .pointer none, .int .u32 0, .bool false, .int .u32 asn, .bool false, .slice none 0 0, .slice none 0 0, .slice none 0 0, .bool false, .pointer none, .pointer none, .slice none 0 0] 48)
  have hblk : w3.heap[wc.heap.size]? = some (.cells #[.int .u8 0, .slice none 0 0, .int .u64 0, .int .u64 0, .pointer none, .int .u32 0, .bool false, .int .u32 asn, .bool false, .slice none 0 0, .slice none 0 0, .slice none 0 0, .bool false, .pointer none, .pointer none, .slice none 0 0] 48 (0, 0)) := by rw [hb3.block wc.heap.size (by simp)]; exact hA
  have hs := hb3.size
  simp at hs
  exact ⟨h0.later hbc, h1.later hbc, hB.trans (hbc.mono hB.size), by rw [cell_of_row _ _ _ _ 48 (0, 0) hblk]; rfl, frozen_of_row _ _ _ _ 48 hblk, by omega, fun p hp => World.block_lt_of_cell? _ _ (h0 p hp), fun p hp => World.block_lt_of_cell? _ _ (h1 p hp), hB.size⟩

theorem info36' : (Ybad.prog.info? 36).map (·.size) = some 7 := by kernel_rfl
theorem info36 : ∃ j, Ybad.prog.info? 36 = some j := by
  obtain ⟨j, hj, _⟩ := Option.map_eq_some_iff.1 info36'
  exact ⟨j, hj⟩
theorem info48' : (Ybad.prog.info? 48).map (·.size) = some 16 := by kernel_rfl
theorem info48 : ∃ j, Ybad.prog.info? 48 = some j := by
  obtain ⟨j, hj, _⟩ := Option.map_eq_some_iff.1 info48'
  exact ⟨j, hj⟩

/-- Behind routerID: what stood stands, and the path's own block. -/
theorem after4 {l0 l1 l2 : List (Nat × Nat × Value)} {w w3 w4 : World} {u v x : Value} (h0 : Kept l0 w3) (h1 : Kept l1 w3) (h2 : Kept l2 w3) (hB : Below w.heap.size w w3)
    (hb4 : Below (w3.alloc (.cells #[u, v, x] 53)).heap.size (w3.alloc (.cells #[u, v, x] 53)) w4) :
    Kept l0 w4 ∧ Kept l1 w4 ∧ Kept l2 w4 ∧ w4.cell? ⟨w3.heap.size, 0, none⟩ = some u ∧ w4.cell? ⟨w3.heap.size, 1, none⟩ = some v ∧ w4.cell? ⟨w3.heap.size, 2, none⟩ = some x ∧ Below w.heap.size w w4 ∧ w3.heap.size < w4.heap.size := by
  have hbc : Below w3.heap.size w3 w4 := ((Below.refl _ _).alloc (Nat.le_refl _) _).trans (hb4.mono (by simp))
  have hQ := heap_alloc_new w3 (.cells #[u, v, x] 53)
  have hblk : w4.heap[w3.heap.size]? = some (.cells #[u, v, x] 53 (0, 0)) := by
    rw [hb4.block w3.heap.size (by simp)]
    exact hQ
  have hs := hb4.size
  simp at hs
  exact ⟨h0.later hbc, h1.later hbc, h2.later hbc, by rw [cell_of_row _ _ _ _ 53 (0, 0) hblk]; rfl, by rw [cell_of_row _ _ _ _ 53 (0, 0) hblk]; rfl, by rw [cell_of_row _ _ _ _ 53 (0, 0) hblk]; rfl, hB.trans (hbc.mono hB.size), by omega⟩

theorem endB {w w4 w5 : World} {o1 o2 : Obj} (h : Below w.heap.size w w4) (hb : Below ((w4.alloc o1).alloc o2).drew.heap.size ((w4.alloc o1).alloc o2).drew w5) : Below w.heap.size w w5 := by
  have hs := h.size
  have h2 : Below w4.heap.size w4 ((w4.alloc o1).alloc o2).drew := (((Below.refl _ _).alloc (Nat.le_refl _) _).alloc (by simp) _).drew
  have hs2 := h2.size
  exact h.trans ((h2.trans (hb.mono hs2)).mono hs)

theorem heads {N P : Nat} {z4 z6 zp : Option Addr} {o0 o1 o2 o3 p0 p1 p2 p3 lo asn hp lp : Int} {w : World} (h0 : Kept (L0 N z4 z6 o0 o1 o2 o3 p0 p1 p2 p3) w) (h1 : Kept (L1 P z4 lo asn hp lp zp) w) :
    w.cell? ⟨0, 0, none⟩ = some (.pointer z4) ∧ w.cell? ⟨1, 0, none⟩ = some (.pointer z6) ∧ w.cell? ⟨N + 1, 0, none⟩ = some (.int .u8 p0) ∧ w.cell? ⟨N + 1, 1, none⟩ = some (.int .u8 p1) ∧ w.cell? ⟨N + 1, 2, none⟩ = some (.int .u8 p2) ∧ w.cell? ⟨N + 1, 3, none⟩ = some (.int .u8 p3) ∧
    w.cell? ⟨P, 4, none⟩ = some (.int .u64 hp) ∧ w.cell? ⟨P, 5, none⟩ = some (.int .u64 lp) ∧ w.cell? ⟨P, 6, none⟩ = some (.pointer zp) ∧ N + 1 < w.heap.size ∧ P < w.heap.size := by
  have b0 := h0 (N + 1, 0, .int .u8 p0) (by simp [L0])
  have e4 := h1 (P, 4, .int .u64 hp) (by simp [L1])
  exact ⟨h0 (0, 0, .pointer z4) (by simp [L0]), h0 (1, 0, .pointer z6) (by simp [L0]), b0, h0 (N + 1, 1, .int .u8 p1) (by simp [L0]), h0 (N + 1, 2, .int .u8 p2) (by simp [L0]), h0 (N + 1, 3, .int .u8 p3) (by simp [L0]),
    e4, h1 (P, 5, .int .u64 lp) (by simp [L1]), h1 (P, 6, .pointer zp) (by simp [L1]), World.block_lt_of_cell? _ _ b0, World.block_lt_of_cell? _ _ e4⟩

set_option maxRecDepth 100000 in
set_option maxHeartbeats 4000000 in
theorem law_walk (has : Bool) (ok o0 o1 o2 o3 pk p0 p1 p2 p3 a0 a1 a2 a3 asn og cl : Int) (z4 z6 : Option Addr) (w : World) (hz4 : w.cell? ⟨0, 0, none⟩ = some (.pointer z4)) (hz6 : w.cell? ⟨1, 0, none⟩ = some (.pointer z6)) (hz0 : w.cell? ⟨2, 0, none⟩ = some (.pointer none))
    (t4 : z4.isSome = true) (t6 : z6.isSome = true) (ok0 : 0 ≤ ok) (ok1 : ok ≤ 255) (pk0 : 0 ≤ pk) (pk1 : pk ≤ 255) (cl0 : 0 ≤ cl) (cl1 : cl ≤ 255) :
    Calls Ybad.prog 3 #[.bool has, .int .u8 ok, .agg #[.int .u8 o0, .int .u8 o1, .int .u8 o2, .int .u8 o3], .int .u8 pk, .agg #[.int .u8 p0, .int .u8 p1, .int .u8 p2, .int .u8 p3], .agg #[.int .u8 a0, .int .u8 a1, .int .u8 a2, .int .u8 a3], .int .u32 asn, .int .u32 og, .int .u8 cl] w
      fun e w' => e = .returned (.bool true) ∧ Below w.heap.size w w' := by
  have hlt : 2 < w.heap.size := World.block_lt_of_cell? _ _ hz0
  have g4 : ∀ o1 o2 o3, (((w.alloc o1).alloc o2).alloc o3).cell? ⟨0, 0, none⟩ = some (.pointer z4) := fun o1 o2 o3 => cell_later ((((Below.refl _ _).alloc (Nat.le_refl _) o1).alloc (by simp) o2).alloc (by simp; omega) o3) hz4
  have g6 : ∀ o1 o2 o3, (((w.alloc o1).alloc o2).alloc o3).cell? ⟨1, 0, none⟩ = some (.pointer z6) := fun o1 o2 o3 => cell_later ((((Below.refl _ _).alloc (Nat.le_refl _) o1).alloc (by simp) o2).alloc (by simp; omega) o3) hz6
  go_enter Ybad.func3, Ybad.ntmps3
  go_upto_region 1 with fail
  go_cut [19] (fun s wx => ∃ P, s = .pointer (some ⟨P, 0, none⟩) ∧ Kept (L0 w.heap.size z4 z6 o0 o1 o2 o3 p0 p1 p2 p3) wx ∧ Kept (L1 P z4 (lo4 a0 a1 a2 a3) asn (ahi pk) (alo pk p0 p1 p2 p3) (az pk z4 z6)) wx ∧ Below w.heap.size w wx)
  case first =>
    go_region_with (first
      | (go_at_call 4; refine (from4_any a0 a1 a2 a3 z4 _ (by first | exact g4 _ _ _ | go_simp)).mono ?_; rintro e w1 ⟨rfl, hb1⟩; unfold addr; obtain ⟨hc1, hf1⟩ := bcell hb1)
      | (go_at_call 5; refine (mk_any pk p0 p1 p2 p3 z4 z6 _ (by first | exact g4 _ _ _ | go_simp) (by first | exact g6 _ _ _ | go_simp) pk0 pk1).mono ?_; rintro e w2 ⟨rfl, hb2⟩; obtain ⟨hc2, hf2⟩ := bcell hb2))
    all_goals
      go_wp2_with fail
      go_meet
      case rel => exact ⟨_, rfl, meet1 o0 o1 o2 o3 p0 p1 p2 p3 a0 a1 a2 a3 _ _ _ _ z4 z6 _ w w1 w2 hz4 hz6 hz0 hb1 hb2⟩
  case rest =>
    clear g4 g6
    obtain ⟨P, rfl, hK0, hK1, hB⟩ := hcut
    have KK0 : Hid (Kept (L0 w.heap.size z4 z6 o0 o1 o2 o3 p0 p1 p2 p3) wc) := hK0
    have KK1 : Hid (Kept (L1 P z4 (lo4 a0 a1 a2 a3) asn (ahi pk) (alo pk p0 p1 p2 p3) (az pk z4 z6)) wc) := hK1
    have HB : Hid (Below w.heap.size w wc) := hB
    have hsz := hB.size
    have f0 : ∀ o, (wc.alloc o).cell? ⟨w.heap.size, 0, none⟩ = some (.int .u8 o0) := later1 (hK0 (w.heap.size, 0, .int .u8 o0) (by simp [L0]))
    have f1 : ∀ o, (wc.alloc o).cell? ⟨w.heap.size, 1, none⟩ = some (.int .u8 o1) := later1 (hK0 (w.heap.size, 1, .int .u8 o1) (by simp [L0]))
    have f2 : ∀ o, (wc.alloc o).cell? ⟨w.heap.size, 2, none⟩ = some (.int .u8 o2) := later1 (hK0 (w.heap.size, 2, .int .u8 o2) (by simp [L0]))
    have f3 : ∀ o, (wc.alloc o).cell? ⟨w.heap.size, 3, none⟩ = some (.int .u8 o3) := later1 (hK0 (w.heap.size, 3, .int .u8 o3) (by simp [L0]))
    have g4 : Hid (∀ o, (wc.alloc o).cell? ⟨0, 0, none⟩ = some (.pointer z4)) := later1 (hK0 (0, 0, .pointer z4) (by simp [L0]))
    have g6 : Hid (∀ o, (wc.alloc o).cell? ⟨1, 0, none⟩ = some (.pointer z6)) := later1 (hK0 (1, 0, .pointer z6) (by simp [L0]))
    clear hK0 hK1 hB
    go_wp2_with fail
    refine (mk_any ok o0 o1 o2 o3 z4 z6 _ (g4.out _) (g6.out _) ok0 ok1).mono ?_
    rintro e w3 ⟨rfl, hb3⟩
    clear f0 f1 f2 f3
    obtain ⟨hK0, hK1, hB3, hA14, hAf, hA, d0, d1, hwA⟩ := after3 KK0.out KK1.out HB.out hb3
    have KA0 : Hid (Kept (L0 w.heap.size z4 z6 o0 o1 o2 o3 p0 p1 p2 p3) w3) := hK0
    have KA1 : Hid (Kept (L1 P z4 (lo4 a0 a1 a2 a3) asn (ahi pk) (alo pk p0 p1 p2 p3) (az pk z4 z6)) w3) := hK1
    have HB3 : Hid (Below w.heap.size w w3) := hB3
    have D0 : Hid (∀ p ∈ L0 w.heap.size z4 z6 o0 o1 o2 o3 p0 p1 p2 p3, p.1 < wc.heap.size) := d0
    have D1 : Hid (∀ p ∈ L1 P z4 (lo4 a0 a1 a2 a3) asn (ahi pk) (alo pk p0 p1 p2 p3) (az pk z4 z6), p.1 < wc.heap.size) := d1
    generalize wc.heap.size = A at hA14 hAf hA D0 D1 hwA
    clear hK0 hK1 hB3 KK0 KK1 HB g4 g6 hb3 hsz d0 d1
    obtain ⟨wo, rfl⟩ : ∃ wo : World, wo = wc := ⟨_, rfl⟩
    go_upto_if 42 with fail
    go_cut [] (fun wx => Mid has w A P w3.heap.size (L0 w.heap.size z4 z6 o0 o1 o2 o3 p0 p1 p2 p3) (L1 P z4 (lo4 a0 a1 a2 a3) asn (ahi pk) (alo pk p0 p1 p2 p3) (az pk z4 z6)) (ahi ok) (alo ok o0 o1 o2 o3) (az ok z4 z6) wx)
    case first =>
      cases has with
      | false =>
        go_wp2_with fail
        go_meet
        case rel => exact mid_false KA0.out KA1.out HB3.out hA14
      | true =>
        obtain ⟨n, hn⟩ : ∃ n : Nat, cl % 4 = (n : Int) := ⟨(cl % 4).toNat, by omega⟩
        have hn3 : n ≤ 3 := by omega
        obtain ⟨i0, hi, hz0', hz1, hz2⟩ := info_parts info32
        have e0 : w3.cell? ⟨P, 0, none⟩ = some (.int .u64 0) := KA1.out (P, 0, .int .u64 0) (by simp [L1])
        have e1 : w3.cell? ⟨P, 1, none⟩ = some (.int .u64 (lo4 a0 a1 a2 a3)) := KA1.out (P, 1, .int .u64 (lo4 a0 a1 a2 a3)) (by simp [L1])
        have e2 : w3.cell? ⟨P, 2, none⟩ = some (.pointer z4) := KA1.out (P, 2, .pointer z4) (by simp [L1])
        have hP : P < w3.heap.size := World.block_lt_of_cell? _ _ e0
        go_wp2_with (at_make; refine wpList_make_own _ rfl _ _ 49 rfl (w3.heap.size + 1) 32 i0 (.agg #[.int .u64 0, .int .u64 0, .pointer none]) 3 Ybad.underlying49 hi hz0' hz1 _ _ _ n rfl rfl (by omega) (by rw [hz2]; omega) (by unfold maxLen; omega) (by simp) ?_; intro wm hown hgrow)
        go_loopw [23, 24] (fun v i wr => ∃ k : Nat, k ≤ n ∧ i = .int .i64 k ∧ v = .slice (some ⟨w3.heap.size + 1, 0, none⟩) k n ∧ (∃ xs, wr.ownsRow (w3.heap.size + 1) 32 3 (.slice (some ⟨w3.heap.size + 1, 0, none⟩) k n) k xs) ∧ Below (w3.heap.size + 1) (w3.alloc (oO (ahi ok) (alo ok o0 o1 o2 o3) (az ok z4 z6))) wr) (fun _ i _ => n - (intOf i).toNat)
        case atStart => exact ⟨0, Nat.zero_le _, rfl, by simp, ⟨[], by simpa using hown⟩, (Below.refl _ _).grown hgrow (by simp) (by simp)⟩
        case round =>
          obtain ⟨k, hk, rfl, rfl, ⟨xs, hown'⟩, hBr⟩ := hrel
          have HBr : Hid (Below (w3.heap.size + 1) (w3.alloc (oO (ahi ok) (alo ok o0 o1 o2 o3) (az ok z4 z6))) wr) := hBr
          have hszr : w3.heap.size + 1 ≤ wr.heap.size := by have := hBr.size; simpa using this
          obtain ⟨f0, f1, f2⟩ : wr.cell? ⟨P, 0, none⟩ = some (.int .u64 0) ∧ wr.cell? ⟨P, 1, none⟩ = some (.int .u64 (lo4 a0 a1 a2 a3)) ∧ wr.cell? ⟨P, 2, none⟩ = some (.pointer z4) :=
            ⟨(hBr.cell (p := ⟨P, 0, none⟩) (by show P < _; omega)).trans (later1 e0 _), (hBr.cell (p := ⟨P, 1, none⟩) (by show P < _; omega)).trans (later1 e1 _), (hBr.cell (p := ⟨P, 2, none⟩) (by show P < _; omega)).trans (later1 e2 _)⟩
          by_cases hkn : k < n
          · clear hown hgrow hBr hA14 hAf
            go_wp2_with (at_builtin; refine wpList_append_fits _ rfl _ _ 49 rfl (w3.heap.size + 1) 32 i0 3 Ybad.underlying49 hi hz1 (w3.heap.size + 1) k n xs rfl (hown'.alloc _) ⟨wr.heap.size, 0, none⟩ 1 1 [.int .u64 0, .int .u64 (lo4 a0 a1 a2 a3), .pointer z4] rfl rfl ?c1 ?c2 ?c3 ?_)
            case c1 =>
              intro j u hj
              match j, hj with
              | 0, hj => simp at hj; subst hj; simp [Addr.add]
              | 1, hj => simp at hj; subst hj; simp [Addr.add]
              | 2, hj => simp at hj; subst hj; simp [Addr.add]
              | j + 3, hj => simp at hj
            case c2 => intro u hu; simp at hu; rcases hu with rfl | rfl | rfl <;> rfl
            case c3 => omega
            intro w8 hown8 hgrow8
            go_wp2_with fail
            go_roundw
            case rel => exact ⟨k + 1, by omega, by go_num, rfl, ⟨_, hown8⟩, (HBr.out.alloc hszr _).grown hgrow8 (by simp; omega) (by simp)⟩
            case measure => simp [intOf]; omega
          · clear hown hgrow hBr
            obtain ⟨t0, t1, t2, hA14', hAf'⟩ := out9 HBr.out hA14 hAf hA
            have hA' : A < wr.heap.size := by omega
            go_wp2_with fail
            go_meet
            case rel => exact mid_true KA0.out KA1.out D0.out D1.out HB3.out hwA hA HBr.out hA14'
    case rest =>
      clear hA14 hAf hA hwA KA0 KA1 HB3 D0 D1
      obtain ⟨k0, k1, k2, hB6, hor⟩ := hcut
      have K0 : Hid (Kept (L0 w.heap.size z4 z6 o0 o1 o2 o3 p0 p1 p2 p3) wc) := k0
      have K1 : Hid (Kept (L1 P z4 (lo4 a0 a1 a2 a3) asn (ahi pk) (alo pk p0 p1 p2 p3) (az pk z4 z6)) wc) := k1
      have K2 : Hid (Kept (L2 w3.heap.size (ahi ok) (alo ok o0 o1 o2 o3) (az ok z4 z6)) wc) := k2
      have HB6 : Hid (Below w.heap.size w wc) := hB6
      have r4 := later1 (k1 (P, 4, .int .u64 (ahi pk)) (by simp [L1]))
      have r5 := later1 (k1 (P, 5, .int .u64 (alo pk p0 p1 p2 p3)) (by simp [L1]))
      have r6 := later1 (k1 (P, 6, .pointer (az pk z4 z6)) (by simp [L1]))
      have r0 := later1 (k0 (2, 0, .pointer none) (by simp [L0]))
      clear k0 k1 k2 hB6
      rcases hor with ⟨rfl, h14⟩ | ⟨rfl, R, h14, kR⟩
      · have hr := later1 h14
        go_wp2_with fail
        refine (router_nil P A og _ _ _ _ (hr _) (r4 _) (r5 _) (r6 _)).mono ?_
        clear hr r4 r5 r6 r0 h14
        rintro e w4 ⟨rfl, hb4⟩
        obtain ⟨k0, k1, k2, q0, q1, q2, hB4, nQ⟩ := after4 K0.out K1.out K2.out HB6.out hb4
        obtain ⟨g4, g6, b0, b1, b2, b3, e4, e5, e6, nN, nP⟩ := heads k0 k1
        have HB4 : Hid (Below w.heap.size w w4) := hB4
        have G4 : Hid (∀ o1 o2, ((w4.alloc o1).alloc o2).cell? ⟨0, 0, none⟩ = some (.pointer z4)) := later2 g4
        have G6 : Hid (∀ o1 o2, ((w4.alloc o1).alloc o2).cell? ⟨1, 0, none⟩ = some (.pointer z6)) := later2 g6
        clear hB4 k0 k1 k2 hb4 g4 g6
        have m1 : P < w4.heap.size + 1 := by omega
        have m2 : wc.heap.size < w4.heap.size + 1 := by omega
        have m3 : w.heap.size < w4.heap.size := by omega
        have qs := eq28_same
        have pe : ∀ (w : World) (a : Addr), (binOp .neq 24 (.pointer (some a)) (.pointer (some a))).run Ybad.prog w = .ok (.bool false) w := fun w a => info36.elim fun _ hj => Lib.run_neq_ptr_same w a Ybad.underlying24 hj
        have ae : ∀ (w : World) (a : Addr), (binOp .neq 37 (.pointer (some a)) (.pointer (some a))).run Ybad.prog w = .ok (.bool false) w := fun w a => info48.elim fun _ hj => Lib.run_neq_ptr_same w a Ybad.underlying37 hj
        go_wp2_with fail
        clear q0 q1 q2 pe ae
        go_region_with (go_at_call 5; refine (mk_any pk p0 p1 p2 p3 z4 z6 _ (by exact G4.out _ _) (by exact G6.out _ _) pk0 pk1).mono ?_; rintro e w5 ⟨rfl, hb5⟩; obtain ⟨hc5, hf5⟩ := bcell hb5)
        all_goals
          go_wp2_with fail
          go_ret
          exact ⟨rfl, endB HB4.out hb5⟩
      · have hr := later1 h14
        have s0 := later1 (kR (R, 0, .int .u64 (ahi ok)) (by simp [L2]))
        have s1 := later1 (kR (R, 1, .int .u64 (alo ok o0 o1 o2 o3)) (by simp [L2]))
        have s2 := later1 (kR (R, 2, .pointer (az ok z4 z6)) (by simp [L2]))
        clear h14 kR
        by_cases hok : ok % 3 = 0
        · have hok' : (ok % 3 != 0) = false := by simp [hok]
          have haz : az ok z4 z6 = none := by simp [az, hok]
          have s2' : ∀ o, (wc.alloc o).cell? ⟨R, 2, none⟩ = some (.pointer none) := by rw [← haz]; exact s2
          clear hok haz s2
          go_wp2_with fail
          refine (router_inv P A R og _ _ _ _ _ _ (hr _) (s0 _) (s1 _) (s2' _) (r0 _) (r4 _) (r5 _) (r6 _)).mono ?_
          clear hr r4 r5 r6 r0 s0 s1 s2'
          rintro e w4 ⟨rfl, hb4⟩
          obtain ⟨k0, k1, k2, q0, q1, q2, hB4, nQ⟩ := after4 K0.out K1.out K2.out HB6.out hb4
          obtain ⟨g4, g6, b0, b1, b2, b3, e4, e5, e6, nN, nP⟩ := heads k0 k1
          have HB4 : Hid (Below w.heap.size w w4) := hB4
          have G4 : Hid (∀ o1 o2, ((w4.alloc o1).alloc o2).cell? ⟨0, 0, none⟩ = some (.pointer z4)) := later2 g4
          have G6 : Hid (∀ o1 o2, ((w4.alloc o1).alloc o2).cell? ⟨1, 0, none⟩ = some (.pointer z6)) := later2 g6
          clear hB4 k0 k1 k2 hb4 g4 g6
          have m1 : P < w4.heap.size + 1 := by omega
          have m2 : wc.heap.size < w4.heap.size + 1 := by omega
          have m3 : w.heap.size < w4.heap.size := by omega
          have qs := eq28_same
          have pe : ∀ (w : World) (a : Addr), (binOp .neq 24 (.pointer (some a)) (.pointer (some a))).run Ybad.prog w = .ok (.bool false) w := fun w a => info36.elim fun _ hj => Lib.run_neq_ptr_same w a Ybad.underlying24 hj
          have ae : ∀ (w : World) (a : Addr), (binOp .neq 37 (.pointer (some a)) (.pointer (some a))).run Ybad.prog w = .ok (.bool false) w := fun w a => info48.elim fun _ hj => Lib.run_neq_ptr_same w a Ybad.underlying37 hj
          go_wp2_with fail
          clear q0 q1 q2 pe ae
          go_region_with (go_at_call 5; refine (mk_any pk p0 p1 p2 p3 z4 z6 _ (by exact G4.out _ _) (by exact G6.out _ _) pk0 pk1).mono ?_; rintro e w5 ⟨rfl, hb5⟩; obtain ⟨hc5, hf5⟩ := bcell hb5)
          all_goals
            go_wp2_with fail
            go_ret
            exact ⟨rfl, endB HB4.out hb5⟩
        · have hok' : (ok % 3 != 0) = true := by simp [hok]
          obtain ⟨zo, haz⟩ : ∃ zo, az ok z4 z6 = some zo := az_some hok t4 t6
          have s2' : ∀ o, (wc.alloc o).cell? ⟨R, 2, none⟩ = some (.pointer (some zo)) := by rw [← haz]; exact s2
          have HZ : Hid (az ok z4 z6 = some zo) := haz
          clear hok haz s2
          go_wp2_with fail
          refine (router_some P A R og _ _ zo _ (hr _) (s0 _) (s1 _) (s2' _) (r0 _)).mono ?_
          clear hr r4 r5 r6 r0 s0 s1 s2'
          rintro e w4 ⟨rfl, hb4⟩
          obtain ⟨k0, k1, k2, q0, q1, q2, hB4, nQ⟩ := after4 K0.out K1.out K2.out HB6.out hb4
          obtain ⟨g4, g6, b0, b1, b2, b3, e4, e5, e6, nN, nP⟩ := heads k0 k1
          have x0 : w4.cell? ⟨w3.heap.size, 0, none⟩ = some (.int .u64 (ahi ok)) := k2 (w3.heap.size, 0, .int .u64 (ahi ok)) (by simp [L2])
          have x1 : w4.cell? ⟨w3.heap.size, 1, none⟩ = some (.int .u64 (alo ok o0 o1 o2 o3)) := k2 (w3.heap.size, 1, .int .u64 (alo ok o0 o1 o2 o3)) (by simp [L2])
          have x2 : w4.cell? ⟨w3.heap.size, 2, none⟩ = some (.pointer (some zo)) := by rw [← HZ.out]; exact k2 (w3.heap.size, 2, .pointer (az ok z4 z6)) (by simp [L2])
          have nO : w3.heap.size < w4.heap.size := World.block_lt_of_cell? _ _ x0
          have nO1 : w3.heap.size < w4.heap.size + 1 := by omega
          have HB4 : Hid (Below w.heap.size w w4) := hB4
          have G4 : Hid (∀ o1 o2, ((w4.alloc o1).alloc o2).cell? ⟨0, 0, none⟩ = some (.pointer z4)) := later2 g4
          have G6 : Hid (∀ o1 o2, ((w4.alloc o1).alloc o2).cell? ⟨1, 0, none⟩ = some (.pointer z6)) := later2 g6
          clear hB4 k0 k1 k2 hb4 g4 g6
          have m1 : P < w4.heap.size + 1 := by omega
          have m2 : wc.heap.size < w4.heap.size + 1 := by omega
          have m3 : w.heap.size < w4.heap.size := by omega
          have qs := eq28_same
          have pe : ∀ (w : World) (a : Addr), (binOp .neq 24 (.pointer (some a)) (.pointer (some a))).run Ybad.prog w = .ok (.bool false) w := fun w a => info36.elim fun _ hj => Lib.run_neq_ptr_same w a Ybad.underlying24 hj
          have ae : ∀ (w : World) (a : Addr), (binOp .neq 37 (.pointer (some a)) (.pointer (some a))).run Ybad.prog w = .ok (.bool false) w := fun w a => info48.elim fun _ hj => Lib.run_neq_ptr_same w a Ybad.underlying37 hj
          go_wp2_with fail
          clear q0 q1 q2 pe ae
          go_region_with (go_at_call 5; refine (mk_any pk p0 p1 p2 p3 z4 z6 _ (by exact G4.out _ _) (by exact G6.out _ _) pk0 pk1).mono ?_; rintro e w5 ⟨rfl, hb5⟩; obtain ⟨hc5, hf5⟩ := bcell hb5)
          all_goals
            go_wp2_with fail
            go_ret
            exact ⟨rfl, endB HB4.out hb5⟩

end Go.Proofs.YbulkwpyDoor
