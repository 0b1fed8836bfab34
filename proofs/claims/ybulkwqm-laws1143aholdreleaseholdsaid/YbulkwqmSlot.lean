import Derived.Test.YbulkwqmRows
import Derived.WalkKit
import Derived.ProofKit
import Derived.Below
import Derived.WalkSpells
import Derived.WalkLawsBesides
import Derived.WalkSmall
import Derived.Deep.QuietTactic
import Derived.BigQuiet
import Derived.Deep.RegionWith
import Derived.Deep.DeepCutAuto
import Derived.Lib.SliceRun
namespace Go.Proofs.Ybulkwqm
open Go.ChangeShapes Go.WideShapes Go.ChangeAt Go.RowKit
set_option linter.unusedVariables false

/-! ### what the receiver leads to -/
/-- Block B is a row of the numbers xs, of kind k and element type e, no cell frozen. -/
def RowAt (B : Nat) (k : IntKind) (e : TypeId) (xs : List Int) (w : World) : Prop := w.heap[B]? = some (.cells (xs.map (Value.int k)).toArray e (0, 0))
theorem RowAt.cell {B : Nat} {k : IntKind} {e : TypeId} {xs : List Int} {w : World} (h : RowAt B k e xs w) (i : Nat) (hi : i < xs.length) : w.cell? ⟨B, i, none⟩ = some (.int k (xs.getD i 0)) := by
  rw [cell_of_row w B i _ e (0, 0) h]
  simp [List.getElem?_eq_getElem hi]
theorem RowAt.free {B : Nat} {k : IntKind} {e : TypeId} {xs : List Int} {w : World} (h : RowAt B k e xs w) (i : Nat) : w.frozen? ⟨B, i, none⟩ = false := frozen_of_row w B i _ e h
theorem RowAt.set {B : Nat} {k : IntKind} {e : TypeId} {xs : List Int} {w : World} (h : RowAt B k e xs w) (i : Nat) (v : Int) : RowAt B k e (xs.set i v) (w.setCell ⟨B, i, none⟩ (.int k v)) := by
  unfold RowAt
  rw [heap_setCell_same w B i _ e _ h]
  simp [List.map_set]
theorem RowAt.other {B : Nat} {k : IntKind} {e : TypeId} {xs : List Int} {w : World} (h : RowAt B k e xs w) (a : Addr) (v : Value) (hne : B ≠ a.block) : RowAt B k e xs (w.setCell a v) := by
  unfold RowAt
  rw [Below.heap_setCell w a v B hne]
  exact h
theorem RowAt.of_eq {B : Nat} {k : IntKind} {e : TypeId} {xs : List Int} {w w' : World} (h : RowAt B k e xs w) (he : w'.heap[B]? = w.heap[B]?) : RowAt B k e xs w' := he.trans h

/-- The receiver's own block. -/
def HeadAt (Hb Tb Sb : Nat) (q : Int) (L wd : Nat) (w : World) : Prop :=
  w.heap[Hb]? = some (.cells #[.int .i64 q, .int .i64 (wd : Int), .slice (some ⟨Tb, 0, none⟩) L L, .slice (some ⟨Sb, 0, none⟩) (L * wd) (L * wd)] 27 (0, 0))
theorem HeadAt.cells {Hb Tb Sb : Nat} {q : Int} {L wd : Nat} {w : World} (h : HeadAt Hb Tb Sb q L wd w) :
    w.cell? ⟨Hb, 0, none⟩ = some (.int .i64 q) ∧ w.cell? ⟨Hb, 1, none⟩ = some (.int .i64 (wd : Int)) ∧ w.cell? ⟨Hb, 2, none⟩ = some (.slice (some ⟨Tb, 0, none⟩) L L) ∧ w.cell? ⟨Hb, 3, none⟩ = some (.slice (some ⟨Sb, 0, none⟩) (L * wd) (L * wd)) := by
  refine ⟨?_, ?_, ?_, ?_⟩ <;> (rw [cell_of_row w Hb _ _ 27 (0, 0) h]; rfl)

/-- All of it: the receiver, the tallies (four cells a slot), the senders' words. -/
structure HP (Hb Tb Sb : Nat) (q : Int) (L wd : Nat) (ts ss : List Int) (w : World) : Prop where
  head : HeadAt Hb Tb Sb q L wd w
  rowT : RowAt Tb .i64 31 ts w
  rowS : RowAt Sb .u64 32 ss w
  lenT : ts.length = 4 * L
  lenS : ss.length = L * wd
  nHT : Hb ≠ Tb
  nHS : Hb ≠ Sb
  nTS : Tb ≠ Sb

/-- Nothing but the blocks on the list has turned. -/
structure Oth (l : List Nat) (w w' : World) : Prop where
  os : w'.os = w.os
  tape : w'.tape = w.tape
  output : w'.output = w.output
  size : w'.heap.size = w.heap.size
  block : ∀ k, k ∉ l → w'.heap[k]? = w.heap[k]?
theorem Oth.refl (l : List Nat) (w : World) : Oth l w w := ⟨rfl, rfl, rfl, rfl, fun _ _ => rfl⟩
theorem Oth.trans {l : List Nat} {a b c : World} (h : Oth l a b) (k : Oth l b c) : Oth l a c := ⟨k.os.trans h.os, k.tape.trans h.tape, k.output.trans h.output, k.size.trans h.size, fun i hi => (k.block i hi).trans (h.block i hi)⟩
theorem Oth.setCell {l : List Nat} {a w : World} (h : Oth l a w) (p : Addr) (u : Value) (hp : p.block ∈ l) : Oth l a (w.setCell p u) :=
  h.trans ⟨rfl, rfl, rfl, by simp [World.setCell], fun k hk => Below.heap_setCell _ _ _ _ (fun e => hk (e ▸ hp))⟩
theorem Oth.drewN {l : List Nat} {a w : World} (h : Oth l a w) (n : Nat) : Oth l a (w.drewN n) := h.trans ⟨rfl, rfl, rfl, rfl, fun _ _ => rfl⟩
theorem Oth.drew {l : List Nat} {a w : World} (h : Oth l a w) : Oth l a w.drew := h.trans ⟨rfl, rfl, rfl, rfl, fun _ _ => rfl⟩
theorem Oth.setRow {l : List Nat} {a w : World} (h : Oth l a w) (g : Nat) (cs : Array Value) (hg : g ∈ l) : Oth l a (w.setRow g cs) :=
  h.trans ⟨rfl, rfl, rfl, by simp [World.setRow], fun k hk => setRow_other w g k cs (fun e => hk (e ▸ hg))⟩
theorem Oth.below {l : List Nat} {w w' : World} (h : Oth l w w') (B : Nat) (hl : ∀ k ∈ l, B ≤ k) : Below B w w' := ⟨h.os, h.tape, h.output, Nat.le_of_eq h.size.symm, fun k hk => h.block k (fun hm => by have := hl k hm; omega)⟩

/-- slot, where phase h has one already. -/
theorem slot_has (Hb Tb L : Nat) (t h : Int) (w : World) (h2 : w.cell? ⟨Hb, 2, none⟩ = some (.slice (some ⟨Tb, 0, none⟩) L L)) (ht : 0 ≤ t) (hth : t ≤ h) (hh : h ≤ 9223372036854775807) (hL : 0 < L) (hlt : h - t < (L : Int)) (hm : L ≤ 1024) :
    Calls Yba.prog 10 #[.pointer (some ⟨Hb, 0, none⟩), .int .i64 t, .int .i64 h] w fun e w' => e = .returned (.int .i64 (h % (L : Int))) ∧ w = w' := by
  have hL0 : ((L : Int) == 0) = false := by simp; omega
  go_enter Yba.func10, Yba.ntmps10
  go_wp2
  refine wp_loop_rounds 1 ?_
  rw [rounds_succ]
  go_wp2
  go_ret
  exact ⟨rfl, rfl⟩

/-! ### clear on a row that is known whole -/
theorem zero32 (w : World) : (zeroValue 32).run Yba.prog w = .ok (.int .u64 0) w := by kernel_rfl
theorem run_clear_row (w : World) (ty : TypeId) (g o n c : Nat) (cur : Array Value) (hg : w.heap[g]? = some (.cells cur 32 (0, 0))) (hn : 0 < n) (hfit : o + n ≤ cur.size) :
    (Builtin.clear_ #[23] ty #[.slice (some ⟨g, o, none⟩) n c]).run Yba.prog w = .ok (.tuple #[]) (w.setRow g (cur.toList.take o ++ List.replicate n (Value.int .u64 0) ++ cur.toList.drop (o + n)).toArray) := by
  have hzc : (Builtin.zeroCells (Value.int .u64 0).cells n).toList = List.replicate n (Value.int .u64 0) := by
    simp [Builtin.zeroCells, Value.cells]
    apply List.ext_getElem
    · simp
    · intro i h1 h2
      simp [Nat.mod_one]
  have hst := run_storeCells_at Yba.prog g o 32 (List.replicate n (.int .u64 0)) 0 cur w hg (by simpa using hfit) (by intro v hv; rw [List.eq_of_mem_replicate hv]; rfl)
  obtain ⟨m, rfl⟩ : ∃ m, n = m + 1 := ⟨n - 1, by omega⟩
  have hz := zero32 w
  simp [Builtin.clear_, run_underlying Yba.underlying23, hz, hzc, hst]

def zero4 (ts : List Int) (i : Nat) : List Int := (((ts.set (i * 4) 0).set (i * 4 + 1) 0).set (i * 4 + 2) 0).set (i * 4 + 3) 0
def zeroW (ss : List Int) (o n : Nat) : List Int := ss.take o ++ List.replicate n 0 ++ ss.drop (o + n)

theorem HP.setT {Hb Tb Sb : Nat} {q : Int} {L wd : Nat} {ts ss : List Int} {w : World} (h : HP Hb Tb Sb q L wd ts ss w) (k : Nat) (v : Int) : HP Hb Tb Sb q L wd (ts.set k v) ss (w.setCell ⟨Tb, k, none⟩ (.int .i64 v)) :=
  ⟨(Below.heap_setCell w ⟨Tb, k, none⟩ _ Hb h.nHT).trans h.head, h.rowT.set k v, h.rowS.other _ _ (Ne.symm h.nTS), by simpa using h.lenT, h.lenS, h.nHT, h.nHS, h.nTS⟩
theorem HP.setS {Hb Tb Sb : Nat} {q : Int} {L wd : Nat} {ts ss : List Int} {w : World} (h : HP Hb Tb Sb q L wd ts ss w) (k : Nat) (v : Int) : HP Hb Tb Sb q L wd ts (ss.set k v) (w.setCell ⟨Sb, k, none⟩ (.int .u64 v)) :=
  ⟨(Below.heap_setCell w ⟨Sb, k, none⟩ _ Hb h.nHS).trans h.head, h.rowT.other _ _ h.nTS, h.rowS.set k v, h.lenT, by simpa using h.lenS, h.nHT, h.nHS, h.nTS⟩
theorem HP.of_heap {Hb Tb Sb : Nat} {q : Int} {L wd : Nat} {ts ss : List Int} {w w' : World} (h : HP Hb Tb Sb q L wd ts ss w) (e1 : w'.heap[Hb]? = w.heap[Hb]?) (e2 : w'.heap[Tb]? = w.heap[Tb]?) (e3 : w'.heap[Sb]? = w.heap[Sb]?) : HP Hb Tb Sb q L wd ts ss w' :=
  ⟨e1.trans h.head, e2.trans h.rowT, e3.trans h.rowS, h.lenT, h.lenS, h.nHT, h.nHS, h.nTS⟩
theorem HP.zero {Hb Tb Sb : Nat} {q : Int} {L wd : Nat} {ts ss : List Int} {w : World} (h : HP Hb Tb Sb q L wd ts ss w) (i : Nat) :
    HP Hb Tb Sb q L wd (zero4 ts i) ss ((((w.setCell ⟨Tb, i * 4, none⟩ (.int .i64 0)).setCell ⟨Tb, i * 4 + 1, none⟩ (.int .i64 0)).setCell ⟨Tb, i * 4 + 2, none⟩ (.int .i64 0)).setCell ⟨Tb, i * 4 + 3, none⟩ (.int .i64 0)) :=
  (((h.setT _ 0).setT _ 0).setT _ 0).setT _ 0
theorem HP.clearS {Hb Tb Sb : Nat} {q : Int} {L wd : Nat} {ts ss : List Int} {w : World} (h : HP Hb Tb Sb q L wd ts ss w) (o n : Nat) (hfit : o + n ≤ ss.length) :
    HP Hb Tb Sb q L wd ts (zeroW ss o n) (w.setRow Sb (((ss.map (Value.int .u64)).toArray.toList.take o ++ List.replicate n (Value.int .u64 0) ++ (ss.map (Value.int .u64)).toArray.toList.drop (o + n)).toArray)) := by
  refine ⟨(setRow_other w Sb Hb _ h.nHS).trans h.head, (setRow_other w Sb Tb _ h.nTS).trans h.rowT, ?_, h.lenT, ?_, h.nHT, h.nHS, h.nTS⟩
  · refine (setRow_heap w Sb _ _ 32 _ h.rowS).trans ?_
    simp [zeroW, List.map_take, List.map_drop]
  · have := h.lenS
    simp [zeroW]; omega

theorem clear_step {Hb Tb Sb : Nat} {q : Int} {L wd i : Nat} {ts ss : List Int} {w : World} (h : HP Hb Tb Sb q L wd ts ss w) (hw : 0 < wd) (hle : (i + 1) * wd ≤ L * wd) :
    ∃ wz, (Builtin.clear_ #[23] 0 #[.slice (some ⟨Sb, i * wd, none⟩) ((i + 1) * wd - i * wd) (L * wd - i * wd)]).run Yba.prog w.drew = .ok (.tuple #[]) wz ∧ HP Hb Tb Sb q L wd ts (zeroW ss (i * wd) wd) wz ∧ Oth [Tb, Sb] w wz := by
  have hs : (i + 1) * wd - i * wd = wd := by rw [Nat.add_mul, Nat.one_mul]; omega
  have hsum : (i + 1) * wd = i * wd + wd := by rw [Nat.add_mul, Nat.one_mul]
  have hl := h.lenS
  rw [hs]
  have hd : HP Hb Tb Sb q L wd ts ss w.drew := h.of_heap rfl rfl rfl
  refine ⟨_, run_clear_row w.drew 0 Sb (i * wd) wd _ _ hd.rowS hw (by simp; omega), hd.clearS (i * wd) wd (by omega), ((Oth.refl _ _).drew).setRow Sb _ (by simp)⟩

set_option maxHeartbeats 1000000 in
/-- release: the slot's tally and its words are zero; nothing else has turned. -/
theorem release_any (Hb Tb Sb L wd i : Nat) (q t : Int) (ts ss : List Int) (w : World) (H : HP Hb Tb Sb q L wd ts ss w)
    (ht : 0 ≤ t) (hh : t ≤ 9223372036854775807) (hL : 0 < L) (hm : L ≤ 1024) (hw : 0 < wd) (hw3 : wd ≤ 3) (hi : t % (L : Int) = (i : Int)) :
    Calls Yba.prog 7 #[.pointer (some ⟨Hb, 0, none⟩), .int .i64 t] w fun e w' => e = .returned (.tuple #[]) ∧ HP Hb Tb Sb q L wd (zero4 ts i) (zeroW ss (i * wd) wd) w' ∧ Oth [Tb, Sb] w w' := by
  have hiL : i < L := by have := Int.emod_lt_of_pos t (show (0 : Int) < L by omega); omega
  obtain ⟨c0, c1, c2, c3⟩ := H.head.cells
  have e0 := H.rowT.cell (i * 4) (by have := H.lenT; omega)
  have e1 := H.rowT.cell (i * 4 + 1) (by have := H.lenT; omega)
  have e2 := H.rowT.cell (i * 4 + 2) (by have := H.lenT; omega)
  have e3 := H.rowT.cell (i * 4 + 3) (by have := H.lenT; omega)
  have f0 := H.rowT.free (i * 4)
  have f1 := H.rowT.free (i * 4 + 1)
  have f2 := H.rowT.free (i * 4 + 2)
  have f3 := H.rowT.free (i * 4 + 3)
  have HH : Hid (HP Hb Tb Sb q L wd ts ss w) := H
  clear H
  go_enter Yba.func7, Yba.ntmps7
  go_upto_region 1 with (go_at_call 10; refine (slot_has Hb Tb L t t _ (by assumption) ht (by omega) hh hL (by omega) hm).mono ?_; rintro e w' ⟨rfl, rfl⟩)
  go_cut [] (fun wx => HP Hb Tb Sb q L wd (zero4 ts i) ss wx ∧ Oth [Tb, Sb] w wx)
  case first =>
    go_wp2
    go_meet
    case rel => exact ⟨HH.out.zero i, ((((Oth.refl _ _).setCell _ _ (by simp)).setCell _ _ (by simp)).setCell _ _ (by simp)).setCell _ _ (by simp)⟩
  case rest =>
    obtain ⟨H, hO⟩ := hcut
    clear e0 e1 e2 e3 f0 f1 f2 f3 c0 c1 c2 c3
    obtain ⟨c0, c1, c2, c3⟩ := H.head.cells
    have hle : (i + 1) * wd ≤ L * wd := Nat.mul_le_mul_right _ hiL
    have hsum : (i + 1) * wd = i * wd + wd := by rw [Nat.add_mul, Nat.one_mul]
    have hle' : L * wd ≤ 3072 := Nat.le_trans (Nat.mul_le_mul hm hw3) (by omega)
    have n1 : (0 : Int) ≤ (i : Int) * (wd : Int) := by rw [← Int.natCast_mul]; omega
    have n2 : (i : Int) * (wd : Int) ≤ ((i : Int) + 1) * (wd : Int) := by rw [← Int.natCast_mul, show ((i : Int) + 1) = ((i + 1 : Nat) : Int) from by omega, ← Int.natCast_mul]; omega
    have n3 : ((i : Int) + 1) * (wd : Int) ≤ ((L * wd : Nat) : Int) := by rw [show ((i : Int) + 1) = ((i + 1 : Nat) : Int) from by omega, ← Int.natCast_mul]; omega
    have n4 : ((i : Int) + 1) * (wd : Int) ≤ 3072 := by omega
    have HH2 : Hid (HP Hb Tb Sb q L wd (zero4 ts i) ss wc) := H
    have HO : Hid (Oth [Tb, Sb] w wc) := hO
    obtain ⟨wz, hcl, Hz, Oz⟩ := clear_step H (i := i) hw hle
    have HZ : Hid (HP Hb Tb Sb q L wd (zero4 ts i) (zeroW ss (i * wd) wd) wz) := Hz
    have OZ : Hid (Oth [Tb, Sb] wc wz) := Oz
    have hne : ¬ L * wd = i * wd := by omega
    clear H hO HH Hz Oz hsum
    go_wp2
    go_region
    all_goals
      go_wp2
      go_end0
      exact ⟨rfl, HZ.out, HO.out.trans OZ.out⟩
end Go.Proofs.Ybulkwqm
