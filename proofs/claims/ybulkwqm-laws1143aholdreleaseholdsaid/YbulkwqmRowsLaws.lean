import Derived.Test.YbulkwqmMake
import Derived.Lib.SlBuf
namespace Go.Proofs.Ybulkwqm
open Go.ChangeShapes Go.WideShapes Go.ChangeAt Go.RowKit
set_option linter.unusedVariables false

/-- The receiver and its two tables stand among the call's own blocks; of what was there nothing has turned. -/
def Filled (Hb Tb Sb : Nat) (q : Int) (n wd : Nat) (w wx : World) : Prop := (∃ ts ss, HP Hb Tb Sb q n wd ts ss wx) ∧ Below w.heap.size w wx ∧ w.heap.size ≤ Hb ∧ w.heap.size ≤ Tb ∧ w.heap.size ≤ Sb

theorem heap_at (w : World) (o : Obj) (k : Nat) (hk : k = w.heap.size) : (w.alloc o).heap[k]? = some o := by subst hk; exact heap_alloc_new w o

theorem filled_TS (q : Int) (n wd : Nat) (w : World) :
    Filled (w.heap.size + 1 + 1) w.heap.size (w.heap.size + 1) q n wd w ((((w.alloc (.cells ((zs (4 * n)).map (Value.int .i64)).toArray 31)).alloc (.cells ((zs (n * wd)).map (Value.int .u64)).toArray 32)).alloc
      (.cells #[.int .i64 q, .int .i64 (wd : Int), .slice (some ⟨w.heap.size, 0, none⟩) n n, .slice (some ⟨w.heap.size + 1, 0, none⟩) (n * wd) (n * wd)] 27)).drew) := by
  refine ⟨⟨zs (4 * n), zs (n * wd), ?_, ?_, ?_, by simp [zs], by simp [zs], by omega, by omega, by omega⟩, ((((Below.refl _ _).alloc (Nat.le_refl _) _).alloc (by simp) _).alloc (by simp; omega) _).drew, by omega, by omega, by omega⟩
  · exact heap_at _ _ _ (by simp)
  · show _ = _
    refine (Below.heap_alloc _ _ _ (by simp; omega)).trans ((Below.heap_alloc _ _ _ (by simp)).trans (heap_alloc_new w _))
  · show _ = _
    refine (Below.heap_alloc _ _ _ (by simp)).trans ?_
    have := heap_alloc_new (w.alloc (.cells ((zs (4 * n)).map (Value.int .i64)).toArray 31)) (.cells ((zs (n * wd)).map (Value.int .u64)).toArray 32)
    simpa using this
theorem filled_ST (q : Int) (n wd : Nat) (w : World) :
    Filled (w.heap.size + 1 + 1) (w.heap.size + 1) w.heap.size q n wd w ((((w.alloc (.cells ((zs (n * wd)).map (Value.int .u64)).toArray 32)).alloc (.cells ((zs (4 * n)).map (Value.int .i64)).toArray 31)).alloc
      (.cells #[.int .i64 q, .int .i64 (wd : Int), .slice (some ⟨w.heap.size + 1, 0, none⟩) n n, .slice (some ⟨w.heap.size, 0, none⟩) (n * wd) (n * wd)] 27)).drew) := by
  refine ⟨⟨zs (4 * n), zs (n * wd), ?_, ?_, ?_, by simp [zs], by simp [zs], by omega, by omega, by omega⟩, ((((Below.refl _ _).alloc (Nat.le_refl _) _).alloc (by simp) _).alloc (by simp; omega) _).drew, by omega, by omega, by omega⟩
  · exact heap_at _ _ _ (by simp)
  · show _ = _
    refine (Below.heap_alloc _ _ _ (by simp)).trans ?_
    have := heap_alloc_new (w.alloc (.cells ((zs (n * wd)).map (Value.int .u64)).toArray 32)) (.cells ((zs (4 * n)).map (Value.int .i64)).toArray 31)
    simpa using this
  · show _ = _
    refine (Below.heap_alloc _ _ _ (by simp; omega)).trans ((Below.heap_alloc _ _ _ (by simp)).trans (heap_alloc_new w _))

theorem Filled.drew {Hb Tb Sb : Nat} {q : Int} {n wd : Nat} {w wx : World} (h : Filled Hb Tb Sb q n wd w wx) : Filled Hb Tb Sb q n wd w wx.drew := h.elim fun a b => ⟨a.elim fun ts a => a.elim fun ss H => ⟨ts, ss, H.of_heap rfl rfl rfl⟩, b.1.drew, b.2⟩
theorem Filled.setT {Hb Tb Sb : Nat} {q : Int} {n wd : Nat} {w wx : World} (h : Filled Hb Tb Sb q n wd w wx) (k : Nat) (v : Int) : Filled Hb Tb Sb q n wd w (wx.setCell ⟨Tb, k, none⟩ (.int .i64 v)) := h.elim fun a b => ⟨a.elim fun ts a => a.elim fun ss H => ⟨_, _, H.setT k v⟩, b.1.setCell b.2.2.1 _, b.2⟩
theorem Filled.setS {Hb Tb Sb : Nat} {q : Int} {n wd : Nat} {w wx : World} (h : Filled Hb Tb Sb q n wd w wx) (k : Nat) (v : Int) : Filled Hb Tb Sb q n wd w (wx.setCell ⟨Sb, k, none⟩ (.int .u64 v)) := h.elim fun a b => ⟨a.elim fun ts a => a.elim fun ss H => ⟨_, _, H.setS k v⟩, b.1.setCell b.2.2.2 _, b.2⟩
theorem Filled.head {Hb Tb Sb : Nat} {q : Int} {n wd : Nat} {w wx : World} (h : Filled Hb Tb Sb q n wd w wx) :
    wx.cell? ⟨Hb, 0, none⟩ = some (.int .i64 q) ∧ wx.cell? ⟨Hb, 1, none⟩ = some (.int .i64 (wd : Int)) ∧ wx.cell? ⟨Hb, 2, none⟩ = some (.slice (some ⟨Tb, 0, none⟩) n n) ∧ wx.cell? ⟨Hb, 3, none⟩ = some (.slice (some ⟨Sb, 0, none⟩) (n * wd) (n * wd)) := by
  obtain ⟨⟨ts, ss, H⟩, _⟩ := h
  exact H.head.cells
theorem Filled.cellT {Hb Tb Sb : Nat} {q : Int} {n wd : Nat} {w wx : World} (h : Filled Hb Tb Sb q n wd w wx) (k : Nat) (hk : k < 4 * n) : (∃ v, wx.cell? ⟨Tb, k, none⟩ = some (.int .i64 v)) ∧ wx.frozen? ⟨Tb, k, none⟩ = false := by
  obtain ⟨⟨ts, ss, H⟩, _⟩ := h
  exact ⟨⟨_, H.rowT.cell k (by rw [H.lenT]; exact hk)⟩, H.rowT.free k⟩
theorem Filled.cellS {Hb Tb Sb : Nat} {q : Int} {n wd : Nat} {w wx : World} (h : Filled Hb Tb Sb q n wd w wx) (k : Nat) (hk : k < n * wd) : (∃ v, wx.cell? ⟨Sb, k, none⟩ = some (.int .u64 v)) ∧ wx.frozen? ⟨Sb, k, none⟩ = false := by
  obtain ⟨⟨ts, ss, H⟩, _⟩ := h
  exact ⟨⟨_, H.rowS.cell k (by rw [H.lenS]; exact hk)⟩, H.rowS.free k⟩

/-! ### copying a whole row into a row of the same length -/
theorem run_copy_whole (w : World) (dT elem : TypeId) (k : IntKind) (sz ty g s n : Nat) (old xs : List Int) (hu : Yba.prog.underlying dT = some (.slice elem)) (hs : (Yba.prog.info? elem).map (·.size) = some sz)
    (hg : RowAt g k elem old w) (hx : RowAt s k elem xs w) (hl : old.length = n * sz) (hlx : xs.length = n * sz) (hne : g ≠ s) :
    ∃ w', (Builtin.copy_ #[dT, dT] ty #[.slice (some ⟨g, 0, none⟩) n n, .slice (some ⟨s, 0, none⟩) n n]).run Yba.prog w = .ok (.int .i64 (n : Int)) w' ∧ RowAt g k elem xs w' ∧ Oth [g] w w' := by
  have hsrc : ∀ j v, (xs.map (Value.int k))[j]? = some v → w.cell? ((⟨s, 0, none⟩ : Addr).add j) = some v := by
    intro j v hj
    have hadd : (⟨s, 0, none⟩ : Addr).add j = ⟨s, j, none⟩ := by unfold Addr.add; split <;> simp_all
    rw [hadd, cell_of_row w s j _ elem (0, 0) hx]
    simpa using hj
  have hfc := run_firstCells_some (P := Yba.prog) w sz n ⟨s, 0, none⟩ n n (xs.map (Value.int k)) (by simpa using hlx) hsrc
  have hst := run_storeCells_at Yba.prog g 0 elem (xs.map (Value.int k)) 0 _ w hg (by simp; omega) (by intro v hv; obtain ⟨_, _, rfl⟩ := List.mem_map.1 hv; rfl)
  have hlen : xs.length = old.length := by omega
  have hcs : ((old.map (Value.int k)).toArray.toList.take (0 + 0) ++ xs.map (Value.int k) ++ (old.map (Value.int k)).toArray.toList.drop (0 + 0 + (xs.map (Value.int k)).length)) = xs.map (Value.int k) := by
    simp [hlen]
  rw [hcs] at hst
  obtain ⟨i, hi, hsz⟩ := Option.map_eq_some_iff.1 hs
  refine ⟨w.setRow g (xs.map (Value.int k)).toArray, ?_, setRow_heap w g _ _ elem _ hg, (Oth.refl _ _).setRow g _ (by simp)⟩
  simp [Builtin.copy_, run_underlying hu, Builtin.lenOf, sizeOf, typeInfo, hi, hsz, hfc, hst, goInt]
end Go.Proofs.Ybulkwqm
