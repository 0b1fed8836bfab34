import Derived.Test.YbulkwqmDoorBegin
import Derived.Lib.SliceRun
namespace Go.Proofs.YbulkwqmDoor
open Go.RowKit Go.Lib
set_option linter.unusedVariables false

def zs (n : Nat) : List Value := List.replicate n (.int .u8 0)
theorem made5 (n : Nat) : madeCells (Value.int .u8 0).cells (n * 1) = (zs n).toArray := by
  apply Array.ext
  · simp [madeCells, zs]
  · intro i h1 h2
    simp [madeCells, zs, Value.cells, Nat.mod_one]
theorem make5 (n m : Nat) (hn : n ≤ m) (hm : m ≤ 1000000) (C : Int) (hC : C = (m : Int)) (w : World) : (Instr.makeSlice 22 (.int .i64 (n : Int)) (.int .i64 C)).run Ybad.prog w = .ok (.slice (some ⟨w.heap.size, 0, none⟩) n m) (w.alloc (.cells (zs m).toArray 5)) := by
  subst hC
  obtain ⟨i0, hi, hz0, hz1, hz2⟩ := info_parts info5
  have h := run_make (P := Ybad.prog) w 22 5 i0 _ Ybad.underlying22 hi hz0 .i64 .i64 (n : Int) (m : Int) (by omega) (by omega) (by rw [hz2]; omega) (by omega)
  rw [hz1, Int.toNat_natCast, Int.toNat_natCast, made5] at h
  exact h
theorem copy5 (w : World) (n c : Nat) (a : Addr) (xs : List Value) (hl : xs.length = n) (hx : ∀ j u, xs[j]? = some u → w.cell? (a.add j) = some u) (h1 : ∀ u ∈ xs, u.oneCell' = true) (ty : TypeId) :
    (Builtin.copy_ #[22, 22] ty #[.slice (some ⟨w.heap.size, 0, none⟩) n n, .slice (some a) n c]).run Ybad.prog (w.alloc (.cells (zs n).toArray 5)) = .ok (.int .i64 (n : Int)) ((w.alloc (.cells (zs n).toArray 5)).setRow w.heap.size xs.toArray) := by
  subst hl
  obtain ⟨i, hi, hsz⟩ := Option.map_eq_some_iff.1 (show (Ybad.prog.info? 5).map (·.size) = some 1 by kernel_rfl)
  have hsrc : ∀ j u, xs[j]? = some u → (w.alloc (.cells (zs xs.length).toArray 5)).cell? (a.add j) = some u := fun j u hj => by
    have hlt := World.block_lt_of_cell? _ _ (hx j u hj)
    rw [((Below.refl w.heap.size w).alloc (Nat.le_refl _) _).cell hlt]
    exact hx j u hj
  have hfc := run_firstCells_some (P := Ybad.prog) (w.alloc (.cells (zs xs.length).toArray 5)) 1 xs.length a xs.length c xs (by simp) hsrc
  have hst := run_storeCells_at Ybad.prog w.heap.size 0 5 xs 0 _ (w.alloc (.cells (zs xs.length).toArray 5)) (heap_alloc_new w _) (by simp [zs]) h1
  have hcs : ((zs xs.length).toArray.toList.take (0 + 0) ++ xs ++ (zs xs.length).toArray.toList.drop (0 + 0 + xs.length)) = xs := by simp [zs]
  rw [hcs] at hst
  simp [Builtin.copy_, run_underlying Ybad.underlying22, Builtin.lenOf, sizeOf, typeInfo, hi, hsz, hfc, hst, goInt]

/-- What a []byte reads as: nil, or an address with its cells. -/
def Src (v : Value) (xs : List Value) (w : World) : Prop := (∀ u ∈ xs, u.oneCell' = true) ∧ ((v = .slice none 0 0 ∧ xs = []) ∨ ∃ a c, v = .slice (some a) xs.length c ∧ ∀ j u, xs[j]? = some u → w.cell? (a.add j) = some u)
theorem Src.later {v : Value} {xs : List Value} {w w' : World} (h : Src v xs w) (hb : Below w.heap.size w w') : Src v xs w' := by
  refine ⟨h.1, ?_⟩
  rcases h.2 with k | ⟨a, c, rfl, k⟩
  · exact .inl k
  · exact .inr ⟨a, c, rfl, fun j u hj => (hb.cell (World.block_lt_of_cell? _ _ (k j u hj))).trans (k j u hj)⟩

theorem copy_walk (v : Value) (xs : List Value) (w : World) (hs : Src v xs w) (hl : xs.length ≤ 1024) : Calls Ybad.prog 5 #[v] w fun e w' => ∃ v', e = .returned v' ∧ w'.ownsRow w.heap.size 5 1 v' xs.length xs ∧ Below w.heap.size w w' := by
  obtain ⟨h1, ⟨rfl, rfl⟩ | ⟨a, c, rfl, hx⟩⟩ := hs
  · have eq := run_eql_slice_nil (P := Ybad.prog) w 22 5 none 0 0 0 0 Ybad.underlying22
    go_enter Ybad.func5, Ybad.ntmps5
    go_wp2
    go_ret
    exact ⟨_, rfl, World.ownsRow_nil _ _ _ _, Below.refl _ _⟩
  · have mk := make5 xs.length xs.length (Nat.le_refl _) (by omega) _ rfl w
    have cp := copy5 w xs.length c a xs rfl hx h1
    have eq := run_eql_slice_nil (P := Ybad.prog) w 22 5 (some a) xs.length c 0 0 Ybad.underlying22
    clear hx
    go_enter Ybad.func5, Ybad.ntmps5
    go_wp2
    go_ret
    refine ⟨_, rfl, ⟨by simp, .inr ⟨w.heap.size, xs.length, xs.toArray, rfl, Nat.le_refl _, setRow_heap _ _ _ _ 5 _ (heap_alloc_new w _), Nat.le_refl _, by unfold maxLen; omega, by simp, by simp⟩⟩, below_setRow ((Below.refl w.heap.size w).alloc (Nat.le_refl _) _) (Nat.le_refl _) _⟩
end Go.Proofs.YbulkwqmDoor
