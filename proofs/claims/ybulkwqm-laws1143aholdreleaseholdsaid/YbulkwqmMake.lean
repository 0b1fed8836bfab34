import Derived.Test.YbulkwqmSlot
namespace Go.Proofs.Ybulkwqm
open Go.ChangeShapes Go.WideShapes Go.ChangeAt Go.RowKit
set_option linter.unusedVariables false

/-! ### make -/
def zs (n : Nat) : List Int := List.replicate n 0
theorem info31 : (Yba.prog.info? 31).map (fun i => (i.zero, i.size, i.bytes)) = some (some (.agg #[.int .i64 0, .int .i64 0, .int .i64 0, .int .i64 0]), 4, 32) := by kernel_rfl
theorem info32 : (Yba.prog.info? 32).map (fun i => (i.zero, i.size, i.bytes)) = some (some (.int .u64 0), 1, 8) := by kernel_rfl
theorem made31 (n : Nat) : madeCells (Value.agg #[.int .i64 0, .int .i64 0, .int .i64 0, .int .i64 0]).cells (n * 4) = ((zs (4 * n)).map (Value.int .i64)).toArray := by
  apply Array.ext
  · simp [madeCells, zs]; omega
  · intro i h1 h2
    simp [madeCells, zs, Value.cells]
    have : i % 4 < 4 := Nat.mod_lt _ (by omega)
    generalize i % 4 = j at this
    match j, this with
    | 0, _ => rfl
    | 1, _ => rfl
    | 2, _ => rfl
    | 3, _ => rfl
theorem made32 (n : Nat) : madeCells (Value.int .u64 0).cells (n * 1) = ((zs n).map (Value.int .u64)).toArray := by
  apply Array.ext
  · simp [madeCells, zs]
  · intro i h1 h2
    simp [madeCells, zs, Value.cells, Nat.mod_one]

theorem make31 (n : Nat) (hn : n ≤ 1024) (w : World) : (Instr.makeSlice 25 (.int .i64 (n : Int)) (.int .i64 (n : Int))).run Yba.prog w = .ok (.slice (some ⟨w.heap.size, 0, none⟩) n n) (w.alloc (.cells ((zs (4 * n)).map (Value.int .i64)).toArray 31)) := by
  obtain ⟨i0, hi, hz0, hz1, hz2⟩ := info_parts info31
  have h := run_make (P := Yba.prog) w 25 31 i0 _ Yba.underlying25 hi hz0 .i64 .i64 (n : Int) (n : Int) (by omega) (by omega) (by rw [hz2]; omega) (by omega)
  rw [hz1, Int.toNat_natCast, made31] at h
  exact h
theorem make32 (n : Nat) (hn : n ≤ 4096) (w : World) (m : Int) (hm : m = (n : Int)) : (Instr.makeSlice 23 (.int .i64 m) (.int .i64 m)).run Yba.prog w = .ok (.slice (some ⟨w.heap.size, 0, none⟩) n n) (w.alloc (.cells ((zs n).map (Value.int .u64)).toArray 32)) := by
  subst hm
  obtain ⟨i0, hi, hz0, hz1, hz2⟩ := info_parts info32
  have h := run_make (P := Yba.prog) w 23 32 i0 _ Yba.underlying23 hi hz0 .i64 .i64 (n : Int) (n : Int) (by omega) (by omega) (by rw [hz2]; omega) (by omega)
  rw [hz1, Int.toNat_natCast, made32] at h
  exact h

/-! ### picking out of a slice that came in -/
def Src (k : IntKind) (a : Option Addr) (len : Nat) (w : World) : Prop := len = 0 ∨ ∃ b off, a = some ⟨b, off, none⟩ ∧ ∀ i, i < len → ∃ v, w.cell? ⟨b, off + i, none⟩ = some (.int k v)
theorem Src.later {k : IntKind} {a : Option Addr} {len : Nat} {w w' : World} (h : Src k a len w) (hb : Below w.heap.size w w') : Src k a len w' := by
  rcases h with h | ⟨b, off, rfl, h⟩
  · exact .inl h
  · exact .inr ⟨b, off, rfl, fun i hi => (h i hi).elim fun v hv => ⟨v, cell_later hb hv⟩⟩

theorem pick_any (a : Option Addr) (len cap : Nat) (i : Int) (w : World) (h0 : 0 ≤ i) (hs : Src .i64 a len w) :
    Calls Yba.prog 5 #[.slice a len cap, .int .i64 i] w fun e w' => ∃ v : Int, e = .returned (.int .i64 v) ∧ w = w' := by
  obtain ⟨n, rfl⟩ := Int.eq_ofNat_of_zero_le h0
  by_cases hlt : n < len
  · rcases hs with rfl | ⟨b, off, rfl, hc⟩
    · omega
    · obtain ⟨v, hv⟩ := hc n hlt
      clear hc
      go_enter Yba.func5, Yba.ntmps5
      go_wp2
      go_ret
      exact ⟨_, rfl, rfl⟩
  · clear hs
    go_enter Yba.func5, Yba.ntmps5
    go_wp2
    go_ret
    exact ⟨_, rfl, rfl⟩
theorem picku_any (a : Option Addr) (len cap : Nat) (i : Int) (w : World) (h0 : 0 ≤ i) (hs : Src .u64 a len w) :
    Calls Yba.prog 6 #[.slice a len cap, .int .i64 i] w fun e w' => ∃ v : Int, e = .returned (.int .u64 v) ∧ w = w' := by
  obtain ⟨n, rfl⟩ := Int.eq_ofNat_of_zero_le h0
  by_cases hlt : n < len
  · rcases hs with rfl | ⟨b, off, rfl, hc⟩
    · omega
    · obtain ⟨v, hv⟩ := hc n hlt
      clear hc
      go_enter Yba.func6, Yba.ntmps6
      go_wp2
      go_ret
      exact ⟨_, rfl, rfl⟩
  · clear hs
    go_enter Yba.func6, Yba.ntmps6
    go_wp2
    go_ret
    exact ⟨_, rfl, rfl⟩

/-! ### equality of tallies -/
theorem info3 : (Yba.prog.info? 3).map (·.size) = some 1 := by kernel_rfl
theorem part3 (xs : Array Value) (i : Nat) (v : Value) (w : World) (h : xs[i]? = some v) : (part 3 xs i).run Yba.prog w = .ok v w := by
  simp [part, h]
theorem eq29_same (n : Nat) (b c d : Int) (w : World) : (Op.equalIn (n + 2) 29 (.agg #[.int .i64 b, .int .i64 c, .int .i64 d]) (.agg #[.int .i64 b, .int .i64 c, .int .i64 d])).run Yba.prog w = .ok true w := by
  obtain ⟨j, hj, hs⟩ := Option.map_eq_some_iff.1 info3
  have e : ∀ (a : Int) (w : World), (Op.equalIn (n + 1) 3 (.int .i64 a) (.int .i64 a)).run Yba.prog w = .ok true w := fun a w => by simp [Op.equalIn, run_underlying Yba.underlying3]
  have p0 := part3 #[.int .i64 b, .int .i64 c, .int .i64 d] 0 _ w rfl
  have p1 := part3 #[.int .i64 b, .int .i64 c, .int .i64 d] 1 _ w rfl
  have p2 := part3 #[.int .i64 b, .int .i64 c, .int .i64 d] 2 _ w rfl
  rw [Op.equalIn]
  simp [run_underlying Yba.underlying29, sizeOf, typeInfo, hj, hs, List.range'_succ, p0, p1, p2, e]
theorem neq31_same (a b c d : Int) (w : World) : (binOp .neq 31 (.agg #[.int .i64 a, .int .i64 b, .int .i64 c, .int .i64 d]) (.agg #[.int .i64 a, .int .i64 b, .int .i64 c, .int .i64 d])).run Yba.prog w = .ok (.bool false) w := by
  have h := eq29_same 9997 b c d w
  rw [run_neq_struct]
  simp [go_sem, Yba.underlying31, h]
end Go.Proofs.Ybulkwqm
