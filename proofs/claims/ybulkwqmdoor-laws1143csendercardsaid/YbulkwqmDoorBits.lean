import Derived.Test.YbulkwqmDoorCopy
import Derived.Test.YbulkwqmDoorDec
import Derived.Test.YbulkwqmDoorEq
import Derived.Lib.SmallJoins
namespace Go.Proofs.YbulkwqmDoor
open Go.RowKit Go.Lib
set_option linter.unusedVariables false

theorem grown_of_below {w w' : World} (h : Below w.heap.size w w') : w.grownBy w' none := ⟨h.os, h.tape, h.output, h.size, fun k hk _ => h.block k hk⟩
theorem own_later {B n : Nat} {v : Value} {xs : List Value} {w w' : World} (h : w.ownsRow B 5 1 v n xs) (hb : Below w.heap.size w w') : w'.ownsRow B 5 1 v n xs :=
  h.kept (grown_of_below hb) (by cases v.ownBlock <;> simp)
theorem grown_refl (w : World) (r : Option Nat) : w.grownBy w r := ⟨rfl, rfl, rfl, Nat.le_refl _, fun _ _ _ => rfl⟩

/-- append(want, b...), b nil or not. -/
theorem wpList_append_src {w : World} {ops : Array Oper} {rest : List Oper} {o : Oper} {a : Act} {Q : Exit → Act → World → Prop} (hgd : o.guard = none) (s x : Operand)
    (ho : o.op = .call { callee := .builtin .append, args := #[s, x], argTypes := #[22, 22] }) (base : Nat) (v : Value) (xs : List Value) (hs : a.eval s = v) (hown : w.ownsRow base 5 1 v xs.length xs)
    (sv : Value) (news : List Value) (hx : a.eval x = sv) (hsrc : Src sv news w) (hl : xs.length + news.length ≤ 1000000) (hbase : base ≤ w.heap.size)
    (h : ∀ v' w', w'.ownsRow base 5 1 v' (xs.length + news.length) (xs ++ news) → w.grownBy w' v.ownBlock → wpList Ybad.prog ops Q rest (a.put o.dst v') w') : wpList Ybad.prog ops Q (o :: rest) a w := by
  obtain ⟨i0, hi, hz0, hz1, hz2⟩ := info_parts info5
  obtain ⟨h1, ⟨rfl, rfl⟩ | ⟨ad, c, rfl, hc⟩⟩ := hsrc
  · refine wpList_append_own_none hgd s x 22 ho base 5 i0 1 Ybad.underlying22 hi v xs.length xs hs hown hx (h v w ?_ (grown_refl _ _))
    simpa using hown
  · exact wpList_append_own _ hgd s x 22 ho base 5 i0 (.int .u8 0) 1 1 Ybad.underlying22 hi hz0 hz1 hz2 rfl (by decide) v xs.length xs hs hown ad news.length c news hx (by simp) hc h1 (by unfold maxLen; omega) (by omega) hbase fun v' w' k1 k2 _ => h v' w' k1 k2

/-- All cells are bytes. -/
def Bytes (xs : List Value) : Prop := ∃ zs : List Int, xs = zs.map (Value.int .u8)
theorem Bytes.append {xs ys : List Value} (h : Bytes xs) (k : Bytes ys) : Bytes (xs ++ ys) := by
  obtain ⟨a, rfl⟩ := h
  obtain ⟨b, rfl⟩ := k
  exact ⟨a ++ b, by simp⟩
theorem bytes_one (z : Int) : Bytes [.int .u8 z] := ⟨[z], rfl⟩
theorem bytes_byteCells (l : List UInt8) : Bytes (byteCells l) := ⟨l.map fun b => (b.toNat : Int), by simp [byteCells]⟩
theorem bytes_strCells (s : ByteArray) : Bytes (strCells s) := ⟨s.data.toList.map fun b => (b.toNat : Int), by simp [strCells]⟩
theorem own_cells {B : Nat} {v : Value} {xs : List Value} {w : World} (h : w.ownsRow B 5 1 v xs.length xs) (hp : 0 < xs.length) : ∃ g c, v = .slice (some ⟨g, 0, none⟩) xs.length c ∧ ∀ j u, xs[j]? = some u → w.cell? ⟨g, j, none⟩ = some u := by
  obtain ⟨g, c, rfl⟩ := Joins.ownsRow_form h hp
  refine ⟨g, c, rfl, fun j u hj => ?_⟩
  have hadd : (⟨g, 0, none⟩ : Addr).add j = ⟨g, j, none⟩ := by unfold Addr.add; split <;> simp_all
  rw [← hadd]
  exact h.cells rfl j u hj
theorem eq_owned (B1 B2 : Nat) (v1 v2 : Value) (xs : List Value) (w : World) (h1 : w.ownsRow B1 5 1 v1 xs.length xs) (h2 : w.ownsRow B2 5 1 v2 xs.length xs) (hb : Bytes xs) (hp : 0 < xs.length) (hl : xs.length ≤ 1000000) :
    Calls Ybad.prog 8 #[v1, v2] w fun e w' => e = .returned (.bool true) ∧ Below w.heap.size w w' := by
  obtain ⟨g1, c1, rfl, k1⟩ := own_cells h1 hp
  obtain ⟨g2, c2, rfl, k2⟩ := own_cells h2 hp
  obtain ⟨zs, rfl⟩ := hb
  have hz : ∀ j, j < (zs.map (Value.int .u8)).length → (zs.map (Value.int .u8))[j]? = some (.int .u8 (zs.getD j 0)) := by
    intro j hj
    have hj' : j < zs.length := by simpa using hj
    simp [hj']
  exact eq_walk g1 g2 _ c1 c2 (fun j => zs.getD j 0) w hl (fun j hj => k1 j _ (hz j hj)) (fun j hj => k2 j _ (hz j hj))
end Go.Proofs.YbulkwqmDoor
