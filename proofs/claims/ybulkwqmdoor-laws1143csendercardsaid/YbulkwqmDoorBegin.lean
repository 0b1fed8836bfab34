import Derived.Test.YbulkwqmDoorShelf
import Derived.WalkKit
import Derived.Lib.AppendStr
import Derived.Lib.OwnKind
import Derived.Lib.ItoaLen
import Derived.Laws.AppendOwnNone
import Derived.Laws.CopyOwn
namespace Go.Proofs.YbulkwqmDoor
open Go.RowKit Go.Lib
set_option linter.unusedVariables false

theorem info5 : (Ybad.prog.info? 5).map (fun i => (i.zero, i.size, i.bytes)) = some (some (.int .u8 0), 1, 1) := by kernel_rfl

/-- The slice value v owns the cells xs among the blocks from B on; below B, and in every block that is no row of bytes, the world is as w0 was. -/
def Own (B : Nat) (v : Value) (xs : List Value) (w0 w : World) : Prop := w.ownsRow B 5 1 v xs.length xs ∧ Below B w0 w ∧ OthersKept 5 none w0 w ∧ B ≤ w.heap.size

theorem Own.start {B : Nat} {v : Value} {xs : List Value} {w : World} (h : w.ownsRow B 5 1 v xs.length xs) (hB : B ≤ w.heap.size) : Own B v xs w w := ⟨h, Below.refl _ _, OthersKept.refl _ _ _, hB⟩
theorem Own.alloc {B : Nat} {v : Value} {xs : List Value} {w0 w : World} (h : Own B v xs w0 w) (o : Obj) : Own B v xs w0 (w.alloc o) := ⟨h.1.alloc o, h.2.1.alloc h.2.2.2 o, h.2.2.1.alloc o, by have := h.2.2.2; simp; omega⟩
theorem Own.appended {B m : Nat} {v v' : Value} {xs news : List Value} {w0 w w1 : World} (h : Own B v xs w0 w) (h1 : w1.ownsRow B 5 1 v' (xs.length + m) (xs ++ news)) (hg : w.grownBy w1 v.ownBlock) (hm : news.length = m) : Own B v' (xs ++ news) w0 w1 := by
  refine ⟨by rw [List.length_append, hm]; exact h1, h.2.1.grown hg h.2.2.2 fun k hk => (h.1.lt k hk).1, h.2.2.1.grown hg (ownsRow_kind h.1), Nat.le_trans h.2.2.2 hg.size⟩
theorem Own.called {B m : Nat} {v v' : Value} {xs news : List Value} {w0 w w1 : World} (h : Own B v xs w0 w) (h1 : w1.ownsRow B 5 1 v' (xs.length + m) (xs ++ news)) (hb : Below B w w1) (hk : OthersKept 5 none w w1) (hm : news.length = m) : Own B v' (xs ++ news) w0 w1 :=
  ⟨by rw [List.length_append, hm]; exact h1, h.2.1.trans hb, h.2.2.1.trans hk, Nat.le_trans h.2.2.2 hb.size⟩
theorem Own.block {B T : Nat} {v : Value} {xs : List Value} {w0 w : World} {cs : Array Value} (h : Own B v xs w0 w) (hT : w0.heap[T]? = some (.cells cs 32 (0, 0))) : w.heap[T]? = some (.cells cs 32 (0, 0)) :=
  h.2.2.1 T _ hT (by simp) (fun c fz e => by simp at e)
theorem cell_of_block {w : World} {T j : Nat} {cs : Array Value} {u : Value} (hT : w.heap[T]? = some (.cells cs 32 (0, 0))) (h : cs[j]? = some u) : w.cell? ⟨T, j, none⟩ = some u := by
  rw [cell_of_row w T j cs 32 (0, 0) hT, h]
theorem one_cells {w : World} {u : Value} {t : TypeId} : ∀ j x, ([u] : List Value)[j]? = some x → (w.alloc (.cells #[u] t)).cell? ((⟨w.heap.size, 0, none⟩ : Addr).add j) = some x := by
  intro j x hj
  match j, hj with
  | 0, hj => simp at hj; subst hj; simp [Addr.add]

/-! ### begin -/
theorem begin_walk (B T : Nat) (cs : Array Value) (tm : Int) (sv : Value) (xs : List Value) (kind : ByteArray) (w : World) (hT : w.heap[T]? = some (.cells cs 32 (0, 0))) (ht : cs[3]? = some (.int .i64 tm))
    (h0 : -9223372036854775808 ≤ tm) (h1 : tm ≤ 9223372036854775807) (hown : w.ownsRow B 5 1 sv xs.length xs) (hBw : B ≤ w.heap.size) (hlim : xs.length + kind.size + 64 ≤ 1000000) (htab : TabBelow Ybad.prog B w (Rows.lawS1143CBeginRow.named.getD 0 default) .u64 pow10Tab) :
    Calls Ybad.prog 6 #[.pointer (some ⟨T, 0, none⟩), sv, .string kind] w fun e w' => ∃ v', e = .returned v' ∧ Own B v' (xs ++ strCells kind ++ [.int .u8 32] ++ byteCells (itoa tm)) w w' := by
  obtain ⟨i0, hi, hz0, hz1, hz2⟩ := info_parts info5
  have HT : Hid (w.heap[T]? = some (.cells cs 32 (0, 0))) := hT
  have HC : Hid (cs[3]? = some (.int .i64 tm)) := ht
  clear hT ht
  go_enter Ybad.func6, Ybad.ntmps6
  go_wp2_with (first
    | (at_builtin; refine wpList_append_own_string _ rfl (.tmp 7) (.tmp 8) 22 9 rfl B 5 i0 Ybad.underlying22 Ybad.underlying9 hi hz0 hz1 hz2 sv xs.length xs rfl hown kind rfl (by unfold maxLen; omega) (by omega) hBw ?_; intro v1 w1 hown1 hgr1 _; have O1 := (Own.start hown hBw).appended hown1 hgr1 (strCells_length _); clear hown1 hgr1)
    | (at_builtin; refine wpList_append_own _ rfl (.tmp 10) (.tmp 11) 22 rfl B 5 i0 (.int .u8 0) 1 1 Ybad.underlying22 hi hz0 hz1 hz2 rfl (by decide) v1 (xs ++ strCells kind).length (xs ++ strCells kind) rfl (O1.1.alloc _) ⟨w1.heap.size, 0, none⟩ 1 1 [.int .u8 32] rfl rfl one_cells (by intro u hu; simp at hu; subst hu; rfl) (by rw [List.length_append, strCells_length]; unfold maxLen; omega) (by rw [List.length_append, strCells_length]; omega) (by have := O1.2.2.2; simp; omega) ?_; intro v2 w2 hown2 hgr2 _; have O2 := (O1.alloc _).appended hown2 hgr2 rfl; clear hown2 hgr2; have hcell := cell_of_block (O2.block HT) HC)
    | (go_at_call 10; refine (Ybad.appendInt B _ tm h0 h1 v2 _ w2 O2.1 O2.2.2.2 (by simp only [List.length_append, strCells_length, List.length_cons, List.length_nil]; omega) (htab.on O2.2.1)).mono ?_; rintro e w3 ⟨v3, rfl, hown3, hb3, hk3⟩))
  go_ret
  exact ⟨_, rfl, O2.called hown3 hb3 hk3 (by simp [byteCells])⟩
end Go.Proofs.YbulkwqmDoor
