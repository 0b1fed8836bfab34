import Derived.Test.YbulkwqmDoorBegin
import Derived.Deep.DeepCutAuto
import Derived.Lib.ItoaNum
namespace Go.Proofs.YbulkwqmDoor
open Go.RowKit Go.Lib
set_option linter.unusedVariables false

/-! ### the digits -/
theorem dec_small {m : Nat} (h : m / 10 = 0) : decDigits m = [UInt8.ofNat (48 + m % 10)] := by
  rw [decDigits_one (by omega), Nat.mod_eq_of_lt (by omega)]
theorem dec_big {m : Nat} (h : m / 10 ≠ 0) : decDigits m = decDigits (m / 10) ++ [UInt8.ofNat (48 + m % 10)] := by
  rw [decDigits, dif_neg (by omega)]
/-- m digits are left to write, k places free, ds written. -/
def Dig (M m k : Nat) (ds : List UInt8) : Prop := decDigits M = decDigits m ++ ds ∧ ds.length + k = 20 ∧ 1 ≤ k ∧ m < 10 ^ k
theorem Dig.start {M : Nat} (h : M < 18446744073709551616) : Dig M M 20 [] := ⟨by simp, by simp, by omega, by omega⟩
theorem Dig.step {M m k : Nat} {ds : List UInt8} (h : Dig M m (k + 1) ds) (hm : m / 10 ≠ 0) : Dig M (m / 10) k (UInt8.ofNat (48 + m % 10) :: ds) := by
  obtain ⟨h1, h2, h3, h4⟩ := h
  refine ⟨by rw [h1, dec_big hm]; simp, by simp; omega, ?_, ?_⟩
  · apply Nat.one_le_iff_ne_zero.2
    intro hk
    subst hk
    simp at h4
    omega
  · rw [Nat.pow_succ] at h4
    exact Nat.div_lt_of_lt_mul (by omega)
theorem Dig.last {M m k : Nat} {ds : List UInt8} (h : Dig M m (k + 1) ds) (hm : m / 10 = 0) : decDigits M = UInt8.ofNat (48 + m % 10) :: ds ∧ ds.length + (k + 1) = 20 := by
  obtain ⟨h1, h2, h3, h4⟩ := h
  exact ⟨by rw [h1, dec_small hm]; simp, h2⟩

/-! ### the buffer -/
/-- The buffer's row: k zeros, then the digits. -/
def bufCells (k : Nat) (ds : List UInt8) : Array Value := (List.replicate k (Value.int .u8 0) ++ byteCells ds).toArray
def Buf (b k : Nat) (ds : List UInt8) (w0 w : World) : Prop := w.heap[b]? = some (.cells (bufCells k ds) 41 (0, 0)) ∧ w0.grownBy w (some b)
theorem Buf.cell {b k : Nat} {ds : List UInt8} {w0 w : World} (h : Buf b (k + 1) ds w0 w) : w.cell? ⟨b, k, none⟩ = some (.int .u8 0) ∧ w.frozen? ⟨b, k, none⟩ = false := by
  constructor
  · rw [cell_of_row w b k _ 41 (0, 0) h.1]
    simp [bufCells, List.getElem?_append]
  · simp [World.frozen?, h.1]
theorem Buf.put {b k : Nat} {ds : List UInt8} {w0 w : World} (h : Buf b (k + 1) ds w0 w) (d : UInt8) : Buf b k (d :: ds) w0 (w.setCell ⟨b, k, none⟩ (.int .u8 d.toNat)) := by
  obtain ⟨h1, h2⟩ := h
  refine ⟨?_, ⟨h2.os, h2.tape, h2.output, by simp [World.setCell]; exact h2.size, fun j hj hne => ?_⟩⟩
  · have hlt : b < w.heap.size := (Array.getElem?_eq_some_iff.1 h1).1
    have : (w.setCell ⟨b, k, none⟩ (.int .u8 d.toNat)).heap[b]? = some (.cells ((bufCells (k + 1) ds).setIfInBounds k (.int .u8 d.toNat)) 41 (0, 0)) := by
      simp [World.setCell, Array.getElem?_modify, h1]
    rw [this]
    congr 2
    apply Array.ext'
    simp [bufCells, byteCells, List.replicate_succ']
  · rw [Below.heap_setCell _ _ _ _ (fun e => hne (by rw [e]))]
    exact h2.block j hj hne
theorem Buf.digits {b k : Nat} {ds : List UInt8} {w0 w : World} (h : Buf b k ds w0 w) : ∀ j u, (byteCells ds)[j]? = some u → w.cell? ((⟨b, k, none⟩ : Addr).add j) = some u := by
  intro j u hj
  have hadd : (⟨b, k, none⟩ : Addr).add j = ⟨b, k + j, none⟩ := by unfold Addr.add; split <;> simp_all
  rw [hadd, cell_of_row w b (k + j) _ 41 (0, 0) h.1]
  simp [bufCells, List.getElem?_append, hj]
/-- The buffer as it is laid, behind an owned row. -/
theorem Buf.start {w : World} : Buf w.heap.size 20 [] (w.alloc (.cells (bufCells 20 []) 41)) (w.alloc (.cells (bufCells 20 []) 41)) := ⟨heap_alloc_new w _, ⟨rfl, rfl, rfl, Nat.le_refl _, fun _ _ _ => rfl⟩⟩
theorem Own.buf {B k : Nat} {v : Value} {xs : List Value} {ds : List UInt8} {w0 w w1 : World} (h : Own B v xs w0 w) (hb : Buf w.heap.size k ds (w.alloc (.cells (bufCells 20 []) 41)) w1) : Own B v xs w0 w1 := by
  obtain ⟨o1, o2, o3, o4⟩ := h.alloc (.cells (bufCells 20 []) 41)
  have hlt := h.1.lt
  refine ⟨o1.kept hb.2 ?_, o2.grown hb.2 o4 (fun j e => by cases e; exact h.2.2.2), fun j o hj hn ho => ?_, Nat.le_trans o4 hb.2.size⟩
  · cases hv : v.ownBlock with
    | none => exact .inl rfl
    | some g => exact .inr (fun e => by cases e; have := (hlt _ hv).2; omega)
  · have hjl : j < w0.heap.size := (Array.getElem?_eq_some_iff.1 hj).1
    have hjw : j < w.heap.size := Nat.lt_of_lt_of_le hjl h.2.1.size
    rw [hb.2.block j (by simp; omega) (fun e => by cases e; omega)]
    exact o3 j o hj hn ho

theorem put8 {b k : Nat} {ds : List UInt8} {w0 w : World} (h : Buf b (k + 1) ds w0 w) (m : Nat) : Buf b k (UInt8.ofNat (48 + m % 10) :: ds) w0 (w.setCell ⟨b, k, none⟩ (.int .u8 (48 + (m : Int) % 10))) := by
  have e : ((UInt8.ofNat (48 + m % 10)).toNat : Int) = 48 + (m : Int) % 10 := by
    rw [UInt8.toNat_ofNat_of_lt' (by show _ < 256; omega)]
    omega
  have := h.put (UInt8.ofNat (48 + m % 10))
  rwa [e] at this
theorem arr41 : Ybad.prog.arrayLen 41 = 20 := by kernel_rfl
theorem elem41 : Ybad.prog.elem 41 = 5 := by kernel_rfl
theorem slice41 (b j : Nat) (hj : j < 20) (w : World) : (Instr.sliceAt 41 (.pointer (some ⟨b, 0, none⟩)) (some (.int .i64 (j : Int))) none none).run Ybad.prog w = .ok (.slice (some ⟨b, j, none⟩) (20 - j) (20 - j)) w := by
  obtain ⟨i0, hi, hz0, hz1, hz2⟩ := info_parts info5
  rw [run_sliceAt_array_l w 41 ⟨b, 0, none⟩ (by rw [arr41, elem41]; exact Ybad.underlying41) .i64 (j : Int) (by omega) (by rw [arr41]; omega), arr41, elem41]
  have hadd : (⟨b, 0, none⟩ : Addr).add j = ⟨b, j, none⟩ := by unfold Addr.add; split <;> simp_all
  simp [sizeOf, typeInfo, hi, hz1, slicedAt, hadd]
  omega

theorem dec_walk (B : Nat) (v : Int) (sv : Value) (xs : List Value) (w : World) (h0 : -9223372036854775808 ≤ v) (h1 : v ≤ 9223372036854775807) (hown : w.ownsRow B 5 1 sv xs.length xs) (hBw : B ≤ w.heap.size) (hlim : xs.length + 64 ≤ 1000000) :
    Calls Ybad.prog 7 #[sv, .int .i64 v] w fun e w' => ∃ v', e = .returned v' ∧ Own B v' (xs ++ byteCells (itoa v)) w w' := by
  obtain ⟨i0, hi, hz0, hz1, hz2⟩ := info_parts info5
  go_enter Ybad.func7, Ybad.ntmps7
  go_upto_if 11 with fail
  go_cut [0, 5, 11] from 12 to 16 (fun s u b wx => ∃ (pre : List UInt8) (M : Nat), u = .int .u64 (M : Int) ∧ Hid (itoa v = pre ++ decDigits M ∧ M < 18446744073709551616 ∧ pre.length ≤ 1) ∧ Own B s (xs ++ byteCells pre) w wx)
  case first =>
    by_cases hv : v < 0
    · go_wp2_with (at_builtin; refine wpList_append_own _ rfl (.tmp 12) (.tmp 13) 22 rfl B 5 i0 (.int .u8 0) 1 1 Ybad.underlying22 hi hz0 hz1 hz2 rfl (by decide) sv xs.length xs rfl (hown.alloc _) ⟨w.heap.size, 0, none⟩ 1 1 [.int .u8 45] rfl rfl one_cells (by intro u hu; simp at hu; subst hu; rfl) (by unfold maxLen; omega) (by omega) (by simp; omega) ?_; intro v1 w1 hown1 hgr1 _; have O1 := ((Own.start hown hBw).alloc _).appended hown1 hgr1 rfl; clear hown1 hgr1)
      go_meet
      case rel => exact ⟨[45], v.natAbs, congrArg (Value.int .u64) (by simp only [IntKind.wrap_u64]; omega), ⟨by unfold itoa; rw [if_pos hv]; rfl, by omega, by simp⟩, O1⟩
    · go_wp2
      go_meet
      case rel => exact ⟨[], v.toNat, congrArg (Value.int .u64) (by simp only [IntKind.wrap_u64]; omega), ⟨by unfold itoa; rw [if_neg (by omega)]; rfl, by omega, by simp⟩, by simpa [byteCells] using Own.start hown hBw⟩
  case rest =>
    obtain ⟨pre, M, rfl, HM, O⟩ := hcut
    have HB : Hid (Buf wc.heap.size 20 [] (wc.alloc (.cells (bufCells 20 []) 41)) (wc.alloc (.cells (bufCells 20 []) 41))) := Buf.start
    have HO : Hid (∀ k ds w1, Buf wc.heap.size k ds (wc.alloc (.cells (bufCells 20 []) 41)) w1 → Own B u0 (xs ++ byteCells pre) w w1) := fun _ _ _ h => O.buf h
    clear O
    go_wp2_with fail
    go_loopw [5, 7] (fun u i wr => ∃ (m k : Nat) (ds : List UInt8), u = .int .u64 (m : Int) ∧ i = .int .i64 (k : Int) ∧ Hid (Dig M m k ds) ∧ Hid (Buf wc.heap.size k ds (wc.alloc (.cells (bufCells 20 []) 41)) wr)) (fun _ i _ => (RowKit.intOf i).toNat)
    case atStart => exact ⟨M, 20, [], rfl, rfl, Dig.start HM.2.1, HB⟩
    case round =>
      obtain ⟨m, k, ds, rfl, rfl, HD, HB1⟩ := hrel
      obtain ⟨j, rfl⟩ : ∃ j, k = j + 1 := ⟨k - 1, by have := HD.out.2.2.1; omega⟩
      have j20 : j < 20 := by have := HD.out.2.1; omega
      have hm : m < 100000000000000000000 := by
        have := HD.out.2.2.2
        exact Nat.lt_of_lt_of_le this (show 10 ^ (j + 1) ≤ 10 ^ 20 from Nat.pow_le_pow_right (by omega) (by omega))
      obtain ⟨e1, e2⟩ := HB1.out.cell
      by_cases hz : m / 10 = 0
      · have hzi : (m : Int) / 10 = 0 := by omega
        have sl := slice41 wc.heap.size j j20
        have HZ : Hid (m / 10 = 0) := hz
        clear hz
        have L1 : (byteCells (UInt8.ofNat (48 + m % 10) :: ds)).length = 20 - j := by
          have := HD.out.2.1
          simp [byteCells]
          omega
        have L2 : (xs ++ byteCells pre).length ≤ xs.length + 1 := by
          have := HM.out.2.2
          simp [byteCells]
          omega
        have F1 : ∀ u ∈ byteCells (UInt8.ofNat (48 + m % 10) :: ds), u.oneCell' = true := by
          intro u hu
          obtain ⟨_, _, rfl⟩ := List.mem_map.1 hu
          rfl
        have HL1 : Hid ((byteCells (UInt8.ofNat (48 + m % 10) :: ds)).length = 20 - j) := L1
        have O1 := HO.out _ _ _ (put8 HB1.out m)
        have HO1 : Hid (Own B u0 (xs ++ byteCells pre) w (wr.setCell ⟨wc.heap.size, j, none⟩ (.int .u8 (48 + (m : Int) % 10)))) := O1
        have HL2 : Hid ((xs ++ byteCells pre).length ≤ xs.length + 1) := L2
        have HF : Hid (∀ u ∈ byteCells (UInt8.ofNat (48 + m % 10) :: ds), u.oneCell' = true) := F1
        clear L1 L2 F1 O1
        go_wp2_with (at_builtin; refine wpList_append_own _ rfl (.tmp 33) (.tmp 35) 22 rfl B 5 i0 (.int .u8 0) 1 1 Ybad.underlying22 hi hz0 hz1 hz2 rfl (by decide) u0 (xs ++ byteCells pre).length (xs ++ byteCells pre) rfl HO1.out.1 ⟨wc.heap.size, j, none⟩ (20 - j) (20 - j) (byteCells (UInt8.ofNat (48 + m % 10) :: ds)) rfl (by rw [HL1.out, Nat.mul_one]) (put8 HB1.out m).digits HF.out (by have := HL2.out; unfold maxLen; omega) (by have := HL2.out; omega) HO1.out.2.2.2 ?_; intro v2 w2 hown2 hgr2 _; have O2 := HO1.out.appended hown2 hgr2 HL1.out; clear hown2 hgr2)
        go_ret
        refine ⟨_, rfl, ?_⟩
        have e : byteCells (itoa v) = byteCells pre ++ byteCells (UInt8.ofNat (48 + m % 10) :: ds) := by
          rw [HM.out.1, (HD.out.last HZ.out).1]
          simp [byteCells]
        rw [e, ← List.append_assoc]
        exact O2
      · have hzi : ¬ (m : Int) / 10 = 0 := by omega
        have hj1 : 1 ≤ j := (HD.out.step hz).2.2.1
        have hb1 : ((m : Int) / 10 == 0) = false := by simp; omega
        have hb2 : ((j : Int) == 0) = false := by simp; omega
        have HZ : Hid (¬ m / 10 = 0) := hz
        clear hz
        go_wp2
        go_roundw
        case rel => exact ⟨m / 10, j, _, by go_num, rfl, HD.out.step HZ.out, put8 HB1.out m⟩
        case measure => simp [RowKit.intOf]
end Go.Proofs.YbulkwqmDoor
