import Derived.Test.YbulkwpyRows
import Derived.WalkKit
import Derived.ProofKit
import Derived.Below
import Derived.WalkSpells
import Derived.WalkLawsBesides
import Derived.Deep.QuietTactic
import Derived.BigQuiet
import Derived.LaidEqlPtr
import Derived.Lib.Builder
namespace Go.Proofs.Ybulkwpy
open Go.ChangeShapes Go.WideShapes Go.ChangeAt Go.RowKit
set_option linter.unusedVariables false

/-- An empty slice: nil, false. -/
theorem pay_empty (a : Option Addr) (cap : Nat) (w : World) :
    Calls Yba.prog 5 #[.slice a 0 cap] w fun e w' => e = .returned (.tuple #[.slice none 0 0, .bool false]) ∧ w' = w := by
  go_enter Yba.func5, Yba.ntmps5
  go_wp2
  go_ret2
  exact ⟨rfl, rfl⟩

theorem and15 (c : Int) (h0 : 0 ≤ c) (h1 : c < 256) : bits .and .u8 c 15 = c % 16 := u8_and15 _ h0 h1

set_option maxHeartbeats 400000 in
theorem pay_version (b off n cap : Nat) (c : Int) (w : World) (hn : 0 < n) (h0 : 0 ≤ c) (h1 : c < 256)
    (hc : w.cell? ⟨b, off, none⟩ = some (.int .u8 c)) (hv : (c / 16 != 4) = true) :
    Calls Yba.prog 5 #[.slice (some ⟨b, off, none⟩) n cap] w fun e w' => e = .returned (.tuple #[.slice none 0 0, .bool false]) ∧ w' = w := by
  have hp : (0 : Int) < (n : Int) := by omega
  have hne : ((n : Int) == 0) = false := by simp; omega
  have h15 := and15 c h0 h1
  go_enter Yba.func5, Yba.ntmps5
  go_wp2
  go_ret2
  exact ⟨rfl, rfl⟩

set_option maxHeartbeats 400000 in
theorem pay_short (b off n cap : Nat) (c : Int) (w : World) (hn : 0 < n) (h0 : 0 ≤ c) (h1 : c < 256)
    (hc : w.cell? ⟨b, off, none⟩ = some (.int .u8 c)) (hv : (c / 16 != 4) = false) (hs : c % 16 * 4 < 20) :
    Calls Yba.prog 5 #[.slice (some ⟨b, off, none⟩) n cap] w fun e w' => e = .returned (.tuple #[.slice none 0 0, .bool false]) ∧ w' = w := by
  have hp : (0 : Int) < (n : Int) := by omega
  have hne : ((n : Int) == 0) = false := by simp; omega
  have h15 := and15 c h0 h1
  go_enter Yba.func5, Yba.ntmps5
  go_wp2
  go_ret2
  exact ⟨rfl, rfl⟩

set_option maxHeartbeats 400000 in
theorem pay_long (b off n cap : Nat) (c : Int) (w : World) (hn : 0 < n) (h0 : 0 ≤ c) (h1 : c < 256)
    (hc : w.cell? ⟨b, off, none⟩ = some (.int .u8 c)) (hv : (c / 16 != 4) = false) (hs : ¬ c % 16 * 4 < 20) (hl : (n : Int) < c % 16 * 4) :
    Calls Yba.prog 5 #[.slice (some ⟨b, off, none⟩) n cap] w fun e w' => e = .returned (.tuple #[.slice none 0 0, .bool false]) ∧ w' = w := by
  have hp : (0 : Int) < (n : Int) := by omega
  have hne : ((n : Int) == 0) = false := by simp; omega
  have h15 := and15 c h0 h1
  go_enter Yba.func5, Yba.ntmps5
  go_wp2
  go_ret2
  exact ⟨rfl, rfl⟩

set_option maxHeartbeats 400000 in
theorem pay_edge (b off n : Nat) (c : Int) (w : World) (hn : 0 < n) (h0 : 0 ≤ c) (h1 : c < 256) (hcap : n ≤ (c % 16 * 4).toNat)
    (hc : w.cell? ⟨b, off, none⟩ = some (.int .u8 c)) (hv : (c / 16 != 4) = false) (hs : ¬ c % 16 * 4 < 20) (hl : ¬ (n : Int) < c % 16 * 4) :
    Calls Yba.prog 5 #[.slice (some ⟨b, off, none⟩) n (c % 16 * 4).toNat] w fun e w' => e = .returned (.tuple #[.slice (some ⟨b, off, none⟩) 0 0, .bool true]) ∧ w' = w := by
  have hp : (0 : Int) < (n : Int) := by omega
  have hne : ((n : Int) == 0) = false := by simp; omega
  have h15 := and15 c h0 h1
  go_enter Yba.func5, Yba.ntmps5
  go_wp2
  go_ret2
  exact ⟨rfl, rfl⟩

set_option maxHeartbeats 400000 in
theorem pay_good (b off n cap : Nat) (c : Int) (w : World) (hn : 0 < n) (h0 : 0 ≤ c) (h1 : c < 256) (hcap : n ≤ cap)
    (hc : w.cell? ⟨b, off, none⟩ = some (.int .u8 c)) (hv : (c / 16 != 4) = false) (hs : ¬ c % 16 * 4 < 20) (hl : ¬ (n : Int) < c % 16 * 4) :
    Calls Yba.prog 5 #[.slice (some ⟨b, off, none⟩) n cap] w fun e w' => ∃ o : Nat, e = .returned (.tuple #[.slice (some ⟨b, o, none⟩) (n - (c % 16 * 4).toNat) (cap - (c % 16 * 4).toNat), .bool true]) ∧ (0 < n - (c % 16 * 4).toNat → o = off + (c % 16 * 4).toNat) ∧ w' = w := by
  have hp : (0 : Int) < (n : Int) := by omega
  have hne : ((n : Int) == 0) = false := by simp; omega
  have h15 := and15 c h0 h1
  by_cases hq : cap = (c % 16 * 4).toNat
  · subst hq
    refine (pay_edge b off n c w hn h0 h1 hcap hc hv hs hl).mono ?_
    rintro e w' ⟨rfl, rfl⟩
    have hz : n - (c % 16 * 4).toNat = 0 := by omega
    rw [hz, Nat.sub_self]
    exact ⟨off, rfl, by omega, rfl⟩
  · go_enter Yba.func5, Yba.ntmps5
    go_wp2
    go_ret2
    exact ⟨_, rfl, fun _ => rfl, rfl⟩

/-- What ipv4Payload hands back of a slice of n bytes (room for cap) at block b, offset off, whose first byte is c. -/
def Res (b off n cap : Nat) (c : Int) (v : Value) (ok : Bool) : Prop :=
  (c / 16 = 4 ∧ 20 ≤ c % 16 * 4 ∧ c % 16 * 4 ≤ (n : Int) ∧ ok = true ∧ ∃ o : Nat, v = .slice (some ⟨b, o, none⟩) (n - (c % 16 * 4).toNat) (cap - (c % 16 * 4).toNat) ∧ (0 < n - (c % 16 * 4).toNat → o = off + (c % 16 * 4).toNat)) ∨
  (¬ (c / 16 = 4 ∧ 20 ≤ c % 16 * 4 ∧ c % 16 * 4 ≤ (n : Int)) ∧ ok = false ∧ v = .slice none 0 0)

theorem pay_any (b off n cap : Nat) (c : Int) (w : World) (hn : 0 < n) (h0 : 0 ≤ c) (h1 : c < 256) (hcap : n ≤ cap)
    (hc : w.cell? ⟨b, off, none⟩ = some (.int .u8 c)) :
    Calls Yba.prog 5 #[.slice (some ⟨b, off, none⟩) n cap] w fun e w' => ∃ v ok, e = .returned (.tuple #[v, .bool ok]) ∧ Res b off n cap c v ok ∧ w' = w := by
  by_cases hv : c / 16 = 4
  · have hv' : (c / 16 != 4) = false := by simp [hv]
    by_cases hs : c % 16 * 4 < 20
    · refine (pay_short b off n cap c w hn h0 h1 hc hv' hs).mono ?_
      rintro e w' ⟨rfl, rfl⟩
      exact ⟨_, _, rfl, .inr ⟨by omega, rfl, rfl⟩, rfl⟩
    · by_cases hl : (n : Int) < c % 16 * 4
      · refine (pay_long b off n cap c w hn h0 h1 hc hv' hs hl).mono ?_
        rintro e w' ⟨rfl, rfl⟩
        exact ⟨_, _, rfl, .inr ⟨by omega, rfl, rfl⟩, rfl⟩
      · refine (pay_good b off n cap c w hn h0 h1 hcap hc hv' hs hl).mono ?_
        rintro e w' ⟨o, rfl, ho, rfl⟩
        exact ⟨_, _, rfl, .inl ⟨hv, by omega, by omega, rfl, o, rfl, ho⟩, rfl⟩
  · have hv' : (c / 16 != 4) = true := by simp [hv]
    refine (pay_version b off n cap c w hn h0 h1 hc hv').mono ?_
    rintro e w' ⟨rfl, rfl⟩
    exact ⟨_, _, rfl, .inr ⟨by omega, rfl, rfl⟩, rfl⟩

/-! ### the check -/
theorem info5 : (Yba.prog.info? 5).map (·.size) = some 1 := by kernel_rfl
theorem info5_some : ∃ j, Yba.prog.info? 5 = some j := by
  have h := info5
  cases hj : Yba.prog.info? 5 with
  | none => rw [hj] at h; simp at h
  | some j => exact ⟨j, rfl⟩

theorem check_empty (a : Option Addr) (cap : Nat) (w : World) :
    Calls Yba.prog 6 #[.slice a 0 cap, .slice none 0 0, .bool false] w fun e w' => e = .returned (.bool true) ∧ w' = w := by
  have qn : ∀ (w : World) (a : Option Addr) (n c : Nat), (binOp .eql 22 (.slice a n c) (.slice none 0 0)).run Yba.prog w = .ok (.bool a.isNone) w := fun w a n c => Lib.run_eql_slice_nil w _ _ a n c 0 0 Yba.underlying22
  go_enter Yba.func6, Yba.ntmps6
  go_wp2
  go_ret
  exact ⟨rfl, rfl⟩

set_option maxHeartbeats 400000 in
theorem check_bad (b off n cap : Nat) (c : Int) (w : World) (hn : 0 < n) (h0 : 0 ≤ c) (h1 : c < 256)
    (hc : w.cell? ⟨b, off, none⟩ = some (.int .u8 c)) (hbad : ¬ (c / 16 = 4 ∧ 20 ≤ c % 16 * 4 ∧ c % 16 * 4 ≤ (n : Int))) :
    Calls Yba.prog 6 #[.slice (some ⟨b, off, none⟩) n cap, .slice none 0 0, .bool false] w fun e w' => e = .returned (.bool true) ∧ w' = w := by
  have hp : (0 : Int) < (n : Int) := by omega
  have hne : ((n : Int) == 0) = false := by simp; omega
  have qn : ∀ (w : World) (a : Option Addr) (n c : Nat), (binOp .eql 22 (.slice a n c) (.slice none 0 0)).run Yba.prog w = .ok (.bool a.isNone) w := fun w a n c => Lib.run_eql_slice_nil w _ _ a n c 0 0 Yba.underlying22
  by_cases hv : c / 16 = 4
  · have hv' : (c / 16 == 4) = true := by simp [hv]
    by_cases hs : 20 ≤ c % 16 * 4
    · have hl : ¬ c % 16 * 4 ≤ (n : Int) := fun h => hbad ⟨hv, hs, h⟩
      clear hbad hv
      go_enter Yba.func6, Yba.ntmps6
      go_wp2
      go_ret
      exact ⟨rfl, rfl⟩
    · clear hbad hv
      go_enter Yba.func6, Yba.ntmps6
      go_wp2
      go_ret
      exact ⟨rfl, rfl⟩
  · have hv' : (c / 16 == 4) = false := by simp [hv]
    clear hbad hv
    go_enter Yba.func6, Yba.ntmps6
    go_wp2
    go_ret
    exact ⟨rfl, rfl⟩

set_option maxHeartbeats 400000 in
theorem check_good (b off n cap : Nat) (c : Int) (w : World) (hn : 0 < n) (h0 : 0 ≤ c) (h1 : c < 256) (hm : n ≤ maxLen)
    (hc : w.cell? ⟨b, off, none⟩ = some (.int .u8 c)) (hv : c / 16 = 4) (hs : 20 ≤ c % 16 * 4) (hl : c % 16 * 4 ≤ (n : Int)) (o : Nat) (ho : 0 < n - (c % 16 * 4).toNat → o = off + (c % 16 * 4).toNat) :
    Calls Yba.prog 6 #[.slice (some ⟨b, off, none⟩) n cap, .slice (some ⟨b, o, none⟩) (n - (c % 16 * 4).toNat) (cap - (c % 16 * 4).toNat), .bool true] w fun e w' => e = .returned (.bool true) ∧ ∃ k, w' = w.drewN k := by
  have hp : (0 : Int) < (n : Int) := by omega
  have hne : ((n : Int) == 0) = false := by simp; omega
  unfold maxLen at hm
  have qn : ∀ (w : World) (a : Option Addr) (n c : Nat), (binOp .eql 22 (.slice a n c) (.slice none 0 0)).run Yba.prog w = .ok (.bool a.isNone) w := fun w a n c => Lib.run_eql_slice_nil w _ _ a n c 0 0 Yba.underlying22
  have hv' : (c / 16 == 4) = true := by simp [hv]
  clear hv
  by_cases hz : 0 < n - (c % 16 * 4).toNat
  · obtain rfl := ho hz
    clear ho
    have hz' : (0 : Int) < ((n - (c % 16 * 4).toNat : Nat) : Int) := by omega
    have hz2 : c % 16 * 4 < (n : Int) := by omega
    have hz3 : 0 ≤ c % 16 * 4 := by omega
    have hq : (((n - (c % 16 * 4).toNat : Nat) : Int) != (n : Int) - c % 16 * 4) = false := by simp; omega
    have hpp : ∀ (w : World) (a : Addr), (binOp .neq 29 (.pointer (some a)) (.pointer (some a))).run Yba.prog w = .ok (.bool false) w := fun w a => info5_some.elim fun _ hj => Lib.run_neq_ptr_same w a Yba.underlying29 hj
    go_enter Yba.func6, Yba.ntmps6
    go_wp2
    go_quiet (fail)
    go_wp2
    go_ret
    exact ⟨rfl, _, rfl⟩
  · clear ho
    have hz' : n - (c % 16 * 4).toNat = 0 := by omega
    have hq : ((0 : Int) != (n : Int) - c % 16 * 4) = false := by simp; omega
    rw [hz']
    clear hz
    have hd : decide ((0 : Int) < 0) = false := by decide
    go_enter Yba.func6, Yba.ntmps6
    go_wp2
    go_quiet (fail)
    go_wp2
    go_ret
    exact ⟨rfl, _, rfl⟩

/-- The check says yes to what ipv4Payload hands back. -/
theorem check_any (b off n cap : Nat) (c : Int) (v : Value) (ok : Bool) (w : World) (hn : 0 < n) (h0 : 0 ≤ c) (h1 : c < 256) (hm : n ≤ maxLen)
    (hc : w.cell? ⟨b, off, none⟩ = some (.int .u8 c)) (hr : Res b off n cap c v ok) :
    Calls Yba.prog 6 #[.slice (some ⟨b, off, none⟩) n cap, v, .bool ok] w fun e w' => e = .returned (.bool true) ∧ ∃ k, w' = w.drewN k := by
  rcases hr with ⟨hv, hs, hl, rfl, o, rfl, ho⟩ | ⟨hbad, rfl, rfl⟩
  · exact check_good b off n cap c w hn h0 h1 hm hc hv hs hl o ho
  · refine (check_bad b off n cap c w hn h0 h1 hc hbad).mono ?_
    rintro e w' ⟨rfl, rfl⟩
    exact ⟨rfl, 0, rfl⟩

end Go.Proofs.Ybulkwpy
