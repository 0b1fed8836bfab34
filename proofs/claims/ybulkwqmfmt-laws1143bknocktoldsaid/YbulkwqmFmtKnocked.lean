import Derived.Test.YbulkwqmFmtRows
import Derived.Test.YbulkwqmFmtFacts
import Derived.Test.YbulkwqmFmtIs
import Derived.Test.YbulkwqmFmtChan
import Derived.Deep.RegionWith
import Derived.Below
import Derived.WalkSpells
import Derived.WalkKit
import Derived.ProofKit
import Derived.OpenShut
import Derived.ShutString
import Derived.ChangeOld
namespace Go.Proofs.YbulkwqmFmt
open Go.ChangeShapes Go.WideShapes Go.RowKit Go.Extern.Stop Go.Stop Go.Extern Go.Conc
set_option linter.unusedVariables false

set_option maxRecDepth 100000 in
set_option maxHeartbeats 4000000 in
/-- fmt.Errorf("%w: it knocks as node %d, which node %d does not dial", errRefused, id, self): a new *fmt.wrapError that holds errRefused; what it says is fmt's. -/
theorem errorf_knock (F : Interp) (vb : Nat) (id self : Int) (a : Addr) (s : ByteArray) (w : World) (hF : F.answers w.tape) (hs : w.cell? a = some (.string s))
    (v0 : w.cell? ⟨vb, 0, none⟩ = some (.iface 102 (.pointer (some a)))) (v1 : w.cell? ⟨vb, 1, none⟩ = some (.iface 3 (.int .i64 id))) (v2 : w.cell? ⟨vb, 2, none⟩ = some (.iface 3 (.int .i64 self))) :
    Calls Ybaf.prog 6 #[.string ⟨knockFmt.toArray⟩, .slice (some ⟨vb, 0, none⟩) 3 3] w fun e w' => ∃ pb, e = .returned (.iface 90 (.pointer (some ⟨pb, 0, none⟩))) ∧ w'.cell? ⟨pb, 1, none⟩ = some (.iface 102 (.pointer (some a))) ∧ Below w.heap.size w w' := by
  have hF' : ∀ i name reading k range, w.tape i (.extern (word name reading k) range) = F name reading k := hF
  have hop := Ybaf.opPlain102_119w "fmt.errorf" a s w hs
  unfold knockFmt
  go_enter Ybaf.func6, Ybaf.ntmps6
  go_wp2
  go_ret
  refine ⟨w.heap.size, rfl, ?_, ?_⟩
  · go_simp
  · first | exact ((Below.refl _ w).alloc (Nat.le_refl _) _).drew | exact ((Below.refl _ w).drew).alloc (Nat.le_refl _) _

set_option maxRecDepth 100000 in
set_option maxHeartbeats 4000000 in
/-- A knock of a node that this one does not dial. -/
theorem knocked_refused (F : Interp) (Mb : Nat) (id self n : Int) (a : Addr) (s : ByteArray) (w : World) (hF : F.answers w.tape)
    (hg : w.cell? ⟨1, 0, none⟩ = some (.iface 102 (.pointer (some a)))) (hs : w.cell? a = some (.string s))
    (m1 : w.cell? ⟨Mb, 1, none⟩ = some (.int .i64 self)) (m2 : w.cell? ⟨Mb, 2, none⟩ = some (.int .i64 n)) (ho : id ≤ self ∨ n < id) :
    Calls Ybaf.prog 4 #[.pointer (some ⟨Mb, 0, none⟩), .int .i64 id] w fun e w' => ∃ pb, e = .returned (.iface 90 (.pointer (some ⟨pb, 0, none⟩))) ∧ w'.cell? ⟨pb, 1, none⟩ = some (.iface 102 (.pointer (some a))) ∧ Below w.heap.size w w' := by
  have HE : Hid (∀ (wx : World) (vb : Nat), Below w.heap.size w wx → wx.cell? ⟨vb, 0, none⟩ = some (.iface 102 (.pointer (some a))) → wx.cell? ⟨vb, 1, none⟩ = some (.iface 3 (.int .i64 id)) → wx.cell? ⟨vb, 2, none⟩ = some (.iface 3 (.int .i64 self)) →
      Calls Ybaf.prog 6 #[.string ⟨knockFmt.toArray⟩, .slice (some ⟨vb, 0, none⟩) 3 3] wx fun e w' => ∃ pb, e = .returned (.iface 90 (.pointer (some ⟨pb, 0, none⟩))) ∧ w'.cell? ⟨pb, 1, none⟩ = some (.iface 102 (.pointer (some a))) ∧ Below w.heap.size w w') := by
    intro wx vb hb h0 h1 h2
    have hF2 : F.answers wx.tape := by rw [hb.tape]; exact hF
    refine (errorf_knock F vb id self a s wx hF2 (cell_later hb hs) h0 h1 h2).mono ?_
    rintro e w' ⟨pb, rfl, hc, hb'⟩
    exact ⟨pb, rfl, hc, hb.trans (hb'.mono hb.size)⟩
  have lM : Mb < w.heap.size := World.block_lt_of_cell? _ _ m1
  by_cases h1 : id ≤ self
  · go_enter Ybaf.func4, Ybaf.ntmps4
    go_wp2_with fail
    go_region_with (go_at_call 6; refine (HE.out _ _ (by first | exact ((Below.refl _ w).alloc (Nat.le_refl _) _).drew | exact ((Below.refl _ w).drew).alloc (Nat.le_refl _) _) (by go_simp) (by go_simp) (by go_simp)).mono ?_; rintro e w' ⟨pb, rfl, hc, hb⟩)
    all_goals
      go_wp2
      go_ret
      exact ⟨pb, rfl, hc, hb⟩
  · have h2 : n < id := by omega
    go_enter Ybaf.func4, Ybaf.ntmps4
    go_wp2_with fail
    go_region_with (go_at_call 6; refine (HE.out _ _ (by first | exact ((Below.refl _ w).alloc (Nat.le_refl _) _).drew | exact ((Below.refl _ w).drew).alloc (Nat.le_refl _) _) (by go_simp) (by go_simp) (by go_simp)).mono ?_; rintro e w' ⟨pb, rfl, hc, hb⟩)
    all_goals
      go_wp2
      go_ret
      exact ⟨pb, rfl, hc, hb⟩
end Go.Proofs.YbulkwqmFmt
