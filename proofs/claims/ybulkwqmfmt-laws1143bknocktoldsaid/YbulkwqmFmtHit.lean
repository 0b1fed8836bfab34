import Derived.Test.YbulkwqmFmtKnocked
namespace Go.Proofs.YbulkwqmFmt
open Go.ChangeShapes Go.WideShapes Go.RowKit Go.Extern.Stop Go.Stop Go.Extern Go.Conc
set_option linter.unusedVariables false

theorem setChan_cell (w : World) (c cap : Nat) (buf : Array Value) (cl : Bool) (s r : Nat) (tm : Bool) (p : Addr) (h : c ≠ p.block) : (w.setChan c cap buf cl s r tm).cell? p = w.cell? p := by
  simp [World.cell?, World.setChan, Array.getElem?_setIfInBounds_ne h]
theorem chan_ne_cell {w : World} {c cap : Nat} {buf : Array Value} {cl : Bool} {s r : Nat} {tm : Bool} {p : Addr} {v : Value} (hc : w.heap[c]? = some (.chan cap buf cl s r tm)) (hp : w.cell? p = some v) : c ≠ p.block := by
  rintro rfl
  simp [World.cell?, hc] at hp

set_option maxRecDepth 100000 in
set_option maxHeartbeats 4000000 in
/-- A knock of a node that this one dials: no knock waits. -/
theorem knocked_room (Mb Pb Bp C i s r : Nat) (self n : Int) (len cap : Nat) (v : Value) (tm : Bool) (w : World)
    (hg : w.cell? ⟨0, 0, none⟩ = some v) (m1 : w.cell? ⟨Mb, 1, none⟩ = some (.int .i64 self)) (m2 : w.cell? ⟨Mb, 2, none⟩ = some (.int .i64 n)) (m33 : w.cell? ⟨Mb, 33, none⟩ = some (.slice (some ⟨Pb, 0, none⟩) len cap))
    (hp : w.cell? ⟨Pb, i, none⟩ = some (.pointer (some ⟨Bp, 0, none⟩))) (hb : w.cell? ⟨Bp, 8, none⟩ = some (.chan (some C))) (hc : w.heap[C]? = some (.chan 1 #[] false s r tm))
    (h1 : self < (i : Int)) (h2 : (i : Int) ≤ n) (hi : i < len) (hl : len ≤ 100) :
    Calls Ybaf.prog 4 #[.pointer (some ⟨Mb, 0, none⟩), .int .i64 i] w fun e w' => e = .returned v ∧ w' = w.setChan C 1 #[.agg #[]] false (s + 1) r tm := by
  have hg' := (setChan_cell w C 1 #[.agg #[]] false (s + 1) r tm ⟨0, 0, none⟩ (chan_ne_cell hc hg)).trans hg
  have n1 : ¬ (i : Int) ≤ self := by omega
  have n2 : ¬ n < (i : Int) := by omega
  refine NWp.calls Ybaf.func4 rfl ?_ (by rintro _ ⟨h, _⟩; cases h)
  simp only [Ybaf.ntmps4, List.size_toArray, List.length_cons, List.length_nil, Nat.reduceAdd, Nat.reduceSub, Array.replicate_succ, Array.replicate_zero, List.push_toArray, List.append_toArray, List.nil_append, List.cons_append]
  refine NWp.seq (NWp.of_wp ?_)
  go_wp2
  refine NWp.seq (NWp.of_wp ?_)
  go_wp2
  refine NWp.seq (NWp.seq (NWp.of_wp ?_))
  go_wp2
  refine NWp.seq (NWp.region (show NOps _ _ [0, 1, 2] _ _ _ from ?_))
  refine NOps.select_room (v := .agg #[]) (z := .agg #[]) (d := some 40) rfl rfl rfl (by go_simp; rfl) hc (by simp) ?_
  refine NOps.value (v := .int .i64 0) (d := some 41) (w' := w.setChan C 1 #[.agg #[]] false (s + 1) r tm) rfl rfl rfl (by go_simp) ?_
  refine NOps.value (v := .bool true) (d := some 42) (w' := w.setChan C 1 #[.agg #[]] false (s + 1) r tm) rfl rfl rfl (by go_simp) ?_
  refine NOps.of_wpOps ?_
  simp only [wpOps, Exit.then, Act.put, List.setIfInBounds_toArray, List.set_cons_succ, List.set_cons_zero]
  refine NWp.of_wp ?_
  go_wp2
  refine NWp.of_wp ?_
  go_wp2
  go_ret
  exact ⟨rfl, rfl⟩
set_option maxRecDepth 100000 in
set_option maxHeartbeats 4000000 in
/-- A knock of a node that this one dials: a knock waits already. -/
theorem knocked_full (Mb Pb Bp C i s r : Nat) (self n : Int) (len cap : Nat) (v : Value) (tm : Bool) (buf : Array Value) (w : World)
    (hg : w.cell? ⟨0, 0, none⟩ = some v) (m1 : w.cell? ⟨Mb, 1, none⟩ = some (.int .i64 self)) (m2 : w.cell? ⟨Mb, 2, none⟩ = some (.int .i64 n)) (m33 : w.cell? ⟨Mb, 33, none⟩ = some (.slice (some ⟨Pb, 0, none⟩) len cap))
    (hp : w.cell? ⟨Pb, i, none⟩ = some (.pointer (some ⟨Bp, 0, none⟩))) (hb : w.cell? ⟨Bp, 8, none⟩ = some (.chan (some C))) (hc : w.heap[C]? = some (.chan 1 buf false s r tm))
    (h1 : self < (i : Int)) (h2 : (i : Int) ≤ n) (hi : i < len) (hl : len ≤ 100) (hf : 1 ≤ buf.size) :
    Calls Ybaf.prog 4 #[.pointer (some ⟨Mb, 0, none⟩), .int .i64 i] w fun e w' => e = .returned v ∧ w' = w := by
  have n1 : ¬ (i : Int) ≤ self := by omega
  have n2 : ¬ n < (i : Int) := by omega
  refine NWp.calls Ybaf.func4 rfl ?_ (by rintro _ ⟨h, _⟩; cases h)
  simp only [Ybaf.ntmps4, List.size_toArray, List.length_cons, List.length_nil, Nat.reduceAdd, Nat.reduceSub, Array.replicate_succ, Array.replicate_zero, List.push_toArray, List.append_toArray, List.nil_append, List.cons_append]
  refine NWp.seq (NWp.of_wp ?_)
  go_wp2
  refine NWp.seq (NWp.of_wp ?_)
  go_wp2
  refine NWp.seq (NWp.seq (NWp.of_wp ?_))
  go_wp2
  refine NWp.seq (NWp.region (show NOps _ _ [0, 1, 2] _ _ _ from ?_))
  refine NOps.select_full (v := .agg #[]) (z := .agg #[]) (d := some 40) rfl rfl rfl (by go_simp; rfl) hc hf ?_
  refine NOps.value (v := .int .i64 (-1)) (d := some 41) (w' := w) rfl rfl rfl (by go_simp) ?_
  refine NOps.value (v := .bool false) (d := some 42) (w' := w) rfl rfl rfl (by go_simp) ?_
  refine NOps.of_wpOps ?_
  simp only [wpOps, Exit.then, Act.put, List.setIfInBounds_toArray, List.set_cons_succ, List.set_cons_zero]
  refine NWp.of_wp ?_
  go_wp2
  refine NWp.of_wp ?_
  go_wp2
  go_ret
  exact ⟨rfl, rfl⟩
end Go.Proofs.YbulkwqmFmt
