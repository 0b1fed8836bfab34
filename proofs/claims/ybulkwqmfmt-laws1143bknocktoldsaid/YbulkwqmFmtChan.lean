import Derived.Test.YbulkwqmFmtChecked
import Derived.Conc.LoneCalls
import Derived.Conc.LoneSelect
import Derived.WalkKit
namespace Go.Proofs.YbulkwqmFmt
open Go Go.Conc

/-! A WALK THAT MAY COMMUNICATE. The kit's 'Code.wp' speaks of every frame, early ones too; a communication is a step of the machine's only in a frame that is not early. So: the same of those frames alone. -/
def NWp (P : Program) (c : Code) (Q : Exit → Act → World → Prop) (a : Act) (w : World) : Prop :=
  ∀ (b : Frame) (k : List Item) (cs : List Frame), b.kind ≠ .early → ∃ e a' w', Q e a' w' ∧ Arrives P (lone (b.at a (.code c :: k)) cs w) b k cs e a' w'
/-- What is left of a region. -/
def NOps (P : Program) (ops : Array Oper) (l : List Nat) (Q : Exit → Act → World → Prop) (a : Act) (w : World) : Prop :=
  ∀ (b : Frame) (k : List Item) (cs : List Frame), b.kind ≠ .early → ∃ e a' w', Q e a' w' ∧ Arrives P (lone (b.at a (.inRegion ops l :: k)) cs w) b k cs e a' w'

section
variable {P : Program} {Q : Exit → Act → World → Prop} {a : Act} {w : World}

theorem NWp.of_wp {c : Code} (h : c.wp P Q a w) : NWp P c Q a w := fun b k cs _ => h b k cs

theorem NWp.seq {x y : Code} (h : NWp P x (Exit.then (NWp P y Q) Q) a w) : NWp P (Code.seq x y) Q a w := by
  intro b k cs hb
  obtain ⟨e, a₁, w₁, hq, harr⟩ := h b (.code y :: k) cs hb
  by_cases he : e = .normal
  · subst he
    obtain ⟨e₂, a₂, w₂, hq₂, harr₂⟩ := hq b k cs hb
    exact ⟨e₂, a₂, w₂, hq₂, .of_steps (.head step_seq harr) harr₂⟩
  · refine ⟨e, a₁, w₁, ?_, .of_steps (.one step_seq) (.pass (x := .code y) rfl (fun _ _ => .inl he) harr)⟩
    cases e <;> first | exact hq | exact absurd rfl he

theorem NWp.cond {c : Operand} {x y : Code} {t : Bool} (hc : a.eval c = .bool t) (h : NWp P (if t then x else y) Q a w) : NWp P (Code.cond c x y) Q a w :=
  fun b k cs hb => let ⟨e, a', w', q, r⟩ := h b k cs hb; ⟨e, a', w', q, .of_steps (.one (step_cond hc)) r⟩

theorem NWp.block {id : Nat} {c : Code} (h : NWp P c (Exit.inBlock id Q) a w) : NWp P (Code.block id c) Q a w := by
  intro b k cs hb
  obtain ⟨e, a₁, w₁, hq, harr⟩ := h b (.inBlock id :: k) cs hb
  -- the kit's own rule for a block, asked at a code that does just this
  have key : ∃ e' a' w', Q e' a' w' ∧ Arrives P (lone (b.at a (.code c :: .inBlock id :: k)) cs w) b k cs e' a' w' := by
    cases e with
    | normal => exact ⟨.normal, a₁, w₁, hq, Steps.trans harr (.one step_inBlock)⟩
    | exit i =>
      by_cases hi : i = id
      · refine ⟨.normal, a₁, w₁, by simpa [Exit.inBlock, hi] using hq, harr k (by simp [exitTo, hi])⟩
      · refine ⟨.exit i, a₁, w₁, by simpa [Exit.inBlock, hi] using hq, fun k' hk => harr k' ?_⟩
        have hne : (id == i) = false := by simpa using fun h : id = i => hi h.symm
        simp [exitTo, hne, hk]
    | goto l => exact ⟨.goto l, a₁, w₁, hq, fun k' hk => harr k' (by simp [gotoIn, hk])⟩
    | ret => exact ⟨.ret, a₁, w₁, hq, harr⟩
    | panic ch => exact ⟨.panic ch, a₁, w₁, hq, harr⟩
    | outgrown => exact ⟨.outgrown, a₁, w₁, hq, harr⟩
  obtain ⟨e', a', w', hq', harr'⟩ := key
  exact ⟨e', a', w', hq', .of_steps (.one step_block) harr'⟩

theorem NWp.loop {c : Code} (I : Nat → Act → World → Prop) (n : Nat) (h₀ : I n a w)
    (round : ∀ n a w, I n a w → NWp P c (Exit.then (fun a' w' => ∃ m, m < n ∧ I m a' w') Q) a w) : NWp P (Code.loop c) Q a w := by
  intro b k cs hb
  have key : ∀ n a w, I n a w → ∃ e a' w', Q e a' w' ∧ Arrives P (lone (b.at a (.code c :: .inLoop c :: k)) cs w) b k cs e a' w' := by
    intro n
    induction n using Nat.strongRecOn with
    | _ n ih =>
      intro a w hI
      obtain ⟨e, a₁, w₁, hq, harr⟩ := round n a w hI b (.inLoop c :: k) cs hb
      by_cases he : e = .normal
      · subst he
        obtain ⟨m, hm, hI₁⟩ := hq
        obtain ⟨e₂, a₂, w₂, hq₂, harr₂⟩ := ih m hm a₁ w₁ hI₁
        exact ⟨e₂, a₂, w₂, hq₂, .of_steps (Steps.trans harr (.one step_inLoop)) harr₂⟩
      · refine ⟨e, a₁, w₁, ?_, .pass (x := .inLoop c) rfl (fun _ _ => .inl he) harr⟩
        cases e <;> first | exact hq | exact absurd rfl he
  obtain ⟨e, a', w', hq, harr⟩ := key n a w h₀
  exact ⟨e, a', w', hq, .of_steps (.one step_loop) harr⟩

theorem NWp.region {id : Nat} {ops : Array Oper} (h : NOps P ops (List.range ops.size) Q a w) : NWp P (Code.region id ops false) Q a w :=
  fun b k cs hb => let ⟨e, a', w', q, r⟩ := h b k cs hb; ⟨e, a', w', q, .of_steps (.one step_region) r⟩

theorem NOps.of_wpOps {ops : Array Oper} {l : List Nat} (h : wpOps P ops Q l a w) : NOps P ops l Q a w := fun b k cs _ => wp_ops l a w h b k cs

/-- One operation that yields a value. -/
theorem NOps.value {ops : Array Oper} {i : Nat} {rest : List Nat} {o : Oper} {v : Value} {w' : World} {d : Option Tmp} (ho : ops[i]? = some o) (hd : o.dst = d) (hw : Region.wanted o (yielded ops a.tmps) = true)
    (hr : (execOp a.eval o).run P w = .ok (.value v) w') (h : NOps P ops rest Q (a.put d v) w') : NOps P ops (i :: rest) Q a w := by
  subst hd
  intro b k cs hb
  obtain ⟨e, a', w'', hq, harr⟩ := h b k cs hb
  refine ⟨e, a', w'', hq, .of_steps (.one (step_lone_go ?_)) harr⟩
  have hg := stepG_op (P := P) (b := b) (k := k) (cs := cs) (w := w) (rest := rest) ho hw
  have hfin : (b.at a (.inRegion ops (i :: rest) :: k)).finish v = b.at (a.put o.dst v) (.inRegion ops rest :: k) := by rw [Frame.finish_at, ho]; rfl
  rw [hg, ← hfin]; simp [stepG.apply, hr]

/-- A send with room. -/
theorem NOps.send {ops : Array Oper} {i : Nat} {rest : List Nat} {o : Oper} {c cap s r : Nat} {buf : Array Value} {v z : Value} {tm : Bool} {w₁ : World} {d : Option Tmp} (ho : ops[i]? = some o) (hd : o.dst = d) (hw : Region.wanted o (yielded ops a.tmps) = true)
    (hr : (execOp a.eval o).run P w = .ok (.comm #[scase c v z] true .send) w₁) (hc : w₁.heap[c]? = some (.chan cap buf false s r tm)) (hroom : buf.size < cap)
    (h : NOps P ops rest Q (a.put d undef) (w₁.setChan c cap (buf.push v) false (s + 1) r tm)) : NOps P ops (i :: rest) Q a w := by
  subst hd
  intro b k cs hb
  obtain ⟨e, a', w'', hq, harr⟩ := h b k cs hb
  have hfin : (b.at a (.inRegion ops (i :: rest) :: k)).finish undef = b.at (a.put o.dst undef) (.inRegion ops rest :: k) := by rw [Frame.finish_at, ho]; rfl
  have hs := step_lone_send_room (stepG_comm (P := P) (main := true) (k := k) (cs := cs) (rest := rest) ho hw hb hr) hc hroom
  rw [hfin] at hs
  exact ⟨e, a', w'', hq, .of_steps (.one hs) harr⟩

/-- A select of one send with a default: there is room. -/
theorem NOps.select_room {ops : Array Oper} {i : Nat} {rest : List Nat} {o : Oper} {c cap s r : Nat} {buf : Array Value} {v z : Value} {tm : Bool} {w₁ : World} {d : Option Tmp} (ho : ops[i]? = some o) (hd : o.dst = d) (hw : Region.wanted o (yielded ops a.tmps) = true)
    (hr : (execOp a.eval o).run P w = .ok (.comm #[scase c v z] false .select) w₁) (hc : w₁.heap[c]? = some (.chan cap buf false s r tm)) (hroom : buf.size < cap)
    (h : NOps P ops rest Q (a.put d (.tuple #[goInt 0, .bool false])) (w₁.setChan c cap (buf.push v) false (s + 1) r tm)) : NOps P ops (i :: rest) Q a w := by
  subst hd
  intro b k cs hb
  obtain ⟨e, a', w'', hq, harr⟩ := h b k cs hb
  have hfin : (b.at a (.inRegion ops (i :: rest) :: k)).finish (.tuple #[goInt 0, .bool false]) = b.at (a.put o.dst (.tuple #[goInt 0, .bool false])) (.inRegion ops rest :: k) := by rw [Frame.finish_at, ho]; rfl
  have hs := step_lone_select_send_room (stepG_comm (P := P) (main := true) (k := k) (cs := cs) (rest := rest) ho hw hb hr) hc hroom
  rw [hfin] at hs
  exact ⟨e, a', w'', hq, .of_steps (.one hs) harr⟩

/-- .. there is none: the default. -/
theorem NOps.select_full {ops : Array Oper} {i : Nat} {rest : List Nat} {o : Oper} {c cap s r : Nat} {buf : Array Value} {v z : Value} {tm : Bool} {w₁ : World} {d : Option Tmp} (ho : ops[i]? = some o) (hd : o.dst = d) (hw : Region.wanted o (yielded ops a.tmps) = true)
    (hr : (execOp a.eval o).run P w = .ok (.comm #[scase c v z] false .select) w₁) (hc : w₁.heap[c]? = some (.chan cap buf false s r tm)) (hfull : cap ≤ buf.size)
    (h : NOps P ops rest Q (a.put d (.tuple #[goInt (-1), .bool false])) w₁) : NOps P ops (i :: rest) Q a w := by
  subst hd
  intro b k cs hb
  obtain ⟨e, a', w'', hq, harr⟩ := h b k cs hb
  have hfin : (b.at a (.inRegion ops (i :: rest) :: k)).finish (.tuple #[goInt (-1), .bool false]) = b.at (a.put o.dst (.tuple #[goInt (-1), .bool false])) (.inRegion ops rest :: k) := by rw [Frame.finish_at, ho]; rfl
  have hs := step_lone_select_send_full (stepG_comm (P := P) (main := true) (k := k) (cs := cs) (rest := rest) ho hw hb hr) hc hfull
  rw [hfin] at hs
  exact ⟨e, a', w'', hq, .of_steps (.one hs) harr⟩

theorem NWp.calls {f : FuncId} {fn : Func} {c : Code} {args : Array Value} {R : Ending → World → Prop} (hf : P.funcs[f]? = some fn) (hb : fn.body = some c)
    (h : NWp P c (bodyPost P fn R) { tmps := args ++ Array.replicate (fn.ntmps - args.size) undef, defers := [] } w) (hno : ∀ w', ¬ R .outgrown w') : Calls P f args w R := by
  intro cs
  let b : Frame := { (default : Frame) with fn := f, kind := .normal }
  have henter : Frame.enter P f args .normal = b.at { tmps := args ++ Array.replicate (fn.ntmps - args.size) undef, defers := [] } [.code c] := by
    simp [Frame.enter, Frame.at, hf, hb, b]
  obtain ⟨e, a', w', hq, harr⟩ := h b [] cs (by simp [b])
  rw [← henter] at harr
  cases e with
  | normal =>
    obtain ⟨hd, v, hr, hR⟩ := hq
    exact ⟨.returned v, w', _, hR, Steps.trans harr (.one step_end), rfl, rfl, hd, rfl, fn, hf, hr⟩
  | ret =>
    obtain ⟨hd, v, hr, hR⟩ := hq
    obtain ⟨todo, hs⟩ := harr
    exact ⟨.returned v, w', _, hR, hs, rfl, rfl, hd, rfl, fn, hf, hr⟩
  | panic chain =>
    obtain ⟨hd, hR⟩ := hq
    obtain ⟨todo, hs⟩ := harr
    exact ⟨.panicked chain, w', _, hR, hs, rfl, rfl, hd, fn, hf⟩
  | exit id => exact hq.elim
  | goto l => exact hq.elim
  | outgrown => exact absurd hq (hno _)
end
end Go.Proofs.YbulkwqmFmt
