/-
  COMMUNICATION IN ONE GOROUTINE, WITHIN THE KIT's WALK: 'Code.wp' speaks of every frame, an early one too, in which no communication is made; 'wpN' is the same word for a frame that is not early. What has no communication in it is walked as ever (wpN_of_wp, wpN_seq_wp); a region that holds one goes operation by operation (opsN_..), by the machine's own step laws of Conc/LoneCalls.lean and Conc/LoneSelect.lean.
-/
import Derived.Test.YbulkuzkFmtRows
import Derived.Conc.LoneCalls
import Derived.Conc.LoneSelect
import Derived.WalkKit
namespace Go.Proofs.YbulkuzkFmt
open Go.RowKit Go.Conc

section
variable {P : Program} {Q : Exit → Act → World → Prop} {a : Act} {w : World}

def wpN (P : Program) (c : Code) (Q : Exit → Act → World → Prop) (a : Act) (w : World) : Prop :=
  ∀ (b : Frame) (k : List Item) (cs : List Frame), b.kind ≠ .early →
    ∃ e a' w', Q e a' w' ∧ Arrives P (lone (b.at a (.code c :: k)) cs w) b k cs e a' w'

theorem wpN_of_wp {c : Code} (h : c.wp P Q a w) : wpN P c Q a w := fun b k cs _ => h b k cs

theorem wpN_seq {x y : Code} (h : wpN P x (Exit.then (wpN P y Q) Q) a w) : wpN P (Code.seq x y) Q a w := by
  intro b k cs hk
  obtain ⟨e, a₁, w₁, hq, harr⟩ := h b (.code y :: k) cs hk
  cases e with
  | normal =>
    obtain ⟨e₂, a₂, w₂, hq₂, harr₂⟩ := hq b k cs hk
    exact ⟨e₂, a₂, w₂, hq₂, .of_steps (.head step_seq harr) harr₂⟩
  | exit id => exact ⟨_, a₁, w₁, hq, .of_steps (.one step_seq) (.pass (x := .code y) rfl (fun _ _ => .inl (by simp)) harr)⟩
  | goto l => exact ⟨_, a₁, w₁, hq, .of_steps (.one step_seq) (.pass (x := .code y) rfl (fun _ _ => .inl (by simp)) harr)⟩
  | ret => exact ⟨_, a₁, w₁, hq, .of_steps (.one step_seq) (.pass (x := .code y) rfl (fun _ _ => .inl (by simp)) harr)⟩
  | panic ch => exact ⟨_, a₁, w₁, hq, .of_steps (.one step_seq) (.pass (x := .code y) rfl (fun _ _ => .inl (by simp)) harr)⟩
  | outgrown => exact ⟨_, a₁, w₁, hq, .of_steps (.one step_seq) (.pass (x := .code y) rfl (fun _ _ => .inl (by simp)) harr)⟩

/-- the first statement is plain: it is walked as ever -/
theorem wpN_seq_wp {x y : Code} (h : ∀ K : Act → World → Prop, (∀ a w, wpN P y Q a w → K a w) → x.wp P (Exit.then K Q) a w) : wpN P (Code.seq x y) Q a w := wpN_seq (wpN_of_wp (h _ fun _ _ h => h))

theorem wpN_seq_k {x y : Code} (h : ∀ K : Act → World → Prop, (∀ a w, wpN P y Q a w → K a w) → wpN P x (Exit.then K Q) a w) : wpN P (Code.seq x y) Q a w := wpN_seq (h _ fun _ _ h => h)

theorem wpN_cond {c : Operand} {x y : Code} {t : Bool} (hc : a.eval c = .bool t) (h : wpN P (if t then x else y) Q a w) : wpN P (Code.cond c x y) Q a w :=
  fun b k cs hk => let ⟨e, a', w', q, r⟩ := h b k cs hk; ⟨e, a', w', q, .of_steps (.one (step_cond hc)) r⟩

theorem wpN_block {id : Nat} {c : Code} (h : wpN P c (Exit.inBlock id Q) a w) : wpN P (Code.block id c) Q a w := by
  intro b k cs hk
  obtain ⟨e, a₁, w₁, hq, harr⟩ := h b (.inBlock id :: k) cs hk
  cases e with
  | normal => exact ⟨.normal, a₁, w₁, hq, .head step_block (Steps.trans harr (.one step_inBlock))⟩
  | exit id' =>
    by_cases hid : id' = id
    · simp only [Exit.inBlock, hid, if_true] at hq
      exact ⟨.normal, a₁, w₁, hq, .head step_block (harr k (by simp [exitTo, hid]))⟩
    · simp only [Exit.inBlock, hid, if_false] at hq
      refine ⟨.exit id', a₁, w₁, hq, fun k' hk => .head step_block (harr k' ?_)⟩
      have : (id == id') = false := by simp; exact fun h => hid h.symm
      simp [exitTo, this, hk]
  | goto l => exact ⟨_, a₁, w₁, hq, fun k' hk => .head step_block (harr k' (by simp [gotoIn, hk]))⟩
  | ret => exact ⟨_, a₁, w₁, hq, .of_steps (.one step_block) harr⟩
  | panic ch => exact ⟨_, a₁, w₁, hq, .of_steps (.one step_block) harr⟩
  | outgrown => exact ⟨_, a₁, w₁, hq, .of_steps (b := b) (k := k) (cs := cs) (e := .outgrown) (.one step_block) harr⟩

/-! ### a region, operation by operation -/
def opsN (P : Program) (ops : Array Oper) (Q : Exit → Act → World → Prop) (l : List Nat) (a : Act) (w : World) : Prop :=
  ∀ (b : Frame) (k : List Item) (cs : List Frame), b.kind ≠ .early →
    ∃ e a' w', Q e a' w' ∧ Arrives P (lone (b.at a (.inRegion ops l :: k)) cs w) b k cs e a' w'

theorem wpN_region {id : Nat} {ops : Array Oper} (h : opsN P ops Q (List.range ops.size) a w) : wpN P (Code.region id ops false) Q a w :=
  fun b k cs hk => let ⟨e, a', w', q, r⟩ := h b k cs hk; ⟨e, a', w', q, .of_steps (.one step_region) r⟩

theorem opsN_nil {ops : Array Oper} (h : Q .normal a w) : opsN P ops Q [] a w := fun _ _ _ _ => ⟨.normal, a, w, h, .one step_region_end⟩

theorem opsN_val {ops : Array Oper} {i : Nat} {rest : List Nat} {o : Oper} {v : Value} {w' : World} (ho : ops[i]? = some o) (hw : Region.wanted o (yielded ops a.tmps) = true) (hr : (execOp a.eval o).run P w = .ok (.value v) w')
    (h : opsN P ops Q rest (a.put o.dst v) w') : opsN P ops Q (i :: rest) a w := by
  intro b k cs hk
  obtain ⟨e, a', w'', hq, harr⟩ := h b k cs hk
  refine ⟨e, a', w'', hq, .of_steps (.one (step_lone_go ?_)) harr⟩
  have hg := stepG_op (P := P) (b := b) (k := k) (cs := cs) (w := w) (rest := rest) ho hw
  have hfin : (b.at a (.inRegion ops (i :: rest) :: k)).finish v = b.at (a.put o.dst v) (.inRegion ops rest :: k) := by rw [Frame.finish_at, ho]; rfl
  rw [hg, ← hfin]; simp [stepG.apply, hr]

theorem opsN_skip {ops : Array Oper} {i : Nat} {rest : List Nat} {o : Oper} {w' : World} (ho : ops[i]? = some o) (hw : Region.wanted o (yielded ops a.tmps) = true) (hr : (execOp a.eval o).run P w = .ok .skip w')
    (h : opsN P ops Q rest (a.put o.dst undef) w') : opsN P ops Q (i :: rest) a w := by
  intro b k cs hk
  obtain ⟨e, a', w'', hq, harr⟩ := h b k cs hk
  refine ⟨e, a', w'', hq, .of_steps (.one (step_lone_go ?_)) harr⟩
  have hg := stepG_op (P := P) (b := b) (k := k) (cs := cs) (w := w) (rest := rest) ho hw
  have hfin : (b.at a (.inRegion ops (i :: rest) :: k)).finish undef = b.at (a.put o.dst undef) (.inRegion ops rest :: k) := by rw [Frame.finish_at, ho]; rfl
  rw [hg, ← hfin]; simp [stepG.apply, hr]

/-- ONE STEP OF THE MACHINE that finishes the operation with v -/
theorem opsN_step {ops : Array Oper} {i : Nat} {rest : List Nat} {o : Oper} {v : Value} {w' : World} (ho : ops[i]? = some o)
    (hs : ∀ (b : Frame) (k : List Item) (cs : List Frame), b.kind ≠ .early → step P (lone (b.at a (.inRegion ops (i :: rest) :: k)) cs w) = .next (lone ((b.at a (.inRegion ops (i :: rest) :: k)).finish v) cs w'))
    (h : opsN P ops Q rest (a.put o.dst v) w') : opsN P ops Q (i :: rest) a w := by
  intro b k cs hk
  obtain ⟨e, a', w'', hq, harr⟩ := h b k cs hk
  have hfin : (b.at a (.inRegion ops (i :: rest) :: k)).finish v = b.at (a.put o.dst v) (.inRegion ops rest :: k) := by rw [Frame.finish_at, ho]; rfl
  have := hs b k cs hk
  rw [hfin] at this
  exact ⟨e, a', w'', hq, .of_steps (.one this) harr⟩

section
variable {ops : Array Oper} {i : Nat} {rest : List Nat} {o : Oper} {c cap s r : Nat} {buf : Array Value} {z v : Value} {tm closed : Bool}
/-- a send into a buffer with room -/
theorem opsN_send (ho : ops[i]? = some o) (hw : Region.wanted o (yielded ops a.tmps) = true) (hr : (execOp a.eval o).run P w = .ok (.comm #[scase c v z] true .send) w) (hc : w.heap[c]? = some (.chan cap buf false s r tm)) (hroom : buf.size < cap)
    (h : opsN P ops Q rest (a.put o.dst undef) (w.setChan c cap (buf.push v) false (s + 1) r tm)) : opsN P ops Q (i :: rest) a w :=
  opsN_step ho (fun _ _ _ hk => step_lone_send_room (stepG_comm ho hw hk hr) hc hroom) h
/-- a receive from a buffer that holds something -/
theorem opsN_recv (ho : ops[i]? = some o) (hw : Region.wanted o (yielded ops a.tmps) = true) (hr : (execOp a.eval o).run P w = .ok (.comm #[rcase c z] true (.recv false)) w) (hc : w.heap[c]? = some (.chan cap buf closed s r tm)) (hsome : 0 < buf.size)
    (h : opsN P ops Q rest (a.put o.dst (buf.getD 0 undef)) (w.setChan c cap (buf.extract 1 buf.size) closed s (r + 1) tm)) : opsN P ops Q (i :: rest) a w :=
  opsN_step ho (fun _ _ _ hk => step_lone_recv_buf false (stepG_comm ho hw hk hr) hc hsome) h
/-- a select of one send, with a default: there is room -/
theorem opsN_sel_room (ho : ops[i]? = some o) (hw : Region.wanted o (yielded ops a.tmps) = true) (hr : (execOp a.eval o).run P w = .ok (.comm #[scase c v z] false .select) w) (hc : w.heap[c]? = some (.chan cap buf false s r tm)) (hroom : buf.size < cap)
    (h : opsN P ops Q rest (a.put o.dst (.tuple #[goInt 0, .bool false])) (w.setChan c cap (buf.push v) false (s + 1) r tm)) : opsN P ops Q (i :: rest) a w :=
  opsN_step ho (fun _ _ _ hk => step_lone_select_send_room (stepG_comm ho hw hk hr) hc hroom) h
/-- .. there is none: the default -/
theorem opsN_sel_full (ho : ops[i]? = some o) (hw : Region.wanted o (yielded ops a.tmps) = true) (hr : (execOp a.eval o).run P w = .ok (.comm #[scase c v z] false .select) w) (hc : w.heap[c]? = some (.chan cap buf false s r tm)) (hfull : cap ≤ buf.size)
    (h : opsN P ops Q rest (a.put o.dst (.tuple #[goInt (-1), .bool false])) w) : opsN P ops Q (i :: rest) a w :=
  opsN_step ho (fun _ _ _ hk => step_lone_select_send_full (stepG_comm ho hw hk hr) hc hfull) h
end

theorem calls_of_wpN {f : FuncId} {fn : Func} {c : Code} {args : Array Value} {R : Ending → World → Prop}
    (hf : P.funcs[f]? = some fn) (hb : fn.body = some c)
    (h : wpN P c (bodyPost P fn R) { tmps := args ++ Array.replicate (fn.ntmps - args.size) undef, defers := [] } w) : Calls P f args w R := by
  intro cs
  let b : Frame := { (default : Frame) with fn := f, kind := .normal }
  have henter : Frame.enter P f args .normal =
      b.at { tmps := args ++ Array.replicate (fn.ntmps - args.size) undef, defers := [] } [.code c] := by
    simp [Frame.enter, Frame.at, hf, hb, b]
  obtain ⟨e, a', w', hq, harr⟩ := h b [] cs (by simp [b])
  rw [← henter] at harr
  cases e with
  | normal =>
    obtain ⟨hd, v, hr, hR⟩ := hq
    exact ⟨.returned v, w', _, hR, Steps.trans harr (.one step_end), rfl, rfl, hd, rfl, fn, hf, hr⟩
  | ret =>
    obtain ⟨hd, v, hr, hR⟩ := hq
    obtain ⟨todo, hs⟩ := harr
    exact ⟨.returned v, w', _, hR, hs, rfl, rfl, hd, rfl, fn, hf, hr⟩
  | panic chain =>
    obtain ⟨hd, hR⟩ := hq
    obtain ⟨todo, hs⟩ := harr
    exact ⟨.panicked chain, w', _, hR, hs, rfl, rfl, hd, fn, hf⟩
  | exit id => exact hq.elim
  | goto l => exact hq.elim
  | outgrown => exact ⟨.outgrown, w', b, hq, harr.resolve_left (by simp [b]), rfl, trivial⟩
end
end Go.Proofs.YbulkuzkFmt
