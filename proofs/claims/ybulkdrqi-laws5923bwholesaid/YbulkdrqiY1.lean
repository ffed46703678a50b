import Derived.Test.YbulkdrqiP3
import Derived.Conc.LoneCalls
import Derived.Conc.LoneSelect
import Derived.Conc.LoneSelectN
namespace Go.Proofs.Ybulkdrqi
open Go.RowKit Go.Conc

/-- The walk's word, for frames that may communicate. -/
def wpN (P : Program) (c : Code) (Q : Exit → Act → World → Prop) (a : Act) (w : World) : Prop :=
  ∀ (b : Frame), b.kind ≠ .early → ∀ (k : List Item) (cs : List Frame), ∃ e a' w', Q e a' w' ∧ Arrives P (lone (b.at a (.code c :: k)) cs w) b k cs e a' w'

variable {P : Program} {Q : Exit → Act → World → Prop} {a : Act} {w : World}

theorem wpN_of_wp {c : Code} (h : c.wp P Q a w) : wpN P c Q a w := fun b _ k cs => h b k cs
theorem wpN_seq {x y : Code} (h : wpN P x (Exit.then (wpN P y Q) Q) a w) : wpN P (Code.seq x y) Q a w := by
  intro b hb k cs
  obtain ⟨e, a₁, w₁, hq, harr⟩ := h b hb (.code y :: k) cs
  cases e with
  | normal =>
    obtain ⟨e₂, a₂, w₂, hq₂, harr₂⟩ := hq b hb k cs
    exact ⟨e₂, a₂, w₂, hq₂, .of_steps (.head step_seq harr) harr₂⟩
  | exit id => exact ⟨_, a₁, w₁, hq, .of_steps (.one step_seq) (.pass (x := .code y) rfl (fun _ _ => .inl (by simp)) harr)⟩
  | goto l => exact ⟨_, a₁, w₁, hq, .of_steps (.one step_seq) (.pass (x := .code y) rfl (fun _ _ => .inl (by simp)) harr)⟩
  | ret => exact ⟨_, a₁, w₁, hq, .of_steps (.one step_seq) (.pass (x := .code y) rfl (fun _ _ => .inl (by simp)) harr)⟩
  | panic ch => exact ⟨_, a₁, w₁, hq, .of_steps (.one step_seq) (.pass (x := .code y) rfl (fun _ _ => .inl (by simp)) harr)⟩
  | outgrown => exact ⟨_, a₁, w₁, hq, .of_steps (.one step_seq) (.pass (x := .code y) rfl (fun _ _ => .inl (by simp)) harr)⟩
/-- A plain piece ahead. -/
theorem wpN_seq_wp {x y : Code} (h : x.wp P (Exit.then (wpN P y Q) Q) a w) : wpN P (Code.seq x y) Q a w := wpN_seq (wpN_of_wp h)

theorem calls_of_wpN {f : FuncId} {fn : Func} {c : Code} {args : Array Value} {R : Ending → World → Prop}
    (hf : P.funcs[f]? = some fn) (hb : fn.body = some c)
    (h : wpN P c (bodyPost P fn R) { tmps := args ++ Array.replicate (fn.ntmps - args.size) undef, defers := [] } w) :
    Calls P f args w R := by
  intro cs
  let b : Frame := { (default : Frame) with fn := f, kind := .normal }
  have henter : Frame.enter P f args .normal =
      b.at { tmps := args ++ Array.replicate (fn.ntmps - args.size) undef, defers := [] } [.code c] := by
    simp [Frame.enter, Frame.at, hf, hb, b]
  obtain ⟨e, a', w', hq, harr⟩ := h b (by simp [b]) [] cs
  rw [← henter] at harr
  cases e with
  | normal =>
    obtain ⟨hd, v, hr, hR⟩ := hq
    exact ⟨.returned v, w', _, hR, Steps.trans harr (.one step_end), rfl, rfl, hd, rfl, fn, hf, hr⟩
  | ret =>
    obtain ⟨hd, v, hr, hR⟩ := hq
    obtain ⟨todo, hs⟩ := harr
    exact ⟨.returned v, w', _, hR, hs, rfl, rfl, hd, rfl, fn, hf, hr⟩
  | panic chain =>
    obtain ⟨hd, hR⟩ := hq
    obtain ⟨todo, hs⟩ := harr
    exact ⟨.panicked chain, w', _, hR, hs, rfl, rfl, hd, fn, hf⟩
  | exit id => exact hq.elim
  | goto l => exact hq.elim
  | outgrown => exact ⟨.outgrown, w', b, hq, harr.resolve_left (by simp [b]), rfl, trivial⟩

/-! ### a region, operation by operation -/
variable {ops : Array Oper}
def Rg (P : Program) (ops : Array Oper) (Q : Exit → Act → World → Prop) (l : List Nat) (a : Act) (w : World) : Prop :=
  ∀ (b : Frame), b.kind ≠ .early → ∀ (k : List Item) (cs : List Frame), ∃ e a' w', Q e a' w' ∧ Arrives P (lone (b.at a (.inRegion ops l :: k)) cs w) b k cs e a' w'
theorem wpN_region {id : Nat} (h : Rg P ops Q (List.range ops.size) a w) : wpN P (Code.region id ops false) Q a w :=
  fun b hb k cs => let ⟨e, a', w', q, r⟩ := h b hb k cs; ⟨e, a', w', q, .of_steps (.one step_region) r⟩
theorem Rg.of_ops {l : List Nat} (h : wpOps P ops Q l a w) : Rg P ops Q l a w := fun b _ k cs => wp_ops l a w h b k cs
theorem Rg.nil (h : Q .normal a w) : Rg P ops Q [] a w := Rg.of_ops h
theorem Rg.op {i : Nat} {rest : List Nat} {o : Oper} {v : Value} {w' : World} (ho : ops[i]? = some o) (hw : Region.wanted o (yielded ops a.tmps) = true) (hr : (execOp a.eval o).run P w = .ok (.value v) w')
    (h : Rg P ops Q rest (a.put o.dst v) w') : Rg P ops Q (i :: rest) a w := fun b hb k cs => by
  obtain ⟨e, a', w'', hq, harr⟩ := h b hb k cs
  refine ⟨e, a', w'', hq, .of_steps (.one (step_lone_go ?_)) harr⟩
  have hfin : (b.at a (.inRegion ops (i :: rest) :: k)).finish v = b.at (a.put o.dst v) (.inRegion ops rest :: k) := by
    rw [Frame.finish_at, ho]; rfl
  rw [stepG_op ho hw, ← hfin]; simp [stepG.apply, hr]

theorem Rg.of_step {i : Nat} {rest : List Nat} {o : Oper} {v : Value} {w' : World} (ho : ops[i]? = some o)
    (hs : ∀ (b : Frame), b.kind ≠ .early → ∀ (k : List Item) (cs : List Frame), step P (solo (G (b.at a (.inRegion ops (i :: rest) :: k)) cs) w) = .next (solo (G ((b.at a (.inRegion ops (i :: rest) :: k)).finish v) cs) w'))
    (h : Rg P ops Q rest (a.put o.dst v) w') : Rg P ops Q (i :: rest) a w := fun b hb k cs => by
  obtain ⟨e, a', w'', hq, harr⟩ := h b hb k cs
  refine ⟨e, a', w'', hq, .of_steps (.one ?_) harr⟩
  have hfin : (b.at a (.inRegion ops (i :: rest) :: k)).finish v = b.at (a.put o.dst v) (.inRegion ops rest :: k) := by
    rw [Frame.finish_at, ho]; rfl
  have := hs b hb k cs
  rw [hfin] at this
  exact this

variable {c cap s r : Nat} {buf : Array Value} {z v : Value} {tm closed : Bool}
theorem Rg.send {i : Nat} {rest : List Nat} {o : Oper} (ho : ops[i]? = some o) (hw : Region.wanted o (yielded ops a.tmps) = true) (hr : (execOp a.eval o).run P w = .ok (.comm #[scase c v z] true .send) w)
    (hc : w.heap[c]? = some (.chan cap buf false s r tm)) (hroom : buf.size < cap) (h : Rg P ops Q rest (a.put o.dst undef) (w.setChan c cap (buf.push v) false (s + 1) r tm)) : Rg P ops Q (i :: rest) a w :=
  Rg.of_step ho (fun _ hb _ _ => step_lone_send_room (stepG_comm ho hw hb hr) hc hroom) h
theorem Rg.recv {i : Nat} {rest : List Nat} {o : Oper} (ho : ops[i]? = some o) (hw : Region.wanted o (yielded ops a.tmps) = true) (hr : (execOp a.eval o).run P w = .ok (.comm #[rcase c z] true (.recv false)) w)
    (hc : w.heap[c]? = some (.chan cap buf closed s r tm)) (hsome : 0 < buf.size) (h : Rg P ops Q rest (a.put o.dst (buf.getD 0 undef)) (w.setChan c cap (buf.extract 1 buf.size) closed s (r + 1) tm)) : Rg P ops Q (i :: rest) a w :=
  Rg.of_step ho (fun _ hb _ _ => step_lone_recv_buf false (stepG_comm ho hw hb hr) hc hsome) h
theorem Rg.sel_default {i : Nat} {rest : List Nat} {o : Oper} (ho : ops[i]? = some o) (hw : Region.wanted o (yielded ops a.tmps) = true) (hr : (execOp a.eval o).run P w = .ok (.comm #[rcase c z] false .select) w)
    (hc : w.heap[c]? = some (.chan cap #[] false s r tm)) (h : Rg P ops Q rest (a.put o.dst (.tuple #[goInt (-1), .bool false, z])) w) : Rg P ops Q (i :: rest) a w :=
  Rg.of_step ho (fun _ hb _ _ => step_lone_select_default (stepG_comm ho hw hb hr) hc) h
theorem Rg.sel_shut {i : Nat} {rest : List Nat} {o : Oper} (ho : ops[i]? = some o) (hw : Region.wanted o (yielded ops a.tmps) = true) (hr : (execOp a.eval o).run P w = .ok (.comm #[rcase c z] false .select) w)
    (hc : w.heap[c]? = some (.chan cap #[] true s r tm)) (h : Rg P ops Q rest (a.put o.dst (.tuple #[goInt 0, .bool false, z])) w) : Rg P ops Q (i :: rest) a w :=
  Rg.of_step ho (fun _ hb _ _ => step_lone_select_recv_shut (stepG_comm ho hw hb hr) hc) h
end Go.Proofs.Ybulkdrqi
