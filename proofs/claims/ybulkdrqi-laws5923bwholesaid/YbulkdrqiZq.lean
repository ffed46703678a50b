import Derived.Test.YbulkdrqiZp
namespace Go.Proofs.Ybulkdrqi
open Go.RowKit Go.Conc

theorem Rg.opd {P : Program} {ops : Array Oper} {Q : Exit → Act → World → Prop} {a : Act} {w : World} {i : Nat} {rest : List Nat} {o : Oper} {v : Value} {w' : World} (d : Option Tmp) (ho : ops[i]? = some o) (hd : o.dst = d) (hw : Region.wanted o (yielded ops a.tmps) = true) (hr : (execOp a.eval o).run P w = .ok (.value v) w')
    (h : Rg P ops Q rest (a.put d v) w') : Rg P ops Q (i :: rest) a w := Rg.op ho hw hr (by rw [hd]; exact h)
theorem Rg.sendd {P : Program} {ops : Array Oper} {Q : Exit → Act → World → Prop} {a : Act} {w : World} {c cap s r : Nat} {buf : Array Value} {z v : Value} {tm : Bool} {i : Nat} {rest : List Nat} {o : Oper} (ho : ops[i]? = some o) (hd : o.dst = none) (hw : Region.wanted o (yielded ops a.tmps) = true) (hr : (execOp a.eval o).run P w = .ok (.comm #[scase c v z] true .send) w)
    (hc : w.heap[c]? = some (.chan cap buf false s r tm)) (hroom : buf.size < cap) (h : Rg P ops Q rest a (w.setChan c cap (buf.push v) false (s + 1) r tm)) : Rg P ops Q (i :: rest) a w :=
  Rg.send ho hw hr hc hroom (by rw [hd]; exact h)

/-- p is being laid out. -/
structure I1 (w1 w : World) (H P wake QB : Nat) (v : PV) : Prop where
  pp : Pp w P v
  q1 : w.cell? ⟨QB, 66, none⟩ = some (.int .u64 0)
  q2 : w.cell? ⟨QB, 131, none⟩ = some (.int .u64 0)
  wk : w.heap[wake]? = some (.chan 1 #[.agg #[]] false 1 0 false)
  lt : H < QB ∧ H < wake ∧ QB < P ∧ wake < P ∧ QB ≠ wake ∧ P < w.heap.size
  be : Below (H + 1) w1 w
theorem I1.later {w1 w w' : World} {H P wake QB : Nat} {v : PV} (h : I1 w1 w H P wake QB v) (hb : Below w.heap.size w w') : I1 w1 w' H P wake QB v := by
  have hl := h.lt
  have hs := hb.size
  exact ⟨h.pp.same (hb.block _ (by omega)), cell_later hb h.q1, cell_later hb h.q2, (hb.block _ (by omega)).trans h.wk, by omega, h.be.trans (hb.mono (by omega))⟩
theorem I1.setP {w1 w : World} {H P wake QB : Nat} {v v' : PV} (h : I1 w1 w H P wake QB v) {o : Nat} {x : Value} (hp : Pp (w.setCell ⟨P, o, none⟩ x) P v') : I1 w1 (w.setCell ⟨P, o, none⟩ x) H P wake QB v' := by
  have hl := h.lt
  have e : ∀ k, k ≠ P → (w.setCell ⟨P, o, none⟩ x).heap[k]? = w.heap[k]? := fun k hk => Below.heap_setCell _ _ _ _ hk
  have hz : (w.setCell ⟨P, o, none⟩ x).heap.size = w.heap.size := by simp [World.setCell]
  exact ⟨hp, cell_at (e _ (by omega)) h.q1, cell_at (e _ (by omega)) h.q2, (e _ (by omega)).trans h.wk, by omega, h.be.trans ⟨rfl, rfl, rfl, by rw [hz]; exact Nat.le_refl _, fun k hk => e k (by omega)⟩⟩
theorem I1.drew {w1 w : World} {H P wake QB : Nat} {v : PV} (h : I1 w1 w H P wake QB v) : I1 w1 w.drew H P wake QB v := h.later ⟨rfl, rfl, rfl, Nat.le_refl _, fun _ _ => rfl⟩
theorem I0.sent {w1 w : World} {H P wake QB : Nat} (h : I0 w1 w H P wake QB) : I1 w1 (w.setChan wake 1 ((#[] : Array Value).push (.agg #[])) false (0 + 1) 0 false) H P wake QB ⟨.chan none, wake, .slice none 0 0, .pointer none, false, false, false, false, 0, 0, 0, QB⟩ := by
  have hl := h.lt
  have e : ∀ k, k ≠ wake → (w.setChan wake 1 ((#[] : Array Value).push (.agg #[])) false (0 + 1) 0 false).heap[k]? = w.heap[k]? := fun k hk => by simp only [World.setChan]; rw [Array.getElem?_setIfInBounds_ne (fun e => hk e.symm)]
  have hz : (w.setChan wake 1 ((#[] : Array Value).push (.agg #[])) false (0 + 1) 0 false).heap.size = w.heap.size := by simp [World.setChan]
  exact ⟨h.pp.same (e _ (by omega)), cell_at (e _ (by omega)) h.q1, cell_at (e _ (by omega)) h.q2, heap_setChan w wake _ _ _ _ _ _ (by omega), by omega, h.be.trans ⟨rfl, rfl, rfl, by rw [hz]; exact Nat.le_refl _, fun k hk => e k (by omega)⟩⟩
/-- What the context's channel is. -/
def DD (b1 : Bool) (w : World) (P : Nat) (dv : Value) : Prop :=
  (b1 = true → ∃ c, dv = .chan (some c) ∧ w.heap[c]? = some (.chan 0 #[] true 0 0 false) ∧ P < c ∧ c < w.heap.size) ∧ (b1 = false → dv = .chan none ∨ ∃ c, dv = .chan (some c) ∧ w.heap[c]? = some (.chan 0 #[] false 0 0 false) ∧ P < c ∧ c < w.heap.size)
theorem DD.same {b1 : Bool} {w w' : World} {P : Nat} {dv : Value} (h : DD b1 w P dv) (hs : w.heap.size ≤ w'.heap.size) (e : ∀ k, P < k → k < w.heap.size → w'.heap[k]? = w.heap[k]?) : DD b1 w' P dv := by
  refine ⟨fun hb => ?_, fun hb => ?_⟩
  · obtain ⟨c, h1, h2, h3, h4⟩ := h.1 hb
    exact ⟨c, h1, (e c h3 h4).trans h2, h3, by omega⟩
  · rcases h.2 hb with h0 | ⟨c, h1, h2, h3, h4⟩
    · exact Or.inl h0
    · exact Or.inr ⟨c, h1, (e c h3 h4).trans h2, h3, by omega⟩
end Go.Proofs.Ybulkdrqi
