import Derived.Test.YbulkdrqiZe
namespace Go.Proofs.Ybulkdrqi
open Go.RowKit Go.Conc

/-- p and the context's channel. -/
structure ID (w1 w : World) (H P wake QB : Nat) (b1 : Bool) (v : PV) : Prop where
  i : I1 w1 w H P wake QB v
  d : DD b1 w P v.done
variable {w1 w w' : World} {H P wake QB : Nat} {b1 : Bool} {v v' : PV}
theorem ID.later (h : ID w1 w H P wake QB b1 v) (hb : Below w.heap.size w w') : ID w1 w' H P wake QB b1 v :=
  ⟨h.i.later hb, h.d.same hb.size (fun k _ hk => hb.block k hk)⟩
theorem ID.set (h : ID w1 w H P wake QB b1 v) {o : Nat} {x : Value} (hp : Pp (w.setCell ⟨P, o, none⟩ x) P v') (hd : v'.done = v.done) : ID w1 (w.setCell ⟨P, o, none⟩ x) H P wake QB b1 v' :=
  ⟨h.i.setP hp, by rw [hd]; exact h.d.same (by simp [World.setCell]) (fun k hk _ => Below.heap_setCell _ _ _ _ (show k ≠ P by omega))⟩
theorem ID.drew (h : ID w1 w H P wake QB b1 v) : ID w1 w.drew H P wake QB b1 v := h.later ⟨rfl, rfl, rfl, Nat.le_refl _, fun _ _ => rfl⟩

/-- p while its flags are laid. -/
def pq (dv : Value) (wake QB : Nat) (rd us fl : Bool) (si col yi : Int) : PV := ⟨dv, wake, .slice none 0 0, .pointer none, false, rd, us, fl, col, yi, si, QB⟩
theorem ID.fl {dv : Value} {rd us fl : Bool} {si col yi : Int} (h : ID w1 w H P wake QB b1 (pq dv wake QB rd us fl si col yi)) (x : Bool) : ID w1 (w.setCell ⟨P, 206, none⟩ (.int .u32 (u1 x))).drew H P wake QB b1 (pq dv wake QB rd us x si col yi) := (h.set (h.i.pp.setFl x) rfl).drew
theorem ID.us {dv : Value} {rd us fl : Bool} {si col yi : Int} (h : ID w1 w H P wake QB b1 (pq dv wake QB rd us fl si col yi)) (x : Bool) : ID w1 (w.setCell ⟨P, 140, none⟩ (.int .u32 (u1 x))).drew H P wake QB b1 (pq dv wake QB rd x fl si col yi) := (h.set (h.i.pp.setUs x) rfl).drew
theorem ID.rd {dv : Value} {rd us fl : Bool} {si col yi : Int} (h : ID w1 w H P wake QB b1 (pq dv wake QB rd us fl si col yi)) (x : Bool) : ID w1 (w.setCell ⟨P, 74, none⟩ (.int .u32 (u1 x))).drew H P wake QB b1 (pq dv wake QB x us fl si col yi) := (h.set (h.i.pp.setRd x) rfl).drew
theorem ID.si {dv : Value} {rd us fl : Bool} {si col yi : Int} (h : ID w1 w H P wake QB b1 (pq dv wake QB rd us fl si col yi)) (x : Int) : ID w1 (w.setCell ⟨P, 287, none⟩ (.int .i64 x)) H P wake QB b1 (pq dv wake QB rd us fl x col yi) := h.set (h.i.pp.setSi x) rfl
theorem ID.col {dv : Value} {rd us fl : Bool} {si col yi : Int} (h : ID w1 w H P wake QB b1 (pq dv wake QB rd us fl si col yi)) (x : Int) : ID w1 (w.setCell ⟨P, 278, none⟩ (.int .i64 x)) H P wake QB b1 (pq dv wake QB rd us fl si x yi) := h.set (h.i.pp.setCol x) rfl
theorem ID.yi {dv : Value} {rd us fl : Bool} {si col yi : Int} (h : ID w1 w H P wake QB b1 (pq dv wake QB rd us fl si col yi)) (x : Int) : ID w1 (w.setCell ⟨P, 279, none⟩ (.int .i64 x)) H P wake QB b1 (pq dv wake QB rd us fl si col x) := h.set (h.i.pp.setYi x) rfl
theorem ID.fault {dv : Value} {b3 b4 : Bool} {si col yi : Int} (h : ID w1 w H P wake QB b1 (pv dv (.slice none 0 0) wake QB none b3 b4 si col yi)) (a : Addr) : ID w1 (w.setCell ⟨P, 322, none⟩ (.pointer (some a))) H P wake QB b1 (pv dv (.slice none 0 0) wake QB (some a) b3 b4 si col yi) := h.set (h.i.pp.setFault _) rfl
/-- The context's channel is laid: closed. -/
theorem ID.done {dv : Value} {rd us fl : Bool} {si col yi : Int} (h : I1 w1 w H P wake QB (pq dv wake QB rd us fl si col yi)) (x : Value) (hd : DD b1 w P x) : ID w1 (w.setCell ⟨P, 4, none⟩ x) H P wake QB b1 (pq x wake QB rd us fl si col yi) :=
  ⟨h.setP (h.pp.setDone x), hd.same (by simp [World.setCell]) (fun k hk _ => Below.heap_setCell _ _ _ _ (show k ≠ P by omega))⟩
end Go.Proofs.Ybulkdrqi
