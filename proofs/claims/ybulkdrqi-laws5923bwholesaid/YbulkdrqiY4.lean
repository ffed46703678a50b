import Derived.Test.YbulkdrqiY3
namespace Go.Proofs.Ybulkdrqi
open Go.RowKit Go.Conc

/-! ### the struct 'parallel' -/
structure PV where
  done : Value
  wake : Nat
  crew : Value
  fault : Value
  wt : Bool
  rd : Bool
  us : Bool
  fl : Bool
  col : Int
  yi : Int
  si : Int
  QB : Nat

def PV.lay (v : PV) : List (Nat × Value) :=
  [(4, v.done), (5, .pointer (some ⟨v.QB, 0, none⟩)), (73, .int .u32 (u1 v.wt)), (74, .int .u32 (u1 v.rd)), (140, .int .u32 (u1 v.us)), (206, .int .u32 (u1 v.fl)), (209, .chan (some v.wake)), (276, v.crew), (277, .int .i64 0), (278, .int .i64 v.col), (279, .int .i64 v.yi), (280, .pointer none), (287, .int .i64 v.si), (322, v.fault)]

structure Pp (w : World) (P : Nat) (v : PV) : Prop where
  cell : ∀ x ∈ v.lay, w.cell? ⟨P, x.1, none⟩ = some x.2
  there : w.there P 0 323

variable {w w' : World} {P : Nat} {v : PV}

theorem Pp.lt (h : Pp w P v) : P < w.heap.size := by
  obtain ⟨u, hu⟩ := Option.isSome_iff_exists.1 (h.there 0 (by omega)).1
  exact block_lt_of_cell hu
theorem Pp.same (h : Pp w P v) (e : w'.heap[P]? = w.heap[P]?) : Pp w' P v :=
  ⟨fun x hx => (World.cell?_of_block (a := ⟨P, x.1, none⟩) e).trans (h.cell x hx), there_block h.there e⟩
theorem Pp.set (h : Pp w P v) (i : Nat) (u : Value) (v' : PV) (hi : i < 323) (hv : ∀ x ∈ v'.lay, (x ∈ v.lay ∧ x.1 ≠ i) ∨ x = (i, u)) : Pp (w.setCell ⟨P, i, none⟩ u) P v' := by
  refine ⟨fun x hx => ?_, World.there_setCells h.there P i [u]⟩
  rcases hv x hx with ⟨h1, h2⟩ | rfl
  · have hne : (⟨P, i, none⟩ : Addr) ≠ ⟨P, x.1, none⟩ := by intro e; injection e with _ e; exact h2 e.symm
    exact (World.cell?_setCell_other w _ _ _ hne).trans (h.cell x h1)
  · have := (h.there i hi).1
    rw [Nat.zero_add] at this
    exact World.cell?_setCell_same' w _ _ this
theorem Pp.free (h : Pp w P v) (i : Nat) (hi : i < 323) : w.frozen? ⟨P, i, none⟩ = false := by
  have := (h.there i hi).2
  rwa [Nat.zero_add] at this
theorem Pp.drew (h : Pp w P v) : Pp w.drew P v := h.same rfl

theorem Pp.c4 (h : Pp w P v) : w.cell? ⟨P, 4, none⟩ = some v.done := h.cell (4, _) (by simp [PV.lay])
theorem Pp.c5 (h : Pp w P v) : w.cell? ⟨P, 5, none⟩ = some (.pointer (some ⟨v.QB, 0, none⟩)) := h.cell (5, _) (by simp [PV.lay])
theorem Pp.c73 (h : Pp w P v) : w.cell? ⟨P, 73, none⟩ = some (.int .u32 (u1 v.wt)) := h.cell (73, _) (by simp [PV.lay])
theorem Pp.c74 (h : Pp w P v) : w.cell? ⟨P, 74, none⟩ = some (.int .u32 (u1 v.rd)) := h.cell (74, _) (by simp [PV.lay])
theorem Pp.c140 (h : Pp w P v) : w.cell? ⟨P, 140, none⟩ = some (.int .u32 (u1 v.us)) := h.cell (140, _) (by simp [PV.lay])
theorem Pp.c206 (h : Pp w P v) : w.cell? ⟨P, 206, none⟩ = some (.int .u32 (u1 v.fl)) := h.cell (206, _) (by simp [PV.lay])
theorem Pp.c209 (h : Pp w P v) : w.cell? ⟨P, 209, none⟩ = some (.chan (some v.wake)) := h.cell (209, _) (by simp [PV.lay])
theorem Pp.c276 (h : Pp w P v) : w.cell? ⟨P, 276, none⟩ = some v.crew := h.cell (276, _) (by simp [PV.lay])
theorem Pp.c277 (h : Pp w P v) : w.cell? ⟨P, 277, none⟩ = some (.int .i64 0) := h.cell (277, _) (by simp [PV.lay])
theorem Pp.c278 (h : Pp w P v) : w.cell? ⟨P, 278, none⟩ = some (.int .i64 v.col) := h.cell (278, _) (by simp [PV.lay])
theorem Pp.c279 (h : Pp w P v) : w.cell? ⟨P, 279, none⟩ = some (.int .i64 v.yi) := h.cell (279, _) (by simp [PV.lay])
theorem Pp.c280 (h : Pp w P v) : w.cell? ⟨P, 280, none⟩ = some (.pointer none) := h.cell (280, _) (by simp [PV.lay])
theorem Pp.c287 (h : Pp w P v) : w.cell? ⟨P, 287, none⟩ = some (.int .i64 v.si) := h.cell (287, _) (by simp [PV.lay])
theorem Pp.c322 (h : Pp w P v) : w.cell? ⟨P, 322, none⟩ = some v.fault := h.cell (322, _) (by simp [PV.lay])

theorem Pp.setDone (h : Pp w P v) (x : Value) : Pp (w.setCell ⟨P, 4, none⟩ x) P { v with done := x } :=
  h.set 4 _ _ (by omega) (fun y hy => by simp only [PV.lay, List.mem_cons, List.not_mem_nil, or_false] at hy ⊢; rcases hy with rfl | rfl | rfl | rfl | rfl | rfl | rfl | rfl | rfl | rfl | rfl | rfl | rfl | rfl <;> simp)
theorem Pp.setWt (h : Pp w P v) (x : Bool) : Pp (w.setCell ⟨P, 73, none⟩ (.int .u32 (u1 x))) P { v with wt := x } :=
  h.set 73 _ _ (by omega) (fun y hy => by simp only [PV.lay, List.mem_cons, List.not_mem_nil, or_false] at hy ⊢; rcases hy with rfl | rfl | rfl | rfl | rfl | rfl | rfl | rfl | rfl | rfl | rfl | rfl | rfl | rfl <;> simp)
theorem Pp.setRd (h : Pp w P v) (x : Bool) : Pp (w.setCell ⟨P, 74, none⟩ (.int .u32 (u1 x))) P { v with rd := x } :=
  h.set 74 _ _ (by omega) (fun y hy => by simp only [PV.lay, List.mem_cons, List.not_mem_nil, or_false] at hy ⊢; rcases hy with rfl | rfl | rfl | rfl | rfl | rfl | rfl | rfl | rfl | rfl | rfl | rfl | rfl | rfl <;> simp)
theorem Pp.setUs (h : Pp w P v) (x : Bool) : Pp (w.setCell ⟨P, 140, none⟩ (.int .u32 (u1 x))) P { v with us := x } :=
  h.set 140 _ _ (by omega) (fun y hy => by simp only [PV.lay, List.mem_cons, List.not_mem_nil, or_false] at hy ⊢; rcases hy with rfl | rfl | rfl | rfl | rfl | rfl | rfl | rfl | rfl | rfl | rfl | rfl | rfl | rfl <;> simp)
theorem Pp.setFl (h : Pp w P v) (x : Bool) : Pp (w.setCell ⟨P, 206, none⟩ (.int .u32 (u1 x))) P { v with fl := x } :=
  h.set 206 _ _ (by omega) (fun y hy => by simp only [PV.lay, List.mem_cons, List.not_mem_nil, or_false] at hy ⊢; rcases hy with rfl | rfl | rfl | rfl | rfl | rfl | rfl | rfl | rfl | rfl | rfl | rfl | rfl | rfl <;> simp)
theorem Pp.setCrew (h : Pp w P v) (x : Value) : Pp (w.setCell ⟨P, 276, none⟩ x) P { v with crew := x } :=
  h.set 276 _ _ (by omega) (fun y hy => by simp only [PV.lay, List.mem_cons, List.not_mem_nil, or_false] at hy ⊢; rcases hy with rfl | rfl | rfl | rfl | rfl | rfl | rfl | rfl | rfl | rfl | rfl | rfl | rfl | rfl <;> simp)
theorem Pp.setCol (h : Pp w P v) (x : Int) : Pp (w.setCell ⟨P, 278, none⟩ (.int .i64 x)) P { v with col := x } :=
  h.set 278 _ _ (by omega) (fun y hy => by simp only [PV.lay, List.mem_cons, List.not_mem_nil, or_false] at hy ⊢; rcases hy with rfl | rfl | rfl | rfl | rfl | rfl | rfl | rfl | rfl | rfl | rfl | rfl | rfl | rfl <;> simp)
theorem Pp.setYi (h : Pp w P v) (x : Int) : Pp (w.setCell ⟨P, 279, none⟩ (.int .i64 x)) P { v with yi := x } :=
  h.set 279 _ _ (by omega) (fun y hy => by simp only [PV.lay, List.mem_cons, List.not_mem_nil, or_false] at hy ⊢; rcases hy with rfl | rfl | rfl | rfl | rfl | rfl | rfl | rfl | rfl | rfl | rfl | rfl | rfl | rfl <;> simp)
theorem Pp.setSi (h : Pp w P v) (x : Int) : Pp (w.setCell ⟨P, 287, none⟩ (.int .i64 x)) P { v with si := x } :=
  h.set 287 _ _ (by omega) (fun y hy => by simp only [PV.lay, List.mem_cons, List.not_mem_nil, or_false] at hy ⊢; rcases hy with rfl | rfl | rfl | rfl | rfl | rfl | rfl | rfl | rfl | rfl | rfl | rfl | rfl | rfl <;> simp)
theorem Pp.setFault (h : Pp w P v) (x : Value) : Pp (w.setCell ⟨P, 322, none⟩ x) P { v with fault := x } :=
  h.set 322 _ _ (by omega) (fun y hy => by simp only [PV.lay, List.mem_cons, List.not_mem_nil, or_false] at hy ⊢; rcases hy with rfl | rfl | rfl | rfl | rfl | rfl | rfl | rfl | rfl | rfl | rfl | rfl | rfl | rfl <;> simp)
end Go.Proofs.Ybulkdrqi
