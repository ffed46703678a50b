import Derived.Test.YbulkdrqiZa
namespace Go.Proofs.Ybulkdrqi
open Go.RowKit Go.Conc

/-- The model's memory: what it wants, and what it has popped. -/
structure Md (wA w : World) (Pb n : Nat) (ln : Nat → Nat) (V : Nat → Nat → Int) (i q : Nat) (sv : Value) : Prop where
  sl : Sl w (Pb + 1) 1 sv (sm ln i + q) (ints (lg ln V i q))
  po : ∀ j, j < n → w.cell? ⟨Pb, j, none⟩ = some (.int .i64 (hdF ln i q j : Int))
  th : w.there Pb 0 n
  be : Below Pb wA w
  lt : Pb < w.heap.size
variable {wA w w2 : World} {Pb n : Nat} {ln : Nat → Nat} {V : Nat → Nat → Int} {i q : Nat} {sv sv' : Value}
theorem Md.next (h : Md wA w Pb n ln V i (ln i) sv) : Md wA w Pb n ln V (i + 1) 0 sv := by
  refine ⟨?_, fun j hj => ?_, h.th, h.be, h.lt⟩
  · have e : sm ln (i + 1) + 0 = sm ln i + ln i := by simp [sm]
    rw [e, ← lg_next]
    exact h.sl
  · rw [← hdF_next]; exact h.po j hj
theorem Md.step (h : Md wA w Pb n ln V i q sv) (hq : q < ln i) (hi : i < n) (hS : Sl w2 (Pb + 1) 1 sv' (sm ln i + q + 1) (ints (lg ln V i q) ++ [.int .i64 (V i q)])) (hs : w.heap.size ≤ w2.heap.size)
    (hk : ∀ k, k ≤ Pb → w2.heap[k]? = w.heap[k]?) (ho : w2.os = w.os ∧ w2.tape = w.tape ∧ w2.output = w.output) : Md wA (w2.setCell ⟨Pb, i, none⟩ (.int .i64 ((q : Int) + 1))) Pb n ln V i (q + 1) sv' := by
  have e : ∀ k, k ≠ Pb → (w2.setCell ⟨Pb, i, none⟩ (.int .i64 ((q : Int) + 1))).heap[k]? = w2.heap[k]? := fun k hk => Below.heap_setCell _ _ _ _ hk
  have hz : (w2.setCell ⟨Pb, i, none⟩ (.int .i64 ((q : Int) + 1))).heap.size = w2.heap.size := by simp [World.setCell]
  have hl := h.lt
  refine ⟨?_, fun j hj => ?_, ?_, ?_, by omega⟩
  · have e1 : ints (lg ln V i (q + 1)) = ints (lg ln V i q) ++ [.int .i64 (V i q)] := by rw [lg_succ hq]; simp [ints]
    rw [e1]
    exact hS.same (by omega) (fun k hk => e k (fun e => by have := (hS.lt hk).2; omega))
  · have h0 := (World.cell?_of_block (a := ⟨Pb, j, none⟩) (hk Pb (Nat.le_refl _))).trans (h.po j hj)
    rw [hdF_succ]
    by_cases ej : j = i
    · subst ej
      rw [if_pos rfl, World.cell?_setCell_same' _ _ _ (by rw [h0]; rfl)]
      simp
    · rw [if_neg ej, World.cell?_setCell_other _ _ _ _ (fun e => ej (by injection e with _ e; exact e.symm))]
      exact h0
  · exact World.there_setCells (there_block h.th (hk Pb (Nat.le_refl _))) Pb i [_]
  · exact ⟨ho.1.trans h.be.os, ho.2.1.trans h.be.tape, ho.2.2.trans h.be.output, by have := h.be.size; omega, fun k hk' => ((e k (by omega)).trans (hk k (by omega))).trans (h.be.block k hk')⟩
end Go.Proofs.Ybulkdrqi
