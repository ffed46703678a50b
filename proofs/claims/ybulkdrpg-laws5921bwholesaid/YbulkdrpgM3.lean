import Derived.Test.YbulkdrpgM2
import Derived.Deep.RegionLaw
namespace Go.Proofs.Ybulkdrpg
open Go.RowKit Go.Maps Go.WideMaps Go.WideElems
variable {w w' : World} {C : Nat} {mb : Option Nat} {DM : DataW Nat} {rs : List Rc}

/-- delete(byID, c), as one step of a region that draws. -/
theorem step_delB {ops : Array Oper} {o : Oper} {a : Act} {K : Act → World → Prop} {Q : Exit → Act → World → Prop} {E : Prop}
    (hg : o.guard = none) (m x : Operand) (hop : o.op = Op.call { callee := Callee.builtin Builtin.delete, args := #[m, x], argTypes := #[24, 23] })
    (b n : Nat) (D : DataW Nat) (c : Int) (hm : a.eval m = .map (some b)) (hx : a.eval x = .int .u64 c) (hown : OB w b n D) (hw : (Lit.int .u64 c).wf = true)
    (hK : ∀ w', OB w' b n (D.del (kI c)) → w.mapTurned w' b → K (a.put o.dst (.tuple #[])) w') :
    if Region.wanted o (yielded ops a.tmps) = true then Oper.wp Yba.prog o a w K Q else E := by
  have hwt : Region.wanted o (yielded ops a.tmps) = true := by simp [Region.wanted, hg]
  rw [if_pos hwt]
  obtain ⟨w', hrun, r1, r2⟩ := hown.drop law23 Yba.underlying24 (key23 hw) o.type
  unfold Oper.wp
  simp [execOp, hop, resolve, invoke, builtin, hm, hx, hrun, Result.andThen]
  exact hK w' r1 r2

theorem Ls.drew {m : Value} {es : List (Nat × Value)} (h : Ls w C m es) : Ls w.drew C m es := h.same (fun _ _ => rfl)

/-- drop: raw. -/
theorem drop_raw (b n j : Nat) (es : List (Nat × Value)) (cl : Array Value) (R : Nat) (c : Int) (hLs : Ls w C (.map (some b)) es) (hj : j < es.length) (hB : OB w b n DM) (hbE : ¬ inL C es b) (hR : Bk w R cl 78) (hRE : ¬ inL C es R)
    (h0 : cl[0]? = some (.int .u64 c)) (h6 : cl[6]? = some (pt es[j].1)) (hw : (Lit.int .u64 c).wf = true) :
    Calls Yba.prog 11 #[.pointer (some ⟨C, 0, none⟩), pt R] w fun e w' => e = .returned (.tuple #[]) ∧ Ls w' C (.map (some b)) (es.eraseIdx j) ∧ OB w' b n (DM.del (kI c)) ∧ Only (fun k => inL C es k ∨ k = b) w w' ∧ w.heap.size ≤ w'.heap.size := by
  have c0 : w.cell? ⟨R, 0, none⟩ = some (.int .u64 c) := by rw [hR.cell, h0]
  have c6 : w.cell? ⟨R, 6, none⟩ = some (pt es[j].1) := by rw [hR.cell, h6]
  go_enter Yba.func11, Yba.ntmps11
  go_wp2_with fail
  go_region_held3 (fun w' => w'.cell? ⟨R, 6, none⟩ = some (pt es[j].1)) (first | exact c6 | assumption | go_keep)
    (first | (go_at_call 24; refine (remove_any hLs.drew hj).mono ?_; rintro e w1 ⟨rfl, hS1, hO1, hLs1⟩; have hR1 : Bk w1 R cl 78 := (hO1.block R hR.lt hRE).trans hR; have c61 : w1.cell? ⟨R, 6, none⟩ = some (pt es[j].1) := by (rw [hR1.cell, h6])))
  have d0 : w1.cell? ⟨R, 0, none⟩ = some (.int .u64 c) := by rw [hR1.cell, h0]
  have q0 := hLs1.cell0.1
  have hB1 : OB w1 b n DM := own_same hB (hO1.block b (own_lt hB) hbE)
  have HB : Hid (OB w1.drew b n DM) := own_same (w := w1) hB1 rfl
  clear hB1
  go_wp2_with fail
  go_region_law (refine step_delB rfl (.tmp 15) (.tmp 19) rfl b n DM c (by simp [Act.eval]) (by simp [Act.eval]) HB.out hw ?_; intro w2 hB2 ht2)
  all_goals
    go_wp2_with fail
    go_end0
    have hg2 := ht2.grown
    have e2 : ∀ k, k < w1.heap.size → k ≠ b → w2.heap[k]? = w1.heap[k]? := fun k hk hne => hg2.block k hk (fun e => hne (by cases e; rfl))
    have hne1 : ∀ k, inL C (es.eraseIdx j) k → k ≠ b := fun k hk e => hbE (e ▸ (hk.elim Or.inl (fun hk => Or.inr (by
      obtain ⟨x, hx, rfl⟩ := List.mem_map.1 hk
      exact List.mem_map.2 ⟨x, List.mem_of_mem_eraseIdx hx, rfl⟩))))
    have hs2 : w1.heap.size ≤ w2.heap.size := hg2.size
    have hs1 : w1.heap.size = w.heap.size := hS1
    refine ⟨rfl, hLs1.same (fun k hk => e2 k (hLs1.lt k hk) (hne1 k hk)), hB2, ?_, by omega⟩
    exact ⟨hg2.os.trans hO1.os, hg2.tape.trans hO1.tape, hg2.output.trans hO1.output, by omega, fun k hk a => (e2 k (by omega) (fun e => a (Or.inr e))).trans (hO1.block k hk (fun i => a (Or.inl i)))⟩
end Go.Proofs.Ybulkdrpg
