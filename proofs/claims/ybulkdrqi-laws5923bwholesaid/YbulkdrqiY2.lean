import Derived.Test.YbulkdrqiY1
import Derived.Maps.RangeWalk
namespace Go.Proofs.Ybulkdrqi
open Go.RowKit Go.Conc

/-! ### cancelled -/
theorem eq31_nil (w : World) : (binOp .eql 31 (.chan none) (.chan none)).run Yba.prog w = .ok (.bool true) w := by kernel_rfl
theorem eq31_some (c : Nat) (w : World) : (binOp .eql 31 (.chan (some c)) (.chan none)).run Yba.prog w = .ok (.bool false) w := by kernel_rfl
set_option maxRecDepth 100000 in
theorem cancelled_nil (b : Nat) (w : World) (h : w.cell? ⟨b, 4, none⟩ = some (.chan none)) :
    Calls Yba.prog 18 #[.pointer (some ⟨b, 0, none⟩)] w fun e w' => e = .returned (.bool false) ∧ w' = w := by
  have he := eq31_nil
  go_enter Yba.func18, Yba.ntmps18
  go_wp2
  go_ret
  exact ⟨rfl, rfl⟩

set_option maxRecDepth 100000 in
theorem cancelled_open (b c cap s r : Nat) (tm : Bool) (w : World) (h : w.cell? ⟨b, 4, none⟩ = some (.chan (some c))) (hc : w.heap[c]? = some (.chan cap #[] false s r tm)) :
    Calls Yba.prog 18 #[.pointer (some ⟨b, 0, none⟩)] w fun e w' => e = .returned (.bool false) ∧ w' = w := by
  have he := eq31_some
  refine calls_of_wpN Yba.func18 rfl ?_
  simp only [Yba.ntmps18, List.size_toArray, List.length_cons, List.length_nil, Nat.reduceAdd, Nat.reduceSub, Array.replicate_succ, Array.replicate_zero, List.push_toArray, List.append_toArray, List.nil_append, List.cons_append]
  refine wpN_seq_wp ?_
  go_wp2_with fail
  refine wpN_seq_wp ?_
  go_wp2_with fail
  refine wpN_seq_wp ?_
  go_wp2_with fail
  refine wpN_seq (wpN_region ?_)
  refine Rg.sel_default (i := 0) (rest := [1, 2]) (c := c) (z := .agg #[]) rfl rfl ?_ hc ?_
  · simp [go_sem, execOp, rcase, Act.eval]
  refine Rg.op (i := 1) (rest := [2]) (v := .int .i64 (-1)) (w' := w) rfl rfl ?_ ?_
  · simp [go_sem, execOp, Act.eval, Act.put, goInt]
  refine Rg.op (i := 2) (rest := []) (v := .bool false) (w' := w) rfl rfl ?_ (Rg.nil ?_)
  · simp [go_sem, execOp, Act.eval, Act.put, goInt]
  refine wpN_of_wp ?_
  go_frame
  go_wp2_with fail
  go_ret
  exact ⟨rfl, rfl⟩

set_option maxRecDepth 100000 in
theorem cancelled_shut (b c cap s r : Nat) (tm : Bool) (w : World) (h : w.cell? ⟨b, 4, none⟩ = some (.chan (some c))) (hc : w.heap[c]? = some (.chan cap #[] true s r tm)) :
    Calls Yba.prog 18 #[.pointer (some ⟨b, 0, none⟩)] w fun e w' => e = .returned (.bool true) ∧ w' = w := by
  have he := eq31_some
  refine calls_of_wpN Yba.func18 rfl ?_
  simp only [Yba.ntmps18, List.size_toArray, List.length_cons, List.length_nil, Nat.reduceAdd, Nat.reduceSub, Array.replicate_succ, Array.replicate_zero, List.push_toArray, List.append_toArray, List.nil_append, List.cons_append]
  refine wpN_seq_wp ?_
  go_wp2_with fail
  refine wpN_seq_wp ?_
  go_wp2_with fail
  refine wpN_seq_wp ?_
  go_wp2_with fail
  refine wpN_seq (wpN_region ?_)
  refine Rg.sel_shut (i := 0) (rest := [1, 2]) (c := c) (z := .agg #[]) rfl rfl ?_ hc ?_
  · simp [go_sem, execOp, rcase, Act.eval]
  refine Rg.op (i := 1) (rest := [2]) (v := .int .i64 0) (w' := w) rfl rfl ?_ ?_
  · simp [go_sem, execOp, Act.eval, Act.put, goInt]
  refine Rg.op (i := 2) (rest := []) (v := .bool true) (w' := w) rfl rfl ?_ (Rg.nil ?_)
  · simp [go_sem, execOp, Act.eval, Act.put, goInt]
  refine wpN_of_wp ?_
  go_frame
  go_wp2_with fail
  go_ret
  exact ⟨rfl, rfl⟩
end Go.Proofs.Ybulkdrqi
