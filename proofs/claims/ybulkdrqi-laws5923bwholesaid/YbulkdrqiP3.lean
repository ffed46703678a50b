import Derived.Test.YbulkdrqiP2
namespace Go.Proofs.Ybulkdrqi
open Go.RowKit

theorem Yba.info92 : (Yba.prog.info? 92).map (fun i => (i.zero, i.size, i.bytes)) = some (some (.agg #[.int .u64 0, .int .i64 0, .int .i64 0]), 3, 24) := by kernel_rfl

def qz : Array Value := #[.slice none 0 0, .int .u64 0] ++ Array.replicate 64 (.int .u8 0) ++ #[.int .u64 0] ++ Array.replicate 64 (.int .u8 0) ++ #[.int .u64 0] ++ Array.replicate 64 (.int .u8 0)
theorem qz_size : qz.size = 196 := by simp [qz]
theorem qz_66 : qz[66]? = some (.int .u64 0) := by kernel_rfl
theorem qz_131 : qz[131]? = some (.int .u64 0) := by kernel_rfl
theorem zero88 (w : World) : (zeroValue 88).run Yba.prog w = .ok (.agg qz) w := by kernel_rfl

def q2 (CB n : Nat) : Array Value := (qz.setIfInBounds 0 (.slice (some ⟨CB, 0, none⟩) n n)).setIfInBounds 1 (.int .u64 ((n : Int) - 1))
theorem q2_eq (CB n : Nat) : (qz.setIfInBounds 0 (.slice (some ⟨CB, 0, none⟩) n n)).setIfInBounds 1 (.int .u64 ((n : Int) - 1)) = q2 CB n := rfl
theorem q2_size (CB n : Nat) : (q2 CB n).size = 196 := by simp [q2, qz_size]
theorem q2_0 (CB n : Nat) : (q2 CB n)[0]? = some (.slice (some ⟨CB, 0, none⟩) n n) := by simp [q2, qz_size]
theorem q2_1 (CB n : Nat) : (q2 CB n)[1]? = some (.int .u64 ((n : Int) - 1)) := by simp [q2, qz_size]
theorem q2_66 (CB n : Nat) : (q2 CB n)[66]? = some (.int .u64 0) := by
  rw [q2, Array.getElem?_setIfInBounds_ne (by omega), Array.getElem?_setIfInBounds_ne (by omega)]; exact qz_66
theorem q2_131 (CB n : Nat) : (q2 CB n)[131]? = some (.int .u64 0) := by
  rw [q2, Array.getElem?_setIfInBounds_ne (by omega), Array.getElem?_setIfInBounds_ne (by omega)]; exact qz_131

theorem made_at (z : Array Value) (m j : Nat) (hj : j < m) : (madeCells z m)[j]? = some z[j % z.size]! := by simp [madeCells, hj]

theorem Ring.congr {QB CB n hd tl : Nat} {T T' : Nat → Nat} {JI JI' JV JV' : Nat → Int} {w : World} (h : Ring QB CB n hd tl T JI JV w) (e : ∀ i, i < n → T i = T' i) (e1 : ∀ i, i < n → JI i = JI' i) (e2 : ∀ i, i < n → JV i = JV' i) : Ring QB CB n hd tl T' JI' JV' w :=
  ⟨h.ne, h.q0, h.q1, h.qh, h.qt, h.fh, h.ft, fun i hi => by rw [← e i hi, ← e1 i hi, ← e2 i hi]; exact h.cells i hi, h.th⟩

theorem ring_made (w : World) (n : Nat) : Ring (w.heap.size + 1) w.heap.size n 0 0 (fun _ => 0) (fun _ => 0) (fun _ => 0)
    ((w.alloc (.cells (madeCells #[.int .u64 0, .int .i64 0, .int .i64 0] (n * 3)) 92)).alloc (.cells (q2 w.heap.size n) 88)) := by
  have hs : (w.alloc (.cells (madeCells #[.int .u64 0, .int .i64 0, .int .i64 0] (n * 3)) 92)).heap.size = w.heap.size + 1 := World.size_alloc _ _
  have hc : ∀ o, ((w.alloc (.cells (madeCells #[.int .u64 0, .int .i64 0, .int .i64 0] (n * 3)) 92)).alloc (.cells (q2 w.heap.size n) 88)).cell? ⟨w.heap.size + 1, o, none⟩ = (q2 w.heap.size n)[o]? := fun o => World.cell?_alloc_at _ _ _ _ hs.symm
  refine ⟨by omega, by rw [hc]; exact q2_0 _ _, by rw [hc]; exact q2_1 _ _, by rw [hc]; exact q2_66 _ _, by rw [hc]; exact q2_131 _ _, ?_, ?_, fun i hi => ?_, ?_⟩
  · rw [← hs]; simp
  · rw [← hs]; simp
  · refine World.rangeAt_alloc (fun j v hv => ?_) _
    rw [World.cell?_alloc_at _ _ _ _ rfl]
    have hj : j < 3 := by simpa [cellL] using (List.getElem?_eq_some_iff.1 hv).1
    rw [made_at _ _ _ (by omega), ← hv]
    have : (i * 3 + j) % 3 = j := by omega
    simp only [List.size_toArray, List.length_cons, List.length_nil, Nat.zero_add, Nat.reduceAdd, this]
    match j, hj with
    | 0, _ => rfl
    | 1, _ => rfl
    | 2, _ => rfl
  · exact World.there_alloc (there_made _ _ _ _) _

theorem Ring.turned {QB CB n hd tl : Nat} {T : Nat → Nat} {JI JV : Nat → Int} {w w1 : World} {c x : Nat} (h : Ring QB CB n hd tl T JI JV w) (hc : c < n) (hw : w1 = w.setCell ⟨CB, c * 3, none⟩ (.int .u64 (x : Int))) : Ring QB CB n hd tl (upd T c x) JI JV w1 := by
  rw [hw]; exact h.setTurn c x hc
theorem below_turned {CB o : Nat} {w0 w w1 : World} {v : Value} {B : Nat} (hB : Below B w0 w) (hw : w1 = w.setCell ⟨B + CB, o, none⟩ v) : Below B w0 w1 := by
  rw [hw]; exact hB.setCell (by simp) _
theorem size_turned {CB o S : Nat} {w w1 : World} {v : Value} (hS : w.heap.size = S) (hw : w1 = w.setCell ⟨CB, o, none⟩ v) : w1.heap.size = S := by
  rw [hw, ← hS]; simp [World.setCell]

set_option maxRecDepth 100000 in
theorem newRing (n : Nat) (w : World) (hn : 0 < n) (hm : n ≤ 16) :
    Calls Yba.prog 5 #[.int .i64 (n : Int)] w fun e w' => e = .returned (.pointer (some ⟨w.heap.size + 1, 0, none⟩)) ∧ Ring (w.heap.size + 1) w.heap.size n 0 0 (fun i => i) (fun _ => 0) (fun _ => 0) w' ∧ Below w.heap.size w w' ∧ w'.heap.size = w.heap.size + 2 := by
  have hmk := fun w => run_make_any (P := Yba.prog) 86 92 _ 3 24 Yba.underlying86 Yba.info92 .i64 .i64 n (by omega) (by omega) w
  have hw1 : IntKind.i64.wrap ((n : Int) - 1) = (n : Int) - 1 := by rw [IntKind.wrap_i64]; omega
  have hw2 : IntKind.u64.wrap ((n : Int) - 1) = (n : Int) - 1 := by rw [IntKind.wrap_u64]; omega
  have hz := zero88
  have hzs := qz_size
  have hze : (qz = #[]) = False := by simp only [eq_iff_iff, iff_false]; intro h; rw [h] at hzs; simp at hzs
  have hq := q2_eq w.heap.size n
  have hqs := q2_size w.heap.size n
  go_enter Yba.func5, Yba.ntmps5
  go_upto_region 2 with fail
  have hR0 := ring_made w n
  have hB0 : Below w.heap.size w ((w.alloc (.cells (madeCells #[.int .u64 0, .int .i64 0, .int .i64 0] (n * 3)) 92)).alloc (.cells (q2 w.heap.size n) 88)) := by go_grown
  have hS0 : ((w.alloc (.cells (madeCells #[.int .u64 0, .int .i64 0, .int .i64 0] (n * 3)) 92)).alloc (.cells (q2 w.heap.size n) 88)).heap.size = w.heap.size + 2 := by simp
  clear hz hzs hze hq hqs hmk
  generalize (w.alloc (.cells (madeCells #[.int .u64 0, .int .i64 0, .int .i64 0] (n * 3)) 92)).alloc (.cells (q2 w.heap.size n) 88) = wx at *
  have q0 := hR0.q0
  go_wp2_with fail
  clear q0
  go_loopw [17] (fun i wr => ∃ k : Nat, k ≤ n ∧ i = .int .i64 k ∧ Ring (w.heap.size + 1) w.heap.size n 0 0 (fun i => if i < k then i else 0) (fun _ => 0) (fun _ => 0) wr ∧ Below w.heap.size w wr ∧ wr.heap.size = w.heap.size + 2) (fun i _ => n - (intOf i).toNat)
  case atStart => exact ⟨0, Nat.zero_le _, rfl, hR0.congr (fun i _ => by simp) (fun _ _ => rfl) (fun _ _ => rfl), hB0, hS0⟩
  case round =>
    obtain ⟨k, hk, rfl, hR, hB, hS⟩ := hrel
    by_cases hlt : k < n
    · have q0 := hR.q0
      have z0 := hR.cells k hlt 0 _ rfl
      have z1 := (hR.there0 k hlt).2
      have i0 : (0 : Int) ≤ (k : Int) := by omega
      have i1 : (k : Int) < (n : Int) := by omega
      have hw3 : IntKind.u64.wrap (k : Int) = (k : Int) := by rw [IntKind.wrap_u64]; omega
      go_wp2_with (go_at_call 13; refine (store64 w.heap.size (k * 3) k _ wr z0 z1).mono ?_; rintro e w1 ⟨rfl, hw1⟩; have hR1 := hR.turned hlt hw1; have hB1 := below_turned (CB := 0) hB hw1; have hS1 := size_turned hS hw1; clear hw1)
      go_roundw
      case rel =>
        refine ⟨k + 1, by omega, by go_num, hR1.congr (fun i _ => ?_) (fun _ _ => rfl) (fun _ _ => rfl), hB1, hS1⟩
        simp only [upd]
        by_cases e : i = k
        · subst e; simp
        · simp only [if_neg e]; by_cases e2 : i < k
          · rw [if_pos e2, if_pos (by omega)]
          · rw [if_neg e2, if_neg (by omega)]
      case measure => simp [intOf]; omega
    · obtain rfl : k = n := by omega
      go_wp2_with fail
      go_ret
      exact ⟨rfl, hR.congr (fun i hi => by simp [hi]) (fun _ _ => rfl) (fun _ _ => rfl), hB, hS⟩
end Go.Proofs.Ybulkdrqi
