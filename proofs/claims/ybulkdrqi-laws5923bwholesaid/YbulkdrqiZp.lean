import Derived.Test.YbulkdrqiZ6
namespace Go.Proofs.Ybulkdrqi
open Go.RowKit Go.Conc

theorem Yba.bytes38 : ∃ i, Yba.prog.info? 38 = some i ∧ i.bytes = 0 := by
  have h : (Yba.prog.info? 38).map (·.bytes) = some 0 := by kernel_rfl
  obtain ⟨i, hi, hb⟩ := Option.map_eq_some_iff.1 h
  exact ⟨i, hi, hb⟩
theorem mkc1 (w : World) : (Instr.makeChan 29 (.int .i64 1)).run Yba.prog w = .ok (.chan (some w.heap.size)) (w.alloc (.chan 1 #[] false 0 0 false)) := by
  obtain ⟨i, hi, hb⟩ := Yba.bytes38
  simpa using run_makeChan (P := Yba.prog) (w := w) Yba.underlying29 hi .i64 1 (by omega) (by rw [hb]; omega)
theorem mkc0 (w : World) : (Instr.makeChan 29 (.int .i64 0)).run Yba.prog w = .ok (.chan (some w.heap.size)) (w.alloc (.chan 0 #[] false 0 0 false)) := by
  obtain ⟨i, hi, hb⟩ := Yba.bytes38
  simpa using run_makeChan (P := Yba.prog) (w := w) Yba.underlying29 hi .i64 0 (by omega) (by rw [hb]; omega)
theorem p2_eq (n : Int) (q c : Value) : ((((pz.setIfInBounds 1 (.int .i64 n)).setIfInBounds 2 (.int .i64 1)).setIfInBounds 3 (.int .i64 1)).setIfInBounds 5 q).setIfInBounds 209 c = p2 n q c := rfl
theorem p2_size (n : Int) (q c : Value) : (p2 n q c).size = 323 := by simp [p2, pz_size]

/-- p is made. -/
structure I0 (w1 w' : World) (H P wake QB : Nat) : Prop where
  pp : Pp w' P ⟨.chan none, wake, .slice none 0 0, .pointer none, false, false, false, false, 0, 0, 0, QB⟩
  q1 : w'.cell? ⟨QB, 66, none⟩ = some (.int .u64 0)
  q2 : w'.cell? ⟨QB, 131, none⟩ = some (.int .u64 0)
  wk : w'.heap[wake]? = some (.chan 1 #[] false 0 0 false)
  lt : H < QB ∧ H < wake ∧ QB < P ∧ wake < P ∧ QB ≠ wake ∧ P < w'.heap.size
  be : Below (H + 1) w1 w'


theorem p2_at (n : Int) (q c : Value) (i : Nat) (h : i ≠ 1 ∧ i ≠ 2 ∧ i ≠ 3 ∧ i ≠ 5 ∧ i ≠ 209) : (p2 n q c)[i]? = pz[i]? := by
  unfold p2
  rw [Array.getElem?_setIfInBounds_ne (by omega), Array.getElem?_setIfInBounds_ne (by omega), Array.getElem?_setIfInBounds_ne (by omega), Array.getElem?_setIfInBounds_ne (by omega), Array.getElem?_setIfInBounds_ne (by omega)]
theorem p2_5 (n : Int) (q c : Value) : (p2 n q c)[5]? = some q := by
  unfold p2
  rw [Array.getElem?_setIfInBounds_ne (by omega)]
  simp [pz_size]
theorem p2_209 (n : Int) (q c : Value) : (p2 n q c)[209]? = some c := by
  unfold p2
  simp [pz_size]
theorem pz_4 : pz[4]? = some (.chan none) := by kernel_rfl
theorem pz_73 : pz[73]? = some (.int .u32 0) := by kernel_rfl
theorem pz_74 : pz[74]? = some (.int .u32 0) := by kernel_rfl
theorem pz_140 : pz[140]? = some (.int .u32 0) := by kernel_rfl
theorem pz_206 : pz[206]? = some (.int .u32 0) := by kernel_rfl
theorem pz_276 : pz[276]? = some (.slice none 0 0) := by kernel_rfl
theorem pz_277 : pz[277]? = some (.int .i64 0) := by kernel_rfl
theorem pz_278 : pz[278]? = some (.int .i64 0) := by kernel_rfl
theorem pz_279 : pz[279]? = some (.int .i64 0) := by kernel_rfl
theorem pz_280 : pz[280]? = some (.pointer none) := by kernel_rfl
theorem pz_287 : pz[287]? = some (.int .i64 0) := by kernel_rfl
theorem pz_322 : pz[322]? = some (.pointer none) := by kernel_rfl

theorem pp_made (w : World) (n : Int) (QB wake : Nat) : Pp (w.alloc (.cells (p2 n (.pointer (some ⟨QB, 0, none⟩)) (.chan (some wake))) 64)) w.heap.size ⟨.chan none, wake, .slice none 0 0, .pointer none, false, false, false, false, 0, 0, 0, QB⟩ := by
  have hc : ∀ i, (w.alloc (.cells (p2 n (.pointer (some ⟨QB, 0, none⟩)) (.chan (some wake))) 64)).cell? ⟨w.heap.size, i, none⟩ = (p2 n (.pointer (some ⟨QB, 0, none⟩)) (.chan (some wake)))[i]? := fun i => World.cell?_alloc_at _ _ _ _ rfl
  refine ⟨fun x hx => ?_, fun j hj => ?_⟩
  · rw [hc]
    simp only [PV.lay, List.mem_cons, List.not_mem_nil, or_false] at hx
    rcases hx with rfl | rfl | rfl | rfl | rfl | rfl | rfl | rfl | rfl | rfl | rfl | rfl | rfl | rfl
    · rw [p2_at _ _ _ _ (by omega)]; exact pz_4
    · exact p2_5 _ _ _
    · rw [p2_at _ _ _ _ (by omega)]; exact pz_73
    · rw [p2_at _ _ _ _ (by omega)]; exact pz_74
    · rw [p2_at _ _ _ _ (by omega)]; exact pz_140
    · rw [p2_at _ _ _ _ (by omega)]; exact pz_206
    · exact p2_209 _ _ _
    · rw [p2_at _ _ _ _ (by omega)]; exact pz_276
    · rw [p2_at _ _ _ _ (by omega)]; exact pz_277
    · rw [p2_at _ _ _ _ (by omega)]; exact pz_278
    · rw [p2_at _ _ _ _ (by omega)]; exact pz_279
    · rw [p2_at _ _ _ _ (by omega)]; exact pz_280
    · rw [p2_at _ _ _ _ (by omega)]; exact pz_287
    · rw [p2_at _ _ _ _ (by omega)]; exact pz_322
  · refine ⟨?_, by simp⟩
    rw [Nat.zero_add, hc, Array.getElem?_eq_getElem (by rw [p2_size]; exact hj)]
    rfl

theorem i0_a {w1 w2 : World} {H : Nat} (hS1 : w1.heap.size = H + 1) (n : Int) (hR : Ring (w1.drew.heap.size + 1) w1.drew.heap.size 1 0 0 (fun i => i) (fun _ => 0) (fun _ => 0) w2) (hB : Below w1.drew.heap.size w1.drew w2) (hS : w2.heap.size = w1.drew.heap.size + 2) :
    I0 w1 ((w2.alloc (.chan 1 #[] false 0 0 false)).alloc (.cells (p2 n (.pointer (some ⟨w1.heap.size + 1, 0, none⟩)) (.chan (some (w1.heap.size + 2)))) 64)) H (w1.heap.size + 2 + 1) (w1.heap.size + 2) (w1.heap.size + 1) := by
  have hd : w1.drew.heap.size = w1.heap.size := rfl
  rw [hd] at hR hB hS
  have s1 : (w2.alloc (.chan 1 #[] false 0 0 false)).heap.size = w1.heap.size + 2 + 1 := by rw [World.size_alloc, hS]
  have b1 : Below w2.heap.size w2 ((w2.alloc (.chan 1 #[] false 0 0 false)).alloc (.cells (p2 n (.pointer (some ⟨w1.heap.size + 1, 0, none⟩)) (.chan (some (w1.heap.size + 2)))) 64)) := by go_grown
  have b2 : Below (w2.alloc (.chan 1 #[] false 0 0 false)).heap.size (w2.alloc (.chan 1 #[] false 0 0 false)) ((w2.alloc (.chan 1 #[] false 0 0 false)).alloc (.cells (p2 n (.pointer (some ⟨w1.heap.size + 1, 0, none⟩)) (.chan (some (w1.heap.size + 2)))) 64)) := by go_grown
  refine ⟨?_, cell_later b1 hR.qh, cell_later b1 hR.qt, ?_, by rw [World.size_alloc, s1]; omega, ?_⟩
  · have := pp_made (w2.alloc (.chan 1 #[] false 0 0 false)) n (w1.heap.size + 1) (w1.heap.size + 2)
    rw [s1] at this
    exact this
  · rw [b2.block _ (by rw [s1]; omega)]
    have := heap_alloc_new w2 (.chan 1 #[] false 0 0 false)
    rw [hS] at this
    exact this
  · have hb : Below (H + 1) w1 w2 := ⟨hB.os, hB.tape, hB.output, hB.size, fun k hk => hB.block k (by omega)⟩
    exact hb.trans (b1.mono (by omega))

theorem i0_b {w1 w2 : World} {H : Nat} (hS1 : w1.heap.size = H + 1) (n : Int) (hR : Ring ((w1.alloc (.chan 1 #[] false 0 0 false)).drew.heap.size + 1) (w1.alloc (.chan 1 #[] false 0 0 false)).drew.heap.size 1 0 0 (fun i => i) (fun _ => 0) (fun _ => 0) w2)
    (hB : Below (w1.alloc (.chan 1 #[] false 0 0 false)).drew.heap.size (w1.alloc (.chan 1 #[] false 0 0 false)).drew w2) (hS : w2.heap.size = (w1.alloc (.chan 1 #[] false 0 0 false)).drew.heap.size + 2) :
    I0 w1 (w2.alloc (.cells (p2 n (.pointer (some ⟨w1.heap.size + 1 + 1, 0, none⟩)) (.chan (some w1.heap.size))) 64)) H (w1.heap.size + 1 + 2) w1.heap.size (w1.heap.size + 1 + 1) := by
  have hd : (w1.alloc (.chan 1 #[] false 0 0 false)).drew.heap.size = w1.heap.size + 1 := World.size_alloc _ _
  rw [hd] at hR hB hS
  have b1 : Below w2.heap.size w2 (w2.alloc (.cells (p2 n (.pointer (some ⟨w1.heap.size + 1 + 1, 0, none⟩)) (.chan (some w1.heap.size))) 64)) := by go_grown
  have b0 : Below w1.heap.size w1 (w1.alloc (.chan 1 #[] false 0 0 false)).drew := by go_grown
  refine ⟨?_, cell_later b1 hR.qh, cell_later b1 hR.qt, ?_, by rw [World.size_alloc, hS]; omega, ?_⟩
  · have := pp_made w2 n (w1.heap.size + 1 + 1) w1.heap.size
    rw [hS] at this
    exact this
  · rw [b1.block _ (by omega), hB.block _ (by omega)]
    exact heap_alloc_new w1 (.chan 1 #[] false 0 0 false)
  · have hb : Below (H + 1) w1 w2 := (b0.mono (by omega)).trans (hB.mono (by omega))
    exact hb.trans (b1.mono (by omega))
end Go.Proofs.Ybulkdrqi
