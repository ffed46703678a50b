import Derived.Test.YbulkdrqiY5
namespace Go.Proofs.Ybulkdrqi
open Go.RowKit Go.Conc

/-! ### the result ring -/
structure Rr (R CB n hd tl : Nat) (I X : Nat → Int) (w : World) : Prop where
  ne : R ≠ CB
  q0 : w.cell? ⟨R, 0, none⟩ = some (.slice (some ⟨CB, 0, none⟩) n n)
  q1 : w.cell? ⟨R, 1, none⟩ = some (.int .u64 ((n : Int) - 1))
  qh : w.cell? ⟨R, 66, none⟩ = some (.int .u64 (hd : Int))
  qt : w.cell? ⟨R, 131, none⟩ = some (.int .u64 (tl : Int))
  fh : w.frozen? ⟨R, 66, none⟩ = false
  ft : w.frozen? ⟨R, 131, none⟩ = false
  cells : ∀ i, i < n → w.rangeAt CB (i * 2) [.int .i64 (I i), .int .i64 (X i)]
  th : w.there CB 0 (n * 2)

variable {R CB n hd tl : Nat} {I X : Nat → Int} {w : World}

theorem Rr.same {w' : World} (h : Rr R CB n hd tl I X w) (e1 : w'.heap[R]? = w.heap[R]?) (e2 : w'.heap[CB]? = w.heap[CB]?) : Rr R CB n hd tl I X w' :=
  ⟨h.ne, by rw [World.cell?_of_block (w := w) e1]; exact h.q0, by rw [World.cell?_of_block (w := w) e1]; exact h.q1, by rw [World.cell?_of_block (w := w) e1]; exact h.qh, by rw [World.cell?_of_block (w := w) e1]; exact h.qt,
    by rw [World.frozen?_of_block (w := w) e1]; exact h.fh, by rw [World.frozen?_of_block (w := w) e1]; exact h.ft, fun i hi => rangeAt_block (h.cells i hi) e2, there_block h.th e2⟩
theorem Rr.qlt (h : Rr R CB n hd tl I X w) : R < w.heap.size := block_lt_of_cell h.q0
theorem Rr.clt (h : Rr R CB n hd tl I X w) (hn : 0 < n) : CB < w.heap.size := block_lt_of_cell (h.cells 0 hn 0 _ rfl)
theorem Rr.later {w' : World} (h : Rr R CB n hd tl I X w) (hn : 0 < n) (hB : Below w.heap.size w w') : Rr R CB n hd tl I X w' :=
  h.same (hB.block _ h.qlt) (hB.block _ (h.clt hn))
theorem Rr.drew (h : Rr R CB n hd tl I X w) : Rr R CB n hd tl I X w.drew := h.same rfl rfl
theorem Rr.setH (h : Rr R CB n hd tl I X w) (x : Nat) : Rr R CB n x tl I X (w.setCell ⟨R, 66, none⟩ (.int .u64 (x : Int))) := by
  have o : ∀ i, i ≠ 66 → (w.setCell ⟨R, 66, none⟩ (.int .u64 (x : Int))).cell? ⟨R, i, none⟩ = w.cell? ⟨R, i, none⟩ := fun i hi => World.cell?_setCell_other w _ _ _ (by intro e; injection e with _ e; exact hi e.symm)
  have eC : (w.setCell ⟨R, 66, none⟩ (.int .u64 (x : Int))).heap[CB]? = w.heap[CB]? := Below.heap_setCell _ _ _ _ (Ne.symm h.ne)
  exact ⟨h.ne, (o 0 (by omega)).trans h.q0, (o 1 (by omega)).trans h.q1, World.cell?_setCell_same' w _ _ (by rw [h.qh]; rfl), (o 131 (by omega)).trans h.qt, by simpa using h.fh, by simpa using h.ft, fun i hi => rangeAt_block (h.cells i hi) eC, there_block h.th eC⟩
theorem Rr.setT (h : Rr R CB n hd tl I X w) (x : Nat) : Rr R CB n hd x I X (w.setCell ⟨R, 131, none⟩ (.int .u64 (x : Int))) := by
  have o : ∀ i, i ≠ 131 → (w.setCell ⟨R, 131, none⟩ (.int .u64 (x : Int))).cell? ⟨R, i, none⟩ = w.cell? ⟨R, i, none⟩ := fun i hi => World.cell?_setCell_other w _ _ _ (by intro e; injection e with _ e; exact hi e.symm)
  have eC : (w.setCell ⟨R, 131, none⟩ (.int .u64 (x : Int))).heap[CB]? = w.heap[CB]? := Below.heap_setCell _ _ _ _ (Ne.symm h.ne)
  exact ⟨h.ne, (o 0 (by omega)).trans h.q0, (o 1 (by omega)).trans h.q1, (o 66 (by omega)).trans h.qh, World.cell?_setCell_same' w _ _ (by rw [h.qt]; rfl), by simpa using h.fh, by simpa using h.ft, fun i hi => rangeAt_block (h.cells i hi) eC, there_block h.th eC⟩
theorem Rr.setJob (h : Rr R CB n hd tl I X w) (c : Nat) (ji jv : Int) (hc : c < n) : Rr R CB n hd tl (upd I c ji) (upd X c jv) (w.setCells CB (c * 2) [.int .i64 ji, .int .i64 jv]) := by
  have e1 : (w.setCells CB (c * 2) [.int .i64 ji, .int .i64 jv]).heap[R]? = w.heap[R]? := block_setCells _ _ h.ne _ _ _
  refine ⟨h.ne, by rw [World.cell?_of_block (w := w) e1]; exact h.q0, by rw [World.cell?_of_block (w := w) e1]; exact h.q1, by rw [World.cell?_of_block (w := w) e1]; exact h.qh, by rw [World.cell?_of_block (w := w) e1]; exact h.qt,
    by rw [World.frozen?_of_block (w := w) e1]; exact h.fh, by rw [World.frozen?_of_block (w := w) e1]; exact h.ft, fun i hi => ?_, World.there_setCells h.th _ _ _⟩
  by_cases e : i = c
  · subst e
    rw [upd_same, upd_same]
    exact World.rangeAt_setCells_same w CB (i * 2) _ (fun j hj => by
      have := h.th (i * 2 + j) (by simp at hj; omega)
      rwa [Nat.zero_add] at this)
  · rw [upd_other _ _ e, upd_other _ _ e]
    exact World.rangeAt_setCells_apart (h.cells i hi) _ _ _ (Or.inr (by simp; omega))
theorem Rr.congr {I' X' : Nat → Int} (h : Rr R CB n hd tl I X w) (e1 : ∀ i, i < n → I i = I' i) (e2 : ∀ i, i < n → X i = X' i) : Rr R CB n hd tl I' X' w :=
  ⟨h.ne, h.q0, h.q1, h.qh, h.qt, h.fh, h.ft, fun i hi => by rw [← e1 i hi, ← e2 i hi]; exact h.cells i hi, h.th⟩

theorem Yba.size83 : (Yba.prog.info? 83).map (·.size) = some 2 := by kernel_rfl

theorem rpop_none (hR : Rr R CB n hd tl I X w) (hn : 0 < n) (he : hd = tl) :
    Calls Yba.prog 31 #[.pointer (some ⟨R, 0, none⟩)] w fun e w' => e = .returned (.tuple #[.agg #[.int .i64 0, .int .i64 0], .bool false]) ∧ Below w.heap.size w w' := by
  have hR1 := hR.later (w' := w.alloc (.cells #[.int .i64 0, .int .i64 0] 83)) hn (by go_grown)
  subst he
  have HR : Hid (Rr R CB n hd hd I X (w.alloc (.cells #[.int .i64 0, .int .i64 0] 83))) := hR1
  clear hR1
  go_enter Yba.func31, Yba.ntmps31
  go_wp2_with (first
      | (go_at_call 12; refine (load64 _ _ _ _ HR.out.qh).mono ?_; rintro e w' ⟨rfl, rfl⟩)
      | (go_at_call 12; refine (load64 _ _ _ _ HR.out.qt).mono ?_; rintro e w' ⟨rfl, rfl⟩))
  exact bodyPost_ret (v := .tuple #[.agg #[.int .i64 0, .int .i64 0], .bool false]) (by simp [results, Yba.results31, go_sem]) rfl ⟨rfl, by go_grown⟩

set_option maxRecDepth 100000 in
theorem rpop_some (hR : Rr R CB n hd tl I X w) (hn : hd < n) (hnm : n ≤ 1000000) (hne : ((hd : Int) == (tl : Int)) = false) (hand : bits .and .u64 (hd : Int) ((n : Int) - 1) = (hd : Int)) :
    Calls Yba.prog 31 #[.pointer (some ⟨R, 0, none⟩)] w fun e w' => e = .returned (.tuple #[.agg #[.int .i64 (I hd), .int .i64 (X hd)], .bool true]) ∧
      Rr R CB n (hd + 1) tl (upd I hd 0) (upd X hd 0) w' ∧ Touch R CB w w' := by
  have hn0 : 0 < n := by omega
  have c0 : (0 : Int) ≤ (hd : Int) := by omega
  have c1 : (hd : Int) < (n : Int) := by omega
  have hR1 := hR.later (w' := w.alloc (.cells #[.int .i64 0, .int .i64 0] 83)) hn0 (by go_grown)
  have HR : Hid (Rr R CB n hd tl I X (w.alloc (.cells #[.int .i64 0, .int .i64 0] 83))) := hR1
  have t0 : Touch R CB w (w.alloc (.cells #[.int .i64 0, .int .i64 0] 83)) := Touch.of_below (by go_grown)
  have hnq : w.heap.size ≠ R := by have := hR.qlt; omega
  have hnc : w.heap.size ≠ CB := by have := hR.clt hn0; omega
  have x0 := there_box w (.int .i64 0) (.int .i64 0) 83
  clear hR1 hR
  have hwr : IntKind.u64.wrap ((hd : Int) + 1) = ((hd + 1 : Nat) : Int) := by rw [IntKind.wrap_u64]; omega
  go_enter Yba.func31, Yba.ntmps31
  go_upto_region 4 with (first
      | (go_at_call 12; refine (load64 _ _ _ _ HR.out.qh).mono ?_; rintro e w' ⟨rfl, rfl⟩)
      | (go_at_call 12; refine (load64 _ _ _ _ HR.out.qt).mono ?_; rintro e w' ⟨rfl, rfl⟩))
  have hR1 := HR.out
  clear HR
  generalize w.alloc (.cells #[.int .i64 0, .int .i64 0] 83) = w1 at *
  have q0 := hR1.q0
  have q1 := hR1.q1
  go_quiet (fail)
  have hR3 : Rr R CB n hd tl I X (w1.drewN nq) := hR1.later hn0 (below_drewN (Below.refl _ _) _)
  have t2 : Touch R CB w (w1.drewN nq) := t0.trans (Touch.of_below (below_drewN (Below.refl _ _) _))
  have x2 : (w1.drewN nq).there w.heap.size 0 2 := there_block x0 (by simp)
  clear q0 q1 hR1 t0 x0
  generalize w1.drewN nq = w2 at *
  have r1 : w2.cell? ⟨CB, hd * 2, none⟩ = some (.int .i64 (I hd)) := hR3.cells hd hn 0 _ rfl
  have r2 : w2.cell? ⟨CB, hd * 2 + 1, none⟩ = some (.int .i64 (X hd)) := hR3.cells hd hn 1 _ rfl
  have hs2 : w.heap.size < w2.heap.size := by
    obtain ⟨u, hu⟩ := Option.isSome_iff_exists.1 (x2 0 (by omega)).1
    exact block_lt_of_cell hu
  go_upto_region 6 with fail
  have hR4 : Rr R CB n hd tl I X (w2.alloc (.cells #[.int .i64 (I hd), .int .i64 (X hd)] 83)) := hR3.later hn0 (by go_grown)
  have t3 : Touch R CB w (w2.alloc (.cells #[.int .i64 (I hd), .int .i64 (X hd)] 83)) := t2.trans (Touch.of_below (by go_grown))
  have x3 := World.there_alloc x2 (.cells #[.int .i64 (I hd), .int .i64 (X hd)] 83)
  have y3 : (w2.alloc (.cells #[.int .i64 (I hd), .int .i64 (X hd)] 83)).rangeAt w2.heap.size 0 [.int .i64 (I hd), .int .i64 (X hd)] := rangeAt_new w2 _ _
  have hjq : w2.heap.size ≠ R := by have := hR3.qlt; omega
  have hjc : w2.heap.size ≠ CB := by have := hR3.clt hn0; omega
  have hjr : w.heap.size ≠ w2.heap.size := by omega
  clear r1 r2 hs2 x2 t2 hR3
  generalize w2.alloc (.cells #[.int .i64 (I hd), .int .i64 (X hd)] 83) = w3 at *
  generalize w2.heap.size = J at *
  have hth1 : w3.there CB (hd * 2) 2 := fun j hj => by
    have := hR4.th (hd * 2 + j) (by omega)
    rwa [Nat.zero_add] at this
  go_upto_region 7 with (first
      | ((with_reducible refine wpList_store_hid 83 (.tmp 34) (.tmp 33) CB (hd * 2) #[.int .i64 0, .int .i64 0] 2 ?_ ?_ ?_ Yba.size83 (job_size _ _) (job_one _ _) ?_); simp [Act.eval]; simp [Act.eval]; exact hth1; intro w5 hw5 hs5; have hR5 : Rr R CB n hd tl (upd I hd 0) (upd X hd 0) w5 := hw5.out ▸ hR4.setJob hd 0 0 hn; have t5 : Touch R CB w w5 := hw5.out ▸ t3.trans (Touch.setCs _ _ _); have x5 : w5.there w.heap.size 0 2 := hw5.out ▸ World.there_setCells x3 _ _ _; have y5 : w5.rangeAt J 0 [.int .i64 (I hd), .int .i64 (X hd)] := hw5.out ▸ rangeAt_block y3 (block_setCells _ _ hjc _ _ _); clear hw5))
  clear hth1 hR4 t3 x3 y3
  go_upto_region 8 with (first
      | (go_at_call 13; refine (store64 R 66 ((hd + 1 : Nat) : Int) _ _ hR5.qh hR5.fh).mono ?_; rintro e w6 ⟨rfl, hw6⟩; have hR6 : Rr R CB n (hd + 1) tl (upd I hd 0) (upd X hd 0) w6 := hw6 ▸ hR5.setH (hd + 1); have t6 : Touch R CB w w6 := hw6 ▸ t5.trans (Touch.setQ _ _ _); have x6 : w6.there w.heap.size 0 2 := hw6 ▸ there_block x5 (Below.heap_setCell _ _ _ _ hnq); have y6 : w6.rangeAt J 0 [.int .i64 (I hd), .int .i64 (X hd)] := hw6 ▸ rangeAt_block y5 (Below.heap_setCell _ _ _ _ hjq); clear hw6))
  have k0 : w6.cell? ⟨J, 0, none⟩ = some (.int .i64 (I hd)) := y6 0 _ rfl
  have k1 : w6.cell? ⟨J, 1, none⟩ = some (.int .i64 (X hd)) := y6 1 _ rfl
  clear y5 y6 x5 t5 hR5
  go_wp2_with (first
      | ((with_reducible refine wpList_store_hid 83 (.tmp 2) (.tmp 41) w.heap.size 0 #[.int .i64 (I hd), .int .i64 (X hd)] 2 ?_ ?_ ?_ Yba.size83 (job_size _ _) (job_one _ _) ?_); simp [Act.eval]; simp [Act.eval]; exact x6; intro w7 hw7 hs7; have hR7 := hR6.same (w' := w7) (hw7.out ▸ block_setCells _ _ (Ne.symm hnq) _ _ _) (hw7.out ▸ block_setCells _ _ (Ne.symm hnc) _ _ _); have t7 : Touch R CB w w7 := hw7.out ▸ t6.setNew (Nat.le_refl _) _ _; have v7 : w7.rangeAt w.heap.size 0 [.int .i64 (I hd), .int .i64 (X hd)] := hw7.out ▸ World.rangeAt_setCells_same w6 w.heap.size 0 _ x6; clear hw7))
  have v0 : w7.cell? ⟨w.heap.size, 0, none⟩ = some (.int .i64 (I hd)) := v7 0 _ rfl
  have v1 : w7.cell? ⟨w.heap.size, 1, none⟩ = some (.int .i64 (X hd)) := v7 1 _ rfl
  exact bodyPost_ret (v := .tuple #[.agg #[.int .i64 (I hd), .int .i64 (X hd)], .bool true]) (by simp [results, Yba.results31, go_sem, v0, v1]) rfl ⟨rfl, hR7, t7⟩
end Go.Proofs.Ybulkdrqi
