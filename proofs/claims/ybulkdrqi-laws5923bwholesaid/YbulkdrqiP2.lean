import Derived.Test.YbulkdrqiP1
namespace Go.Proofs.Ybulkdrqi
open Go.RowKit
variable {QB CB n hd tl : Nat} {T : Nat → Nat} {JI JV : Nat → Int} {w : World}

theorem pop_none (hR : Ring QB CB n hd tl T JI JV w) (hn : 0 < n) (he : hd = tl) :
    Calls Yba.prog 15 #[.pointer (some ⟨QB, 0, none⟩)] w fun e w' => e = .returned (.tuple #[.agg #[.int .i64 0, .int .i64 0], .bool false]) ∧ Below w.heap.size w w' := by
  have hR1 := hR.later (w' := w.alloc (.cells #[.int .i64 0, .int .i64 0] 90)) hn (by go_grown)
  subst he
  have HR : Hid _ := hR1
  clear hR1
  go_enter Yba.func15, Yba.ntmps15
  go_wp2_with fail
  go_loopw [] (fun wr => wr = w.alloc (.cells #[.int .i64 0, .int .i64 0] 90)) (fun _ => 0)
  case atStart => rfl
  case round =>
    subst hrel
    go_wp2_with (first
      | (go_at_call 12; refine (load64 _ _ _ _ HR.out.qh).mono ?_; rintro e w' ⟨rfl, rfl⟩)
      | (go_at_call 12; refine (load64 _ _ _ _ HR.out.qt).mono ?_; rintro e w' ⟨rfl, rfl⟩))
    exact bodyPost_ret (v := .tuple #[.agg #[.int .i64 0, .int .i64 0], .bool false]) (by simp [results, Yba.results15, go_sem]) rfl ⟨rfl, by go_grown⟩

theorem Ring.drew (h : Ring QB CB n hd tl T JI JV w) : Ring QB CB n hd tl T JI JV w.drew := h.same rfl rfl
theorem Touch.drew {QB CB : Nat} (w : World) : Touch QB CB w w.drew := ⟨rfl, rfl, rfl, Nat.le_refl _, fun _ _ _ _ => rfl⟩
theorem Touch.setNew {QB CB b : Nat} {w w' : World} (h : Touch QB CB w w') (hb : w.heap.size ≤ b) (o : Nat) (vs : List Value) : Touch QB CB w (w'.setCells b o vs) :=
  have k := os_setCells b vs o w'
  ⟨k.1.trans h.os, k.2.1.trans h.tape, k.2.2.trans h.output, by rw [size_setCells]; exact h.size, fun j hj a c => (block_setCells b j (by omega) vs o w').trans (h.block j hj a c)⟩
theorem there_box (w : World) (a b : Value) (t : TypeId) : (w.alloc (.cells #[a, b] t)).there w.heap.size 0 2 := fun j hj => by
  refine ⟨?_, by simp⟩
  rw [World.cell?_alloc_at _ _ _ _ rfl, Nat.zero_add, Array.getElem?_eq_getElem (by simpa using hj)]
  rfl
theorem Ring.there1 (h : Ring QB CB n hd tl T JI JV w) (c : Nat) (hc : c < n) : w.there CB (c * 3 + 1) 2 := fun j hj => by
  have := h.th (c * 3 + 1 + j) (by omega)
  rw [Nat.zero_add] at this
  exact this

theorem pop_some (hR : Ring QB CB n hd tl T JI JV w) (hn : 0 < n) (hn2 : n < M64) (hne : ((hd : Int) == (tl : Int)) = false) (hand : bits .and .u64 (hd : Int) ((n : Int) - 1) = ((hd % n : Nat) : Int)) :
    Calls Yba.prog 15 #[.pointer (some ⟨QB, 0, none⟩)] w fun e w' => e = .returned (.tuple #[.agg #[.int .i64 (JI (hd % n)), .int .i64 (JV (hd % n))], .bool true]) ∧
      Ring QB CB n ((hd + 1) % M64) tl (upd T (hd % n) ((hd + n) % M64)) (upd JI (hd % n) 0) (upd JV (hd % n) 0) w' ∧ Touch QB CB w w' := by
  obtain ⟨c, hcc⟩ : ∃ c, c = hd % n := ⟨_, rfl⟩
  have hcn : c < n := by rw [hcc]; exact Nat.mod_lt _ hn
  rw [← hcc] at hand ⊢
  clear hcc
  obtain ⟨h', hh'⟩ : ∃ t', t' = (hd + 1) % M64 := ⟨_, rfl⟩
  have hwr : IntKind.u64.wrap ((hd : Int) + 1) = (h' : Int) := by rw [IntKind.wrap_u64, hh']; simp only [M64]; omega
  obtain ⟨g', hg'⟩ : ∃ t', t' = (hd + n) % M64 := ⟨_, rfl⟩
  have hwn : IntKind.u64.wrap (n : Int) = (n : Int) := by rw [IntKind.wrap_u64]; simp only [M64] at hn2; omega
  have hwg : IntKind.u64.wrap ((hd : Int) + (n : Int)) = (g' : Int) := by rw [IntKind.wrap_u64, hg']; simp only [M64]; omega
  rw [← hh', ← hg']
  clear hh' hg'
  have c0 : (0 : Int) ≤ (c : Int) := by omega
  have c1 : (c : Int) < (n : Int) := by omega
  have hR1 := hR.later (w' := w.alloc (.cells #[.int .i64 0, .int .i64 0] 90)) hn (by go_grown)
  have HR : Hid _ := hR1
  clear hR1
  go_enter Yba.func15, Yba.ntmps15
  go_wp2_with fail
  go_loopw [] (fun wr => wr = w.alloc (.cells #[.int .i64 0, .int .i64 0] 90)) (fun _ => 0)
  case atStart => rfl
  case round =>
    subst hrel
    have t0 : Touch QB CB w (w.alloc (.cells #[.int .i64 0, .int .i64 0] 90)) := Touch.of_below (by go_grown)
    have hnq : w.heap.size ≠ QB := by have := hR.qlt; omega
    have hnc : w.heap.size ≠ CB := by have := hR.clt hn; omega
    have x0 := there_box w (.int .i64 0) (.int .i64 0) 90
    go_upto_region 5 with (first
      | (go_at_call 12; refine (load64 _ _ _ _ HR.out.qh).mono ?_; rintro e w' ⟨rfl, rfl⟩)
      | (go_at_call 12; refine (load64 _ _ _ _ HR.out.qt).mono ?_; rintro e w' ⟨rfl, rfl⟩)
      | (go_at_call 24; refine (cas64 QB 66 hd h' _ HR.out.qh HR.out.fh).mono ?_; rintro e w1 ⟨rfl, hw1⟩; have hR2 : Ring QB CB n h' tl T JI JV w1 := hw1 ▸ HR.out.setH h'; have t1 : Touch QB CB w w1 := hw1 ▸ t0.trans (Touch.setQ _ _ _); have x1 : w1.there w.heap.size 0 2 := hw1 ▸ there_block x0 (Below.heap_setCell _ _ _ _ hnq); clear hw1))
    have q0 := hR2.q0
    have q1 := hR2.q1
    go_quiet (fail)
    have hR3 : Ring QB CB n h' tl T JI JV (w1.drewN nq) := hR2.later hn (below_drewN (Below.refl _ _) _)
    have t2 : Touch QB CB w (w1.drewN nq) := t1.trans (Touch.of_below (below_drewN (Below.refl _ _) _))
    have x2 : (w1.drewN nq).there w.heap.size 0 2 := there_block x1 (by simp)
    clear q0 q1
    generalize w1.drewN nq = w2 at *
    have r1 : w2.cell? ⟨CB, c * 3 + 1, none⟩ = some (.int .i64 (JI c)) := hR3.cells c hcn 1 _ rfl
    have r2 : w2.cell? ⟨CB, c * 3 + 2, none⟩ = some (.int .i64 (JV c)) := hR3.cells c hcn 2 _ rfl
    have hs2 : w.heap.size < w2.heap.size := by
      obtain ⟨u, hu⟩ := Option.isSome_iff_exists.1 (x2 0 (by omega)).1
      exact block_lt_of_cell hu
    go_upto_region 7 with fail
    have hR4 : Ring QB CB n h' tl T JI JV (w2.alloc (.cells #[.int .i64 (JI c), .int .i64 (JV c)] 90)) := hR3.later hn (by go_grown)
    have t3 : Touch QB CB w (w2.alloc (.cells #[.int .i64 (JI c), .int .i64 (JV c)] 90)) := t2.trans (Touch.of_below (by go_grown))
    have x3 := World.there_alloc x2 (.cells #[.int .i64 (JI c), .int .i64 (JV c)] 90)
    have y3 : (w2.alloc (.cells #[.int .i64 (JI c), .int .i64 (JV c)] 90)).rangeAt w2.heap.size 0 [.int .i64 (JI c), .int .i64 (JV c)] := rangeAt_new w2 _ _
    have hjq : w2.heap.size ≠ QB := by have := hR3.qlt; omega
    have hjc : w2.heap.size ≠ CB := by have := hR3.clt hn; omega
    have hjr : w.heap.size ≠ w2.heap.size := by omega
    clear r1 r2 hs2 x2 t2 hR3
    generalize w2.alloc (.cells #[.int .i64 (JI c), .int .i64 (JV c)] 90) = w3 at *
    generalize w2.heap.size = J at *
    have hth1 := hR4.there1 c hcn
    go_upto_region 8 with (first
      | ((with_reducible refine wpList_store_hid 90 (.tmp 43) (.tmp 41) CB (c * 3 + 1) #[.int .i64 0, .int .i64 0] 2 ?_ ?_ ?_ Yba.size90 (job_size _ _) (job_one _ _) ?_); simp [Act.eval]; simp [Act.eval]; exact hth1; intro w5 hw5 hs5; have hR5 : Ring QB CB n h' tl T (upd JI c 0) (upd JV c 0) w5 := hw5.out ▸ hR4.setJob c 0 0 hcn; have t5 : Touch QB CB w w5 := hw5.out ▸ t3.trans (Touch.setCs _ _ _); have x5 : w5.there w.heap.size 0 2 := hw5.out ▸ World.there_setCells x3 _ _ _; have y5 : w5.rangeAt J 0 [.int .i64 (JI c), .int .i64 (JV c)] := hw5.out ▸ rangeAt_block y3 (block_setCells _ _ hjc _ _ _); clear hw5))
    go_region_held3 (fun w' => w'.cell? ⟨QB, 0, none⟩ = some (.slice (some ⟨CB, 0, none⟩) n n)) (first | exact hR5.q0 | exact hR5.drew.q0 | exact (‹Ring QB CB n h' tl (upd T c g') _ _ _›).q0 | go_keep)
      (first | (go_at_call 13; refine (store64 CB (c * 3) g' _ w5.drew (hR5.drew.cells c hcn 0 _ rfl) (hR5.drew.there0 c hcn).2).mono ?_; rintro e w6 ⟨rfl, hw6⟩; have hR6 : Ring QB CB n h' tl (upd T c g') (upd JI c 0) (upd JV c 0) w6 := hw6 ▸ hR5.drew.setTurn c g' hcn; have t6 : Touch QB CB w w6 := hw6 ▸ (t5.trans (Touch.drew _)).trans (Touch.setC _ _ _); have x6 : w6.there w.heap.size 0 2 := hw6 ▸ World.there_setCells (there_block (w := w5) (w' := w5.drew) x5 rfl) CB (c * 3) [_]; have y6 : w6.rangeAt J 0 [.int .i64 (JI c), .int .i64 (JV c)] := hw6 ▸ rangeAt_block y5 (Below.heap_setCell _ _ _ _ hjc); clear hw6))
    have k0 : w6.cell? ⟨J, 0, none⟩ = some (.int .i64 (JI c)) := y6 0 _ rfl
    have k1 : w6.cell? ⟨J, 1, none⟩ = some (.int .i64 (JV c)) := y6 1 _ rfl
    clear y3 y5 y6 x3 x5 t3 t5 hR4 hR5
    go_wp2_with (first
      | ((with_reducible refine wpList_store_hid 90 (.tmp 2) (.tmp 56) w.heap.size 0 #[.int .i64 (JI c), .int .i64 (JV c)] 2 ?_ ?_ ?_ Yba.size90 (job_size _ _) (job_one _ _) ?_); simp [Act.eval]; simp [Act.eval]; exact x6; intro w7 hw7 hs7; have hR7 := hR6.same (w' := w7) (hw7.out ▸ block_setCells _ _ (Ne.symm hnq) _ _ _) (hw7.out ▸ block_setCells _ _ (Ne.symm hnc) _ _ _); have t7 : Touch QB CB w w7 := hw7.out ▸ t6.setNew (Nat.le_refl _) _ _; have v7 : w7.rangeAt w.heap.size 0 [.int .i64 (JI c), .int .i64 (JV c)] := hw7.out ▸ World.rangeAt_setCells_same w6 w.heap.size 0 _ x6; clear hw7))
    have v0 : w7.cell? ⟨w.heap.size, 0, none⟩ = some (.int .i64 (JI c)) := v7 0 _ rfl
    have v1 : w7.cell? ⟨w.heap.size, 1, none⟩ = some (.int .i64 (JV c)) := v7 1 _ rfl
    exact bodyPost_ret (v := .tuple #[.agg #[.int .i64 (JI c), .int .i64 (JV c)], .bool true]) (by simp [results, Yba.results15, go_sem, v0, v1]) rfl ⟨rfl, hR7, t7⟩
end Go.Proofs.Ybulkdrqi
