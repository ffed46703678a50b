import Derived.Test.YbulkdrqiBase
import Derived.Deep.CutBlock
namespace Go.Proofs.Ybulkdrqi
open Go.RowKit

/-! ### the atomics -/
theorem load64 (b o : Nat) (x : Int) (w : World) (h : w.cell? ⟨b, o, none⟩ = some (.int .u64 x)) :
    Calls Yba.prog 12 #[.pointer (some ⟨b, o, none⟩)] w fun e w' => e = .returned (.int .u64 x) ∧ w' = w := by
  have hl := run_call_load (P := Yba.prog) Yba.func22 (by kernel_rfl) (by kernel_rfl) (by kernel_rfl) .u64 (by kernel_rfl) h
  go_enter Yba.func12, Yba.ntmps12
  go_wp2
  go_ret
  exact ⟨rfl, rfl⟩

theorem store64 (b o : Nat) (y : Int) (u : Value) (w : World) (h : w.cell? ⟨b, o, none⟩ = some u) (hf : w.frozen? ⟨b, o, none⟩ = false) :
    Calls Yba.prog 13 #[.pointer (some ⟨b, o, none⟩), .int .u64 y] w fun e w' => e = .returned (.tuple #[]) ∧ w' = w.setCell ⟨b, o, none⟩ (.int .u64 y) := by
  have hl := run_call_store (P := Yba.prog) Yba.func23 (by kernel_rfl) (by kernel_rfl) (by kernel_rfl) (by kernel_rfl) (k := .u64) (y := y) h hf
  go_enter Yba.func13, Yba.ntmps13
  go_wp2
  go_end0
  exact ⟨rfl, rfl⟩

theorem cas64 (b o : Nat) (x y : Int) (w : World) (h : w.cell? ⟨b, o, none⟩ = some (.int .u64 x)) (hf : w.frozen? ⟨b, o, none⟩ = false) :
    Calls Yba.prog 24 #[.pointer (some ⟨b, o, none⟩), .int .u64 x, .int .u64 y] w fun e w' => e = .returned (.bool true) ∧ w' = w.setCell ⟨b, o, none⟩ (.int .u64 y) := by
  have hl := run_call_cas_hit (P := Yba.prog) Yba.func34 (by kernel_rfl) (by kernel_rfl) (by kernel_rfl) .u64 (by kernel_rfl) (y := y) h hf
  go_enter Yba.func24, Yba.ntmps24
  go_wp2
  go_ret
  exact ⟨rfl, rfl⟩

/-! ### worlds that part in two blocks alone -/
structure Touch (QB CB : Nat) (w w' : World) : Prop where
  os : w'.os = w.os
  tape : w'.tape = w.tape
  output : w'.output = w.output
  size : w.heap.size ≤ w'.heap.size
  block : ∀ k, k < w.heap.size → k ≠ QB → k ≠ CB → w'.heap[k]? = w.heap[k]?

theorem Touch.refl (QB CB : Nat) (w : World) : Touch QB CB w w := ⟨rfl, rfl, rfl, Nat.le_refl _, fun _ _ _ _ => rfl⟩
theorem Touch.trans {QB CB : Nat} {w w1 w2 : World} (h : Touch QB CB w w1) (k : Touch QB CB w1 w2) : Touch QB CB w w2 :=
  ⟨k.os.trans h.os, k.tape.trans h.tape, k.output.trans h.output, Nat.le_trans h.size k.size, fun j hj a b => (k.block j (Nat.lt_of_lt_of_le hj h.size) a b).trans (h.block j hj a b)⟩
theorem Touch.of_below {QB CB : Nat} {w w' : World} (h : Below w.heap.size w w') : Touch QB CB w w' := ⟨h.os, h.tape, h.output, h.size, fun k hk _ _ => h.block k hk⟩
theorem Touch.setQ {QB CB : Nat} (w : World) (o : Nat) (v : Value) : Touch QB CB w (w.setCell ⟨QB, o, none⟩ v) :=
  ⟨rfl, rfl, rfl, by simp [World.setCell], fun k _ a _ => Below.heap_setCell _ _ _ _ a⟩
theorem Touch.setC {QB CB : Nat} (w : World) (o : Nat) (v : Value) : Touch QB CB w (w.setCell ⟨CB, o, none⟩ v) :=
  ⟨rfl, rfl, rfl, by simp [World.setCell], fun k _ _ b => Below.heap_setCell _ _ _ _ b⟩
theorem Touch.setCs {QB CB : Nat} (w : World) (o : Nat) (vs : List Value) : Touch QB CB w (w.setCells CB o vs) :=
  have h := os_setCells CB vs o w
  ⟨h.1, h.2.1, h.2.2, by rw [size_setCells]; exact Nat.le_refl _, fun k _ _ b => block_setCells CB k b vs o w⟩
theorem Touch.below {QB CB B : Nat} {w0 w w' : World} (h : Touch QB CB w w') (hb : Below B w0 w) (h0 : B ≤ w0.heap.size) (hq : B ≤ QB) (hc : B ≤ CB) : Below B w0 w' :=
  hb.trans ⟨h.os, h.tape, h.output, h.size, fun k hk => h.block k (Nat.lt_of_lt_of_le hk (Nat.le_trans h0 hb.size)) (by omega) (by omega)⟩

/-! ### the ring -/
def cellL (t : Nat) (ji jv : Int) : List Value := [.int .u64 (t : Int), .int .i64 ji, .int .i64 jv]
def upd {α : Type} (f : Nat → α) (c : Nat) (v : α) : Nat → α := fun i => if i = c then v else f i
theorem upd_same {α : Type} (f : Nat → α) (c : Nat) (v : α) : upd f c v c = v := by simp [upd]
theorem upd_other {α : Type} (f : Nat → α) {c i : Nat} (v : α) (h : i ≠ c) : upd f c v i = f i := by simp [upd, h]

structure Ring (QB CB n hd tl : Nat) (T : Nat → Nat) (JI JV : Nat → Int) (w : World) : Prop where
  ne : QB ≠ CB
  q0 : w.cell? ⟨QB, 0, none⟩ = some (.slice (some ⟨CB, 0, none⟩) n n)
  q1 : w.cell? ⟨QB, 1, none⟩ = some (.int .u64 ((n : Int) - 1))
  qh : w.cell? ⟨QB, 66, none⟩ = some (.int .u64 (hd : Int))
  qt : w.cell? ⟨QB, 131, none⟩ = some (.int .u64 (tl : Int))
  fh : w.frozen? ⟨QB, 66, none⟩ = false
  ft : w.frozen? ⟨QB, 131, none⟩ = false
  cells : ∀ i, i < n → w.rangeAt CB (i * 3) (cellL (T i) (JI i) (JV i))
  th : w.there CB 0 (n * 3)

variable {QB CB n hd tl : Nat} {T : Nat → Nat} {JI JV : Nat → Int} {w : World}

theorem Ring.same {w' : World} (h : Ring QB CB n hd tl T JI JV w) (e1 : w'.heap[QB]? = w.heap[QB]?) (e2 : w'.heap[CB]? = w.heap[CB]?) : Ring QB CB n hd tl T JI JV w' :=
  ⟨h.ne, by rw [World.cell?_of_block (w := w) e1]; exact h.q0, by rw [World.cell?_of_block (w := w) e1]; exact h.q1, by rw [World.cell?_of_block (w := w) e1]; exact h.qh, by rw [World.cell?_of_block (w := w) e1]; exact h.qt,
    by rw [World.frozen?_of_block (w := w) e1]; exact h.fh, by rw [World.frozen?_of_block (w := w) e1]; exact h.ft, fun i hi => rangeAt_block (h.cells i hi) e2, there_block h.th e2⟩

theorem Ring.qlt (h : Ring QB CB n hd tl T JI JV w) : QB < w.heap.size := block_lt_of_cell h.q0
theorem Ring.clt (h : Ring QB CB n hd tl T JI JV w) (hn : 0 < n) : CB < w.heap.size := block_lt_of_cell (h.cells 0 hn 0 _ rfl)
theorem Ring.later {w' : World} (h : Ring QB CB n hd tl T JI JV w) (hn : 0 < n) (hB : Below w.heap.size w w') : Ring QB CB n hd tl T JI JV w' :=
  h.same (hB.block _ h.qlt) (hB.block _ (h.clt hn))

theorem Ring.setH (h : Ring QB CB n hd tl T JI JV w) (x : Nat) : Ring QB CB n x tl T JI JV (w.setCell ⟨QB, 66, none⟩ (.int .u64 (x : Int))) := by
  have e2 : (w.setCell ⟨QB, 66, none⟩ (.int .u64 (x : Int))).heap[CB]? = w.heap[CB]? := Below.heap_setCell _ _ _ _ (Ne.symm h.ne)
  exact ⟨h.ne, (World.cell?_setCell_other _ _ _ _ (by simp)).trans h.q0, (World.cell?_setCell_other _ _ _ _ (by simp)).trans h.q1, World.cell?_setCell_same _ _ _ h.qh, (World.cell?_setCell_other _ _ _ _ (by simp)).trans h.qt,
    by rw [World.frozen?_setCell]; exact h.fh, by rw [World.frozen?_setCell]; exact h.ft, fun i hi => rangeAt_block (h.cells i hi) e2, there_block h.th e2⟩
theorem Ring.setT (h : Ring QB CB n hd tl T JI JV w) (x : Nat) : Ring QB CB n hd x T JI JV (w.setCell ⟨QB, 131, none⟩ (.int .u64 (x : Int))) := by
  have e2 : (w.setCell ⟨QB, 131, none⟩ (.int .u64 (x : Int))).heap[CB]? = w.heap[CB]? := Below.heap_setCell _ _ _ _ (Ne.symm h.ne)
  exact ⟨h.ne, (World.cell?_setCell_other _ _ _ _ (by simp)).trans h.q0, (World.cell?_setCell_other _ _ _ _ (by simp)).trans h.q1, (World.cell?_setCell_other _ _ _ _ (by simp)).trans h.qh, World.cell?_setCell_same _ _ _ h.qt,
    by rw [World.frozen?_setCell]; exact h.fh, by rw [World.frozen?_setCell]; exact h.ft, fun i hi => rangeAt_block (h.cells i hi) e2, there_block h.th e2⟩

theorem Ring.setTurn (h : Ring QB CB n hd tl T JI JV w) (c x : Nat) (hc : c < n) : Ring QB CB n hd tl (upd T c x) JI JV (w.setCells CB (c * 3) [.int .u64 (x : Int)]) := by
  have e1 : (w.setCells CB (c * 3) [.int .u64 (x : Int)]).heap[QB]? = w.heap[QB]? := block_setCells CB QB h.ne _ _ _
  refine ⟨h.ne, by rw [World.cell?_of_block (w := w) e1]; exact h.q0, by rw [World.cell?_of_block (w := w) e1]; exact h.q1, by rw [World.cell?_of_block (w := w) e1]; exact h.qh, by rw [World.cell?_of_block (w := w) e1]; exact h.qt,
    by rw [World.frozen?_of_block (w := w) e1]; exact h.fh, by rw [World.frozen?_of_block (w := w) e1]; exact h.ft, fun i hi => ?_, World.there_setCells h.th _ _ _⟩
  have hr := h.cells i hi
  by_cases e : i = c
  · subst e
    rw [upd_same]
    intro j v hv
    match j, hv with
    | 0, hv => cases hv; exact World.rangeAt_setCells_same w CB (i * 3) _ (fun j hj => by have := h.th (i * 3 + j) (by simp at hj; omega); simpa using this) 0 _ rfl
    | 1, hv => rw [World.cell?_setCells_out _ _ _ _ _ (fun _ _ => by simp)]; exact hr 1 v hv
    | 2, hv => rw [World.cell?_setCells_out _ _ _ _ _ (fun _ _ => by simp)]; exact hr 2 v hv
  · rw [upd_other _ _ e]
    exact World.rangeAt_setCells_apart hr _ _ _ (Or.inr (by simp [cellL]; omega))

theorem Ring.setJob (h : Ring QB CB n hd tl T JI JV w) (c : Nat) (ji jv : Int) (hc : c < n) : Ring QB CB n hd tl T (upd JI c ji) (upd JV c jv) (w.setCells CB (c * 3 + 1) [.int .i64 ji, .int .i64 jv]) := by
  have e1 : (w.setCells CB (c * 3 + 1) [.int .i64 ji, .int .i64 jv]).heap[QB]? = w.heap[QB]? := block_setCells CB QB h.ne _ _ _
  refine ⟨h.ne, by rw [World.cell?_of_block (w := w) e1]; exact h.q0, by rw [World.cell?_of_block (w := w) e1]; exact h.q1, by rw [World.cell?_of_block (w := w) e1]; exact h.qh, by rw [World.cell?_of_block (w := w) e1]; exact h.qt,
    by rw [World.frozen?_of_block (w := w) e1]; exact h.fh, by rw [World.frozen?_of_block (w := w) e1]; exact h.ft, fun i hi => ?_, World.there_setCells h.th _ _ _⟩
  have hr := h.cells i hi
  by_cases e : i = c
  · subst e
    rw [upd_same, upd_same]
    have hs := World.rangeAt_setCells_same w CB (i * 3 + 1) [.int .i64 ji, .int .i64 jv] (fun j hj => by have := h.th (i * 3 + 1 + j) (by simp at hj; omega); simpa using this)
    intro j v hv
    match j, hv with
    | 0, hv => rw [World.cell?_setCells_out _ _ _ _ _ (fun _ _ => by simp)]; exact hr 0 v hv
    | 1, hv => exact hs 0 v hv
    | 2, hv => exact hs 1 v hv
  · rw [upd_other _ _ e, upd_other _ _ e]
    exact World.rangeAt_setCells_apart hr _ _ _ (Or.inr (by simp [cellL]; omega))

abbrev M64 : Nat := 18446744073709551616

theorem setCell_eq (w : World) (b o : Nat) (v : Value) : w.setCell ⟨b, o, none⟩ v = w.setCells b o [v] := rfl

theorem Yba.size90 : (Yba.prog.info? 90).map (·.size) = some 2 := by kernel_rfl

theorem job_size (a b : Int) : (#[.int .i64 a, .int .i64 b] : Array Value).size = 2 := rfl
theorem job_one (a b : Int) : (#[.int .i64 a, .int .i64 b] : Array Value).all (·.oneCell') = true := by simp [Value.oneCell']

theorem upd_upd {α : Type} (f : Nat → α) (c : Nat) (u v : α) : upd (upd f c u) c v = upd f c v := by
  funext i; unfold upd; split <;> rfl
theorem Ring.there0 (h : Ring QB CB n hd tl T JI JV w) (c : Nat) (hc : c < n) : (w.cell? ⟨CB, c * 3, none⟩).isSome = true ∧ w.frozen? ⟨CB, c * 3, none⟩ = false := by
  have := h.th (c * 3) (by omega)
  rw [Nat.zero_add] at this
  exact this
theorem below_box (w : World) (a b : Value) (t : TypeId) (k : Nat) : Below w.heap.size w ((w.alloc (.cells #[a, b] t)).drewN k) := below_drewN (by go_grown) _
theorem range_box (w : World) (a b : Value) (t : TypeId) (k : Nat) : ((w.alloc (.cells #[a, b] t)).drewN k).rangeAt w.heap.size 0 [a, b] := fun j v hv => by
  have := rangeAt_new w [a, b] t j v hv
  simpa using this

theorem setTurn2 {c x y : Nat} {w' : World} (h : Ring QB CB n hd tl (upd T c x) JI JV w) (hc : c < n) (hw : w' = w.setCell ⟨CB, c * 3, none⟩ (.int .u64 (y : Int))) : Ring QB CB n hd tl (upd T c y) JI JV w' := by
  rw [hw, ← upd_upd T c x y]
  exact h.setTurn c y hc

theorem put_any (ji jv : Int) (hR : Ring QB CB n hd tl T JI JV w) (hn : 0 < n) (hand : bits .and .u64 (tl : Int) ((n : Int) - 1) = ((tl % n : Nat) : Int)) (hc : T (tl % n) = tl) :
    Calls Yba.prog 14 #[.pointer (some ⟨QB, 0, none⟩), .agg #[.int .i64 ji, .int .i64 jv]] w fun e w' =>
      e = .returned (.tuple #[]) ∧ Ring QB CB n hd ((tl + 1) % M64) (upd T (tl % n) ((tl + 1) % M64)) (upd JI (tl % n) ji) (upd JV (tl % n) jv) w' ∧ Touch QB CB w w' := by
  obtain ⟨c, hcc⟩ : ∃ c, c = tl % n := ⟨_, rfl⟩
  have hcn : c < n := by rw [hcc]; exact Nat.mod_lt _ hn
  rw [← hcc] at hc hand ⊢
  have HC : Hid _ := hcc
  clear hcc
  have hR1 := hR.later (w' := w.alloc (.cells #[.int .i64 ji, .int .i64 jv] 90)) hn (by go_grown)
  have hqs := World.new_ne w _ hR.q0
  have q0 := hR1.q0
  have q1 := hR1.q1
  have c0 : (0 : Int) ≤ (c : Int) := by omega
  have c1 : (c : Int) < (n : Int) := by omega
  obtain ⟨t', ht'⟩ : ∃ t', t' = (tl + 1) % M64 := ⟨_, rfl⟩
  have hwr : IntKind.u64.wrap ((tl : Int) + 1) = (t' : Int) := by rw [IntKind.wrap_u64, ht']; simp only [M64]; omega
  rw [← ht']
  clear ht'
  go_enter Yba.func14, Yba.ntmps14
  go_wp2_with (go_at_call 12; refine (load64 _ _ _ _ hR1.qt).mono ?_; rintro e w' ⟨rfl, rfl⟩)
  go_quiet (fail)
  have b0 : Below w.heap.size w ((w.alloc (.cells #[.int .i64 ji, .int .i64 jv] 90)).drewN nq) := below_box _ _ _ _ _
  have x0 : ((w.alloc (.cells #[.int .i64 ji, .int .i64 jv] 90)).drewN nq).rangeAt w.heap.size 0 [.int .i64 ji, .int .i64 jv] := range_box _ _ _ _ _
  have hne : w.heap.size ≠ CB := by have := hR.clt hn; omega
  have hneq : w.heap.size ≠ QB := by have := hR.qlt; omega
  have hRx := hR.later hn b0
  clear hR1 q0 q1
  generalize (w.alloc (.cells #[.int .i64 ji, .int .i64 jv] 90)).drewN nq = wx at *
  have t0 := Touch.of_below (QB := QB) (CB := CB) b0
  go_wp2_with fail
  go_loopw [] (fun wr => wr = wx) (fun _ => 0)
  case atStart => rfl
  case round =>
    obtain rfl := hrel
    have hth := hRx.th (c * 3) (by omega)
    rw [Nat.zero_add] at hth
    have hcell : wr.cell? ⟨CB, c * 3, none⟩ = some (.int .u64 (tl : Int)) := by have := hRx.cells c hcn 0 _ rfl; rw [hc] at this; exact this
    have hR2 : Ring QB CB n hd tl (upd T c tl) JI JV (wr.setCell ⟨CB, c * 3, none⟩ (.int .u64 (tl : Int))) := hRx.setTurn c tl hcn
    have t1 := t0.trans (Touch.setC wr (c * 3) (.int .u64 (tl : Int)))
    have x1 := rangeAt_block x0 (w' := wr.setCell ⟨CB, c * 3, none⟩ (.int .u64 (tl : Int))) (Below.heap_setCell _ _ _ _ hne)
    have hs1 : w.heap.size < wr.heap.size := block_lt_of_cell (x0 0 _ rfl)
    go_upto_region 5 with (go_at_call 24; refine (cas64 CB (c * 3) tl tl wr hcell hth.2).mono ?_; rintro e w' ⟨rfl, rfl⟩)
    generalize wr.setCell ⟨CB, c * 3, none⟩ (.int .u64 (tl : Int)) = w1 at *
    have y0 : w1.cell? ⟨w.heap.size, 0, none⟩ = some (.int .i64 ji) := x1 0 _ rfl
    have y1 : w1.cell? ⟨w.heap.size, 1, none⟩ = some (.int .i64 jv) := x1 1 _ rfl
    have hth1 : w1.there CB (c * 3 + 1) 2 := fun j hj => by have := hR2.th (c * 3 + 1 + j) (by omega); rw [Nat.zero_add] at this; exact this
    go_wp2_with (first
      | ((with_reducible refine wpList_store_hid 90 (.tmp 32) (.tmp 30) CB (c * 3 + 1) #[.int .i64 ji, .int .i64 jv] 2 ?_ ?_ ?_ Yba.size90 (job_size _ _) (job_one _ _) ?_); simp [Act.eval]; simp [Act.eval]; exact hth1; intro w2 hw2 hs2; have hR3 : Ring QB CB n hd tl (upd T c tl) (upd JI c ji) (upd JV c jv) w2 := hw2.out ▸ hR2.setJob c ji jv hcn; have t2 : Touch QB CB w w2 := hw2.out ▸ t1.trans (Touch.setCs _ _ _); clear hw2; have z0 := hR3.cells c hcn 0 _ rfl; have z1 := (hR3.there0 c hcn).2)
      | (go_at_call 13; refine (store64 CB (c * 3) t' _ w2 z0 z1).mono ?_; rintro e w3 ⟨rfl, hw3⟩; go_loud (have hR4 : Ring QB CB n hd tl (upd T c t') (upd JI c ji) (upd JV c jv) w3 := setTurn2 hR3 hcn hw3); have t3 : Touch QB CB w w3 := hw3 ▸ t2.trans (Touch.setC _ _ _); clear hw3)
      | (go_at_call 13; refine (store64 QB 131 t' _ w3 hR4.qt hR4.ft).mono ?_; rintro e w4 ⟨rfl, hw4⟩; have hR5 : Ring QB CB n hd t' (upd T c t') (upd JI c ji) (upd JV c jv) w4 := hw4 ▸ hR4.setT t'; have t4 : Touch QB CB w w4 := hw4 ▸ t3.trans (Touch.setQ _ _ _); clear hw4))
    go_end0
    exact ⟨rfl, hR5, t4⟩
end Go.Proofs.Ybulkdrqi
