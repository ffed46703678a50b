import Derived.Test.YbulkdrqiZc
namespace Go.Proofs.Ybulkdrqi
open Go.RowKit Go.Conc

/-- From the head of a round of the crew's loop on: what has changed. -/
structure Gw (w w' : World) (K Fa k n : Nat) : Prop where
  os : w'.os = w.os
  tape : w'.tape = w.tape
  output : w'.output = w.output
  size : w.heap.size ≤ w'.heap.size
  block : ∀ j, j < w.heap.size → j ≠ K → j ≠ Fa → w'.heap[j]? = w.heap[j]?
  kc : ∀ i, i ≠ k → w'.cell? ⟨K, i, none⟩ = w.cell? ⟨K, i, none⟩
  fc : ∀ i, i ≠ k → w'.cell? ⟨Fa, i, none⟩ = w.cell? ⟨Fa, i, none⟩
  kt : w'.there K 0 n
  ft : w'.there Fa 0 n
  lt : K < w.heap.size ∧ Fa < w.heap.size ∧ K ≠ Fa
variable {w w1 w' : World} {K Fa k n : Nat}
theorem Gw.start (h1 : w.there K 0 n) (h2 : w.there Fa 0 n) (h : K < w.heap.size ∧ Fa < w.heap.size ∧ K ≠ Fa) : Gw w w K Fa k n :=
  ⟨rfl, rfl, rfl, Nat.le_refl _, fun _ _ _ _ => rfl, fun _ _ => rfl, fun _ _ => rfl, h1, h2, h⟩
theorem Gw.later (h : Gw w w1 K Fa k n) (hb : Below w1.heap.size w1 w') : Gw w w' K Fa k n := by
  have hl := h.lt
  have hs := h.size
  have eK := hb.block K (by omega)
  have eF := hb.block Fa (by omega)
  exact ⟨hb.os.trans h.os, hb.tape.trans h.tape, hb.output.trans h.output, Nat.le_trans hs hb.size, fun j hj a b => (hb.block j (by omega)).trans (h.block j hj a b),
    fun i hi => (World.cell?_of_block (a := ⟨K, i, none⟩) eK).trans (h.kc i hi), fun i hi => (World.cell?_of_block (a := ⟨Fa, i, none⟩) eF).trans (h.fc i hi), there_block h.kt eK, there_block h.ft eF, hl⟩
theorem Gw.setK (h : Gw w w1 K Fa k n) (x : Value) : Gw w (w1.setCell ⟨K, k, none⟩ x) K Fa k n := by
  have hl := h.lt
  have e : ∀ j, j ≠ K → (w1.setCell ⟨K, k, none⟩ x).heap[j]? = w1.heap[j]? := fun j hj => Below.heap_setCell _ _ _ _ hj
  exact ⟨h.os, h.tape, h.output, by have := h.size; simp [World.setCell]; omega, fun j hj a b => (e j a).trans (h.block j hj a b),
    fun i hi => (World.cell?_setCell_other _ _ _ _ (fun e => hi (by injection e with _ e; exact e.symm))).trans (h.kc i hi),
    fun i hi => (World.cell?_of_block (a := ⟨Fa, i, none⟩) (e Fa (Ne.symm hl.2.2))).trans (h.fc i hi), World.there_setCells h.kt K k [x], there_block h.ft (e Fa (Ne.symm hl.2.2)), hl⟩
theorem Gw.setF (h : Gw w w1 K Fa k n) (x : Value) : Gw w (w1.setCell ⟨Fa, k, none⟩ x) K Fa k n := by
  have hl := h.lt
  have e : ∀ j, j ≠ Fa → (w1.setCell ⟨Fa, k, none⟩ x).heap[j]? = w1.heap[j]? := fun j hj => Below.heap_setCell _ _ _ _ hj
  exact ⟨h.os, h.tape, h.output, by have := h.size; simp [World.setCell]; omega, fun j hj a b => (e j b).trans (h.block j hj a b),
    fun i hi => (World.cell?_of_block (a := ⟨K, i, none⟩) (e K hl.2.2)).trans (h.kc i hi),
    fun i hi => (World.cell?_setCell_other _ _ _ _ (fun e => hi (by injection e with _ e; exact e.symm))).trans (h.fc i hi), there_block h.kt (e K hl.2.2), World.there_setCells h.ft Fa k [x], hl⟩
theorem Gw.setN (h : Gw w w1 K Fa k n) {j o : Nat} (hj : w.heap.size ≤ j) (x : Value) : Gw w (w1.setCell ⟨j, o, none⟩ x) K Fa k n := by
  have hl := h.lt
  have e : ∀ i, i < w.heap.size → (w1.setCell ⟨j, o, none⟩ x).heap[i]? = w1.heap[i]? := fun i hi => Below.heap_setCell _ _ _ _ (show i ≠ j by omega)
  exact ⟨h.os, h.tape, h.output, by have := h.size; simp [World.setCell]; omega, fun i hi a b => (e i hi).trans (h.block i hi a b),
    fun i hi => (World.cell?_of_block (a := ⟨K, i, none⟩) (e K hl.1)).trans (h.kc i hi),
    fun i hi => (World.cell?_of_block (a := ⟨Fa, i, none⟩) (e Fa hl.2.1)).trans (h.fc i hi), there_block h.kt (e K hl.1), there_block h.ft (e Fa hl.2.1), hl⟩

theorem Gw.below {w0 : World} {H : Nat} (h : Gw w w1 K Fa k n) (hb : Below H w0 w) (hk : H ≤ K) (hf : H ≤ Fa) : Below H w0 w1 := by
  have hl := h.lt
  exact hb.trans ⟨h.os, h.tape, h.output, h.size, fun j hj => h.block j (by omega) (by omega) (by omega)⟩
/-- A worker more. -/
structure Wn (w : World) (X s l : Nat) (V : Nat → Int) (f : Bool) : Prop where
  w1 : w.cell? ⟨X + 3, 1, none⟩ = some (.pointer (some ⟨X + 2, 0, none⟩))
  w6 : w.cell? ⟨X + 3, 6, none⟩ = some (.int .u32 (u1 f))
  w7 : w.cell? ⟨X + 3, 7, none⟩ = some (.pointer (some ⟨X, 0, none⟩))
  rr : Rr (X + 2) (X + 1) s 0 l (cI 0 l) (cX V 0 l) w
  pw : ∃ e, s = 2 ^ e
  le : l ≤ s ∧ s ≤ 131072 ∧ 0 < s

theorem Be.grow {w0 w w' : World} {H n B K Fa P SA stn QB wake k s : Nat} {dv cw : Value} {fo : Option Addr} {b1 b3 b4 : Bool} {si col yi : Int} {ln sz : Nat → Nat} {V : Nat → Nat → Int} {fl : Nat → Bool}
    (h : Be w0 w H k B K Fa P SA stn QB wake dv cw fo b1 b3 b4 si col yi ln sz V fl) (hs : w.heap.size = B + 4 * k) (hg : Gw w w' K Fa k n) (hz : w'.heap.size = B + 4 * (k + 1))
    (hK : w'.cell? ⟨K, k, none⟩ = some (.pointer (some ⟨B + 4 * k + 3, 0, none⟩))) (hF : w'.cell? ⟨Fa, k, none⟩ = some (.pointer (some ⟨B + 4 * k, 0, none⟩))) (hn : Wn w' (B + 4 * k) s (ln k) (V k) (fl k)) :
    Be w0 w' H (k + 1) B K Fa P SA stn QB wake dv cw fo b1 b3 b4 si col yi ln (fun i => if i = k then s else sz i) V fl := by
  have ho := h.od
  have hl := h.lt
  have e : ∀ j, j < w.heap.size → j ≠ K → j ≠ Fa → w'.heap[j]? = w.heap[j]? := hg.block
  refine ⟨⟨fun i hi => ?_, fun i hi => ?_, fun i hi => ?_, fun i hi => ?_, fun i hi => ?_, fun i hi => ?_, fun i hi => ?_, fun i hi => ?_⟩, h.be.trans ⟨hg.os, hg.tape, hg.output, hg.size, fun j hj => e j (by omega) (by omega) (by omega)⟩, h.pp.same (e _ (by omega) (by omega) (by omega)), cell_at (e _ (by omega) (by omega) (by omega)) h.q1, cell_at (e _ (by omega) (by omega) (by omega)) h.q2, (e _ (by omega) (by omega) (by omega)).trans h.wk, cell_at (e _ (by omega) (by omega) (by omega)) h.sa, ?_, h.dk, ho, by omega⟩
  · by_cases ei : i = k
    · subst ei; exact hK
    · rw [hg.kc i ei]; exact h.cr.k i (by omega)
  · by_cases ei : i = k
    · subst ei; exact hF
    · rw [hg.fc i ei]; exact h.cr.f i (by omega)
  · by_cases ei : i = k
    · subst ei; exact hn.w1
    · exact cell_at (e _ (by omega) (by omega) (by omega)) (h.cr.w1 i (by omega))
  · by_cases ei : i = k
    · subst ei; exact hn.w6
    · exact cell_at (e _ (by omega) (by omega) (by omega)) (h.cr.w6 i (by omega))
  · by_cases ei : i = k
    · subst ei; exact hn.w7
    · exact cell_at (e _ (by omega) (by omega) (by omega)) (h.cr.w7 i (by omega))
  · by_cases ei : i = k
    · subst ei; simp only [if_true]; exact hn.rr
    · simp only [if_neg ei]
      exact (h.cr.rr i (by omega)).same (e _ (by omega) (by omega) (by omega)) (e _ (by omega) (by omega) (by omega))
  · by_cases ei : i = k
    · subst ei; simp only [if_true]; exact hn.pw
    · simp only [if_neg ei]; exact h.cr.pw i (by omega)
  · by_cases ei : i = k
    · subst ei; simp only [if_true]; have := hn.le; omega
    · simp only [if_neg ei]; exact h.cr.le i (by omega)
  · refine ⟨fun hb => ?_, fun hb => ?_⟩
    · obtain ⟨c, h1, h2, h3, h4⟩ := h.dd.1 hb
      have := h.dk c h1
      exact ⟨c, h1, (e c (by omega) (by omega) (by omega)).trans h2, h3, by omega⟩
    · rcases h.dd.2 hb with h0 | ⟨c, h1, h2, h3, h4⟩
      · exact Or.inl h0
      · have := h.dk c h1
        exact Or.inr ⟨c, h1, (e c (by omega) (by omega) (by omega)).trans h2, h3, by omega⟩
/-- The ring as the loop makes it. -/
theorem rr_c {w : World} {R C s l : Nat} {V : Nat → Int} (h : Rr R C s 0 l (fun j => if j < l then (j : Int) else 0) (fun j => if j < l then V j else 0) w) : Rr R C s 0 l (cI 0 l) (cX V 0 l) w :=
  h.congr (fun i _ => by simp [cI]) (fun i _ => by simp [cX])
/-- The worker's flag stored, and the worker kept. -/
theorem Wn.made {w3 w4 : World} {X Y K k s l : Nat} {V : Nat → Int} {f : Bool} {x u : Value} (hY : Y = X + 3) (hK : K < X) (c1 : w3.cell? ⟨Y, 1, none⟩ = some (.pointer (some ⟨X + 2, 0, none⟩))) (c6 : w3.cell? ⟨Y, 6, none⟩ = some u) (c7 : w3.cell? ⟨Y, 7, none⟩ = some (.pointer (some ⟨X, 0, none⟩)))
    (hr : Rr (X + 2) (X + 1) s 0 l (cI 0 l) (cX V 0 l) w3) (hp : ∃ e, s = 2 ^ e) (hl : l ≤ s ∧ s ≤ 131072 ∧ 0 < s) (h4 : w4 = (w3.drew.setCell ⟨Y, 6, none⟩ (.int .u32 (u1 f))).drew) : Wn (w4.setCell ⟨K, k, none⟩ x) X s l V f := by
  subst hY
  have e5 : ∀ j, j ≠ K → (w4.setCell ⟨K, k, none⟩ x).heap[j]? = w4.heap[j]? := fun j hj => Below.heap_setCell _ _ _ _ hj
  have e4 : ∀ j, j ≠ X + 3 → w4.heap[j]? = w3.heap[j]? := fun j hj => by
    rw [h4]; exact Below.heap_setCell w3 _ _ _ hj
  have q : ∀ o v, w4.cell? ⟨X + 3, o, none⟩ = some v → (w4.setCell ⟨K, k, none⟩ x).cell? ⟨X + 3, o, none⟩ = some v := fun o v h => cell_at (e5 _ (by omega)) h
  have p : ∀ o v, o ≠ 6 → w3.cell? ⟨X + 3, o, none⟩ = some v → w4.cell? ⟨X + 3, o, none⟩ = some v := fun o v ho h => by
    rw [h4]
    exact (World.cell?_setCell_other w3 _ _ _ (fun e => ho (by injection e with _ e; exact e.symm))).trans h
  refine ⟨q _ _ (p _ _ (by omega) c1), q _ _ ?_, q _ _ (p _ _ (by omega) c7), hr.same ((e5 _ (by omega)).trans (e4 _ (by omega))) ((e5 _ (by omega)).trans (e4 _ (by omega))), hp, hl⟩
  rw [h4]
  exact World.cell?_setCell_same' w3 _ _ (by rw [c6]; rfl)
theorem mk53 (w : World) (n : Nat) (hn : n ≤ 65536) : (Instr.makeSlice 53 (.int .i64 (n : Int)) (.int .i64 (n : Int))).run Yba.prog w = .ok (.slice (some ⟨w.heap.size, 0, none⟩) n n) (w.alloc (.cells (madeCells #[.pointer none] n) 69)) := by
  have h := run_make_any (P := Yba.prog) 53 69 (.pointer none) 1 8 (by kernel_rfl) (by kernel_rfl) .i64 .i64 n (by omega) (by omega) w
  rw [Nat.mul_one] at h
  exact h
theorem mk68 (w : World) (n : Nat) (hn : n ≤ 65536) : (Instr.makeSlice 68 (.int .i64 (n : Int)) (.int .i64 (n : Int))).run Yba.prog w = .ok (.slice (some ⟨w.heap.size, 0, none⟩) n n) (w.alloc (.cells (madeCells #[.pointer none] n) 62)) := by
  have h := run_make_any (P := Yba.prog) 68 62 (.pointer none) 1 8 (by kernel_rfl) (by kernel_rfl) .i64 .i64 n (by omega) (by omega) w
  rw [Nat.mul_one] at h
  exact h
end Go.Proofs.Ybulkdrqi
