import Derived.Test.YbulkdrqiZ1
namespace Go.Proofs.Ybulkdrqi
open Go.RowKit Go.Conc

/-- The state of the collecting. -/
structure Cg (w0 w : World) (P B n K Fa SA : Nat) (u : PV) (sz ln hd : Nat → Nat) (V : Nat → Nat → Int) (fl : Nat → Bool) (st : Int) (l : List Int) : Prop where
  pp : Pp w P u
  dn : Dn w B P u.done
  cr : Cr w B n K Fa sz ln hd V fl
  lgs : ∃ s, Lg w (B + 4 * n + 2) (B + 4 * n) (B + 4 * n + 1) SA s l st
  ch : Ch (fun k => k = P ∨ B ≤ k) (B + 4 * n + 2) w0 w
  size : B + 4 * n + 2 ≤ w.heap.size

/-- How the blocks lie. -/
structure Ly (P B K Fa SA : Nat) : Prop where
  p : P < B
  k : K < B
  f : Fa < B
  s : SA < B
  pk : P ≠ K
  pf : P ≠ Fa
  ps : P ≠ SA

variable {w0 w w' : World} {P B n K Fa SA : Nat} {v u : PV} {ft : Value} {sz ln hd : Nat → Nat} {V : Nat → Nat → Int} {fl : Nat → Bool} {st : Int} {l : List Int} {i q : Nat}

theorem Cg.later (h : Cg w0 w P B n K Fa SA u sz ln hd V fl st l) (y : Ly P B K Fa SA) (hb : Below w.heap.size w w') : Cg w0 w' P B n K Fa SA u sz ln hd V fl st l := by
  have hs := h.size
  obtain ⟨s, hl⟩ := h.lgs
  have := y.p; have := y.k; have := y.f; have := y.s
  exact ⟨h.pp.same (hb.block _ (by omega)), h.dn.same (fun k hk _ => hb.block k (by omega)), h.cr.same (hb.block _ (by omega)) (hb.block _ (by omega)) (fun k _ hk => hb.block k (by omega)),
    ⟨s, hl.same hb.size (hb.block _ (by omega)) (hb.block _ (by omega)) (hb.block _ (by omega)) (fun k _ hk => hb.block k hk)⟩,
    h.ch.trans ⟨hb.os, hb.tape, hb.output, hb.size, fun k hk _ => hb.block k (by omega)⟩, Nat.le_trans hs hb.size⟩

/-- A cell of p is written. -/
theorem Cg.setP (h : Cg w0 w P B n K Fa SA u sz ln hd V fl st l) (y : Ly P B K Fa SA) {o : Nat} {x : Value} {u' : PV} (hp : Pp (w.setCell ⟨P, o, none⟩ x) P u') (hd' : u'.done = u.done) : Cg w0 (w.setCell ⟨P, o, none⟩ x) P B n K Fa SA u' sz ln hd V fl st l := by
  have hs := h.size
  obtain ⟨s, hl⟩ := h.lgs
  have := y.p; have := y.k; have := y.f; have := y.s
  have e : ∀ k, k ≠ P → (w.setCell ⟨P, o, none⟩ x).heap[k]? = w.heap[k]? := fun k hk => Below.heap_setCell _ _ _ _ hk
  have hz : (w.setCell ⟨P, o, none⟩ x).heap.size = w.heap.size := by simp [World.setCell]
  exact ⟨hp, by rw [hd']; exact h.dn.same (fun k _ hk => e k hk), h.cr.same (e _ (Ne.symm y.pk)) (e _ (Ne.symm y.pf)) (fun k hk _ => e k (by omega)),
    ⟨s, hl.same (by rw [hz]; exact Nat.le_refl _) (e _ (by omega)) (e _ (by omega)) (e _ (Ne.symm y.ps)) (fun k hk _ => e k (by omega))⟩,
    h.ch.trans ⟨rfl, rfl, rfl, by rw [hz]; exact Nat.le_refl _, fun k _ hk => e k (fun h => hk (Or.inl h))⟩, by rw [hz]; exact hs⟩

theorem wrap64_add (x : Int) (k : Nat) : wrap64 (wrap64 (x + (k : Int)) + 1) = wrap64 (x + ((k + 1 : Nat) : Int)) := by
  unfold wrap64; omega

/-- A result of worker i is popped. -/
theorem Cg.popped (h : Cg w0 w P B n K Fa SA u sz ln (hdF ln i q) V fl st l) (y : Ly P B K Fa SA) (hi : i < n) (hq : q < ln i) (hR : Rr (B + 4 * i + 2) (B + 4 * i + 1) (sz i) (q + 1) (ln i) (upd (cI q (ln i)) q 0) (upd (cX (V i) q (ln i)) q 0) w')
    (ht : Touch (B + 4 * i + 2) (B + 4 * i + 1) w w') : Cg w0 w' P B n K Fa SA u sz ln (hdF ln i (q + 1)) V fl st l := by
  have hs := h.size
  obtain ⟨s, hl⟩ := h.lgs
  have := y.p; have := y.k; have := y.f; have := y.s
  have hat := hdF_at ln i q
  refine ⟨h.pp.same (ht.block _ (by omega) (by omega) (by omega)), h.dn.same (fun k hk _ => ht.block k (by omega) (by omega) (by omega)), ?_,
    ⟨s, hl.same ht.size (ht.block _ (by omega) (by omega) (by omega)) (ht.block _ (by omega) (by omega) (by omega)) (ht.block _ (by omega) (by omega) (by omega)) (fun k h1 h2 => ht.block k h2 (by omega) (by omega))⟩,
    h.ch.trans ⟨ht.os, ht.tape, ht.output, ht.size, fun k hk hn => ht.block k (by omega) (fun e => hn (Or.inr (by omega))) (fun e => hn (Or.inr (by omega)))⟩, Nat.le_trans hs ht.size⟩
  refine (h.cr.pop hi y.k y.f (by rw [hat]; exact hq) (by rw [hat]; exact hR) ht (by omega)).congr (fun j => ?_)
  rw [hat, hdF_succ]

/-- The take has yielded x. -/
theorem Cg.taken (h : Cg w0 w P B n K Fa SA u sz ln hd V fl st l) (y : Ly P B K Fa SA) {x : Int} {u' : PV} (hp : Pp w' P u') (hd' : u'.done = u.done) (hl : ∃ s', Lg w' (B + 4 * n + 2) (B + 4 * n) (B + 4 * n + 1) SA s' (l ++ [x]) st)
    (hc : Ch (fun k => k = P ∨ k = B + 4 * n ∨ k = B + 4 * n + 1) (B + 4 * n + 2) w w') : Cg w0 w' P B n K Fa SA u' sz ln hd V fl st (l ++ [x]) := by
  have hs := h.size
  have := y.p; have := y.k; have := y.f; have := y.s
  refine ⟨hp, by rw [hd']; exact h.dn.same (fun k hk hn => hc.block k (by omega) (by omega)), h.cr.same (hc.block _ (by omega) (by have := y.pk; omega)) (hc.block _ (by omega) (by have := y.pf; omega)) (fun k _ hk => hc.block k (by omega) (by omega)), hl,
    h.ch.trans (hc.mono (fun k _ hk => by omega)), Nat.le_trans hs hc.size⟩

def uv (v : PV) (ft : Value) (c : Nat) : PV := { v with rd := false, fault := ft, col := wrap64 (v.col + (c : Int)), yi := wrap64 (v.yi + (c : Int)) }

/-- q results of worker i popped. -/
def Co (w0 w : World) (P B n K Fa SA : Nat) (v : PV) (ft : Value) (sz ln : Nat → Nat) (V : Nat → Nat → Int) (fl : Nat → Bool) (st : Int) (i q : Nat) : Prop :=
  Cg w0 w P B n K Fa SA (uv v ft (sm ln i + q)) sz ln (hdF ln i q) V fl st (lg ln V i q)

theorem Co.next (h : Co w0 w P B n K Fa SA v ft sz ln V fl st i (ln i)) : Co w0 w P B n K Fa SA v ft sz ln V fl st (i + 1) 0 := by
  have e : sm ln (i + 1) + 0 = sm ln i + ln i := by simp [sm]
  unfold Co at h ⊢
  rw [e, ← lg_next]
  exact ⟨h.pp, h.dn, h.cr.congr (fun j => hdF_next ln i j), h.lgs, h.ch, h.size⟩

def hdOf (w : World) (b : Nat) : Nat := match w.cell? ⟨b, 66, none⟩ with
  | some (.int _ x) => x.toNat
  | _ => 0
theorem Co.head (h : Co w0 w P B n K Fa SA v ft sz ln V fl st i q) (hi : i < n) : hdOf w (B + 4 * i + 2) = q := by
  have := (h.cr.rr i hi).qh
  rw [hdF_at] at this
  simp [hdOf, this]
def nf (x : Value) (b : Nat) : Value := match x with
  | .pointer none => .pointer (some ⟨b, 0, none⟩)
  | x => x
def ftv (kd : Nat) (x : Value) (b : Nat) : Value := if kd = 2 then nf x b else x
theorem Co.start (y : Ly P B K Fa SA) (hP : Pp w P v) (hcol : wrap64 v.col = v.col) (hyi : wrap64 v.yi = v.yi)
    (hdn : Dn w B P v.done) (hC : Cr w B n K Fa sz ln (fun _ => 0) V fl) {s0 : Value} (hL : Lg w (B + 4 * n + 2) (B + 4 * n) (B + 4 * n + 1) SA s0 [] st) (hs : B + 4 * n + 2 ≤ w.heap.size) :
    Co w (w.setCell ⟨P, 74, none⟩ (.int .u32 (u1 false))).drew P B n K Fa SA v v.fault sz ln V fl st 0 0 := by
  have hy1 := y.p
  have e : ∀ k, k ≠ P → (w.setCell ⟨P, 74, none⟩ (.int .u32 (u1 false))).drew.heap[k]? = w.heap[k]? := fun k hk => Below.heap_setCell _ _ _ _ hk
  have hz : (w.setCell ⟨P, 74, none⟩ (.int .u32 (u1 false))).drew.heap.size = w.heap.size := by simp [World.setCell]
  refine ⟨?_, hdn.same (fun k _ hk => e k hk), ?_, ⟨s0, hL.same (by rw [hz]; exact Nat.le_refl _) (e _ (by omega)) (e _ (by omega)) (e _ (Ne.symm y.ps)) (fun k hk _ => e k (by omega))⟩, ⟨rfl, rfl, rfl, by rw [hz]; exact Nat.le_refl _, fun k _ hk => e k (fun h => hk (Or.inl h))⟩, by rw [hz]; exact hs⟩
  · have h := (hP.setRd false).drew
    have e1 : ((sm ln 0 + 0 : Nat) : Int) = 0 := rfl
    unfold uv
    rw [e1, Int.add_zero, Int.add_zero, hcol, hyi]
    exact h
  · exact (hC.congr (fun j => by simp [hdF])).same (e _ (Ne.symm y.pk)) (e _ (Ne.symm y.pf)) (fun k hk _ => e k (by omega))
end Go.Proofs.Ybulkdrqi
