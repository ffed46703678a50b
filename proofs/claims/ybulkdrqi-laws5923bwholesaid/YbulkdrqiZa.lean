import Derived.Test.YbulkdrqiZr
namespace Go.Proofs.Ybulkdrqi
open Go.RowKit Go.Conc

theorem Wk.later {w w' : World} {c k : Nat} {tm : Bool} (h : Wk w c tm k) (hb : Below w.heap.size w w') : Wk w' c tm k := by
  obtain ⟨buf, s, r, h1, h2⟩ := h
  exact ⟨buf, s, r, (hb.block c (Array.getElem?_eq_some_iff.1 h1).1).trans h1, h2⟩
theorem Sl.later {w w' : World} {L size n : Nat} {v : Value} {cs : List Value} (h : Sl w L size v n cs) (hb : Below w.heap.size w w') : Sl w' L size v n cs := by
  exact h.same hb.size (fun k hk => hb.block k (h.lt hk).1)

/-- What stands behind the await. -/
structure Af (w0 w : World) (H b off n B K Fa P LG SA stn : Nat) (v : PV) (Ad : Nat → Option Addr) (ln Cp Vb Vo sz hd : Nat → Nat) (V : Nat → Nat → Int) (fl : Nat → Bool) (l : List Int) : Prop where
  wk : ∀ i, i < n → w.cell? ⟨b, off + i * 2, none⟩ = some (.slice (Ad i) (ln i) (Cp i)) ∧ w.cell? ⟨b, off + i * 2 + 1, none⟩ = some (.bool (fl i))
  vs : ∀ i, i < n → (0 < ln i → Ad i = some ⟨Vb i, Vo i, none⟩) ∧ ∀ j, j < ln i → w.cell? ⟨Vb i, Vo i + j, none⟩ = some (.int .i64 (V i j))
  cr : Cr w B n K Fa sz ln hd V fl
  lt : B + 4 * n ≤ w.heap.size ∧ K < w.heap.size ∧ Fa < w.heap.size
  be : Below H w0 w
  hH : H ≤ w.heap.size
  pp : Pp w P v
  lgs : ∃ s L, w.cell? ⟨LG, 0, none⟩ = some s ∧ Sl w L 1 s l.length (ints l)
  sa : w.cell? ⟨SA, 0, none⟩ = some (.int .u8 (stn : Int))
theorem Af.later {w0 w w' : World} {H b off n B K Fa P LG SA stn : Nat} {v : PV} {Ad : Nat → Option Addr} {ln Cp Vb Vo sz hd : Nat → Nat} {V : Nat → Nat → Int} {fl : Nat → Bool} {l : List Int}
    (h : Af w0 w H b off n B K Fa P LG SA stn v Ad ln Cp Vb Vo sz hd V fl l) (hb : Below w.heap.size w w') : Af w0 w' H b off n B K Fa P LG SA stn v Ad ln Cp Vb Vo sz hd V fl l := by
  have hl := h.lt
  have hs := hb.size
  have hh := h.hH
  obtain ⟨s, L, h1, h2⟩ := h.lgs
  exact ⟨fun i hi => ⟨cell_later hb (h.wk i hi).1, cell_later hb (h.wk i hi).2⟩, fun i hi => ⟨(h.vs i hi).1, fun j hj => cell_later hb ((h.vs i hi).2 j hj)⟩,
    h.cr.same (hb.block _ (by omega)) (hb.block _ (by omega)) (fun k _ hk => hb.block k (by omega)), by omega, h.be.trans (hb.mono hh), by omega, h.pp.same (hb.block _ h.pp.lt), ⟨s, L, cell_later hb h1, h2.later hb⟩, cell_later hb h.sa⟩
/-- How p stands at the end. -/
def En (b1 b3 b4 : Bool) (si : Int) (v : PV) (w : World) : Prop :=
  (b1 = true → v.si = si ∧ v.wt = false ∧ v.us = b4 ∧ v.rd = true ∧ Wk w v.wake false 1) ∧ (b1 = false → v.si = 0 ∧ v.wt = !(b3 || b4) ∧ v.us = (b4 && b3) ∧ v.rd = false ∧ Wk w v.wake false (n1 (b3 || b4)))
theorem En.later {b1 b3 b4 : Bool} {si : Int} {v : PV} {w w' : World} (h : En b1 b3 b4 si v w) (hb : Below w.heap.size w w') : En b1 b3 b4 si v w' :=
  ⟨fun e => have k := h.1 e; ⟨k.1, k.2.1, k.2.2.1, k.2.2.2.1, k.2.2.2.2.later hb⟩, fun e => have k := h.2 e; ⟨k.1, k.2.1, k.2.2.1, k.2.2.2.1, k.2.2.2.2.later hb⟩⟩
end Go.Proofs.Ybulkdrqi
