import Derived.Test.YbulkdrqiZq
namespace Go.Proofs.Ybulkdrqi
open Go.RowKit Go.Conc

/-- The k-th tail of a sequence. -/
def tl : Nat → Code → Code
  | 0, c => c
  | k + 1, .seq _ y => tl k y
  | _ + 1, c => c
def bodyOf (f : Func) : Code := f.body.getD .skip

/-- What the last loop reads. -/
structure Fi (w : World) (b off n B K Fa Pb : Nat) (Ad : Nat → Option Addr) (ln Cp Vb Vo sz hd : Nat → Nat) (V : Nat → Nat → Int) (fl : Nat → Bool) : Prop where
  wk : ∀ i, i < n → w.cell? ⟨b, off + i * 2, none⟩ = some (.slice (Ad i) (ln i) (Cp i)) ∧ w.cell? ⟨b, off + i * 2 + 1, none⟩ = some (.bool (fl i))
  vs : ∀ i, i < n → (0 < ln i → Ad i = some ⟨Vb i, Vo i, none⟩) ∧ ∀ j, j < ln i → w.cell? ⟨Vb i, Vo i + j, none⟩ = some (.int .i64 (V i j))
  cr : Cr w B n K Fa sz ln hd V fl
  po : ∀ i, i < n → w.cell? ⟨Pb, i, none⟩ = some (.int .i64 (hd i : Int))
  lt : B + 4 * n ≤ w.heap.size ∧ K < w.heap.size ∧ Fa < w.heap.size
theorem Fi.later {w w' : World} {b off n B K Fa Pb : Nat} {Ad : Nat → Option Addr} {ln Cp Vb Vo sz hd : Nat → Nat} {V : Nat → Nat → Int} {fl : Nat → Bool} (h : Fi w b off n B K Fa Pb Ad ln Cp Vb Vo sz hd V fl) (hb : Below w.heap.size w w') : Fi w' b off n B K Fa Pb Ad ln Cp Vb Vo sz hd V fl := by
  have hl := h.lt
  have hs := hb.size
  exact ⟨fun i hi => ⟨cell_later hb (h.wk i hi).1, cell_later hb (h.wk i hi).2⟩, fun i hi => ⟨(h.vs i hi).1, fun j hj => cell_later hb ((h.vs i hi).2 j hj)⟩,
    h.cr.same (hb.block _ (by omega)) (hb.block _ (by omega)) (fun k _ hk => hb.block k (by omega)), fun i hi => cell_later hb (h.po i hi), by omega⟩
end Go.Proofs.Ybulkdrqi
