import Derived.Test.YbulkdrqiZd
namespace Go.Proofs.Ybulkdrqi
open Go.RowKit Go.Conc

/-- The two rows of the crew are made: ahead of the crew's loop. -/
theorem I1.be0 {w0 w1 w wK wB : World} {H P wake QB stn : Nat} {dv : Value} {fo : Option Addr} {b1 b3 b4 : Bool} {si col yi : Int} {ln : Nat → Nat} {V : Nat → Nat → Int} {fl : Nat → Bool}
    (hI : I1 w1 w H P wake QB (pv dv (.slice none 0 0) wake QB fo b3 b4 si col yi)) (hD : DD b1 w P dv) (hb1 : Below H w0 w1) (hSA : w1.cell? ⟨H, 0, none⟩ = some (.int .u8 (stn : Int)))
    (hbK : Below w.heap.size w wK) (hzK : wK.heap.size = w.heap.size + 1) (hbB : Below wK.heap.size wK wB) (hzB : wB.heap.size = wK.heap.size + 1) :
    Be w0 wB H 0 wB.heap.size w.heap.size wK.heap.size P H stn QB wake dv (.slice none 0 0) fo b1 b3 b4 si col yi ln (fun _ => 0) V fl := by
  have hb : Below w.heap.size w wB := hbK.trans (hbB.mono (by omega))
  have h := hI.later hb
  have hl := hI.lt
  have hc : ∀ c, dv = .chan (some c) → c < w.heap.size := fun c hc => by
    cases b1 with
    | true => obtain ⟨c', h1, _, _, h4⟩ := hD.1 rfl; rw [hc] at h1; injection h1 with h1; injection h1 with h1; omega
    | false => 
      rcases hD.2 rfl with h0 | ⟨c', h1, _, _, h4⟩
      · rw [hc] at h0; cases h0
      · rw [hc] at h1; injection h1 with h1; injection h1 with h1; omega
  refine ⟨⟨fun i hi => by omega, fun i hi => by omega, fun i hi => by omega, fun i hi => by omega, fun i hi => by omega, fun i hi => by omega, fun i hi => by omega, fun i hi => by omega⟩, ?_, h.pp, h.q1, h.q2, h.wk, ?_, hD.same hb.size (fun k _ hk => hb.block k hk), hc, by omega, by omega⟩
  · exact hb1.trans (h.be.mono (by omega))
  · have h2 := h.be
    exact cell_at (h2.block H (by omega)) hSA
end Go.Proofs.Ybulkdrqi
