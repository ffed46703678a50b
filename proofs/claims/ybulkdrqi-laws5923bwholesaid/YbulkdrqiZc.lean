import Derived.Test.YbulkdrqiZb
namespace Go.Proofs.Ybulkdrqi
open Go.RowKit Go.Conc

theorem mk23 (w : World) (n : Nat) (hn : n ≤ 65536) : (Instr.makeSlice 23 (.int .i64 (n : Int)) (.int .i64 (n : Int))).run Yba.prog w = .ok (.slice (some ⟨w.heap.size, 0, none⟩) n n) (w.alloc (.cells (madeCells #[.int .i64 0] n) 3)) := by
  have h := run_make_any (P := Yba.prog) 23 3 (.int .i64 0) 1 8 Yba.underlying23 (by kernel_rfl) .i64 .i64 n (by omega) (by omega) w
  rw [Nat.mul_one] at h
  exact h
theorem md_made (w : World) (n : Nat) (ln : Nat → Nat) (V : Nat → Nat → Int) : Md w (w.alloc (.cells (madeCells #[.int .i64 0] n) 3)) w.heap.size n ln V 0 0 (.slice none 0 0) := by
  refine ⟨⟨rfl, Or.inl ⟨rfl, rfl⟩⟩, fun j hj => ?_, there_made _ _ _ _, by go_grown, by rw [World.size_alloc]; omega⟩
  rw [World.cell?_alloc_at _ _ _ _ rfl, show (madeCells #[Value.int .i64 0] n)[j]? = some (.int .i64 0) from by simp [madeCells, hj, Nat.mod_one]]
  simp [hdF]

/-- What the workers' slice holds. -/
structure Wv (w : World) (b off n : Nat) (Ad : Nat → Option Addr) (ln Cp Vb Vo : Nat → Nat) (V : Nat → Nat → Int) (fl : Nat → Bool) : Prop where
  wk : ∀ i, i < n → w.cell? ⟨b, off + i * 2, none⟩ = some (.slice (Ad i) (ln i) (Cp i)) ∧ w.cell? ⟨b, off + i * 2 + 1, none⟩ = some (.bool (fl i))
  vs : ∀ i, i < n → (0 < ln i → Ad i = some ⟨Vb i, Vo i, none⟩) ∧ ∀ j, j < ln i → w.cell? ⟨Vb i, Vo i + j, none⟩ = some (.int .i64 (V i j))
theorem Wv.later {w w' : World} {b off n : Nat} {Ad : Nat → Option Addr} {ln Cp Vb Vo : Nat → Nat} {V : Nat → Nat → Int} {fl : Nat → Bool} (h : Wv w b off n Ad ln Cp Vb Vo V fl) (hb : Below w.heap.size w w') : Wv w' b off n Ad ln Cp Vb Vo V fl :=
  ⟨fun i hi => ⟨cell_later hb (h.wk i hi).1, cell_later hb (h.wk i hi).2⟩, fun i hi => ⟨(h.vs i hi).1, fun j hj => cell_later hb ((h.vs i hi).2 j hj)⟩⟩

/-- The value of p. -/
def pv (dv cw : Value) (wake QB : Nat) (fo : Option Addr) (b3 b4 : Bool) (si col yi : Int) : PV := ⟨dv, wake, cw, .pointer fo, false, true, b4, b3, col, yi, si, QB⟩

/-- What stands ahead of the await, but for the log. -/
structure Be (w0 w : World) (H n B K Fa P SA stn QB wake : Nat) (dv cw : Value) (fo : Option Addr) (b1 b3 b4 : Bool) (si col yi : Int) (ln sz : Nat → Nat) (V : Nat → Nat → Int) (fl : Nat → Bool) : Prop where
  cr : Cr w B n K Fa sz ln (fun _ => 0) V fl
  be : Below H w0 w
  pp : Pp w P (pv dv cw wake QB fo b3 b4 si col yi)
  q1 : w.cell? ⟨QB, 66, none⟩ = some (.int .u64 0)
  q2 : w.cell? ⟨QB, 131, none⟩ = some (.int .u64 0)
  wk : w.heap[wake]? = some (.chan 1 #[.agg #[]] false 1 0 false)
  sa : w.cell? ⟨SA, 0, none⟩ = some (.int .u8 (stn : Int))
  dd : DD b1 w P dv
  dk : ∀ c, dv = .chan (some c) → c < K
  od : H ≤ SA ∧ SA < QB ∧ SA < wake ∧ QB < P ∧ wake < P ∧ QB ≠ wake ∧ P < K ∧ K < Fa ∧ Fa < B
  lt : B + 4 * n ≤ w.heap.size
variable {w0 w w' : World} {H n B K Fa P SA stn QB wake : Nat} {dv cw : Value} {fo : Option Addr} {b1 b3 b4 : Bool} {si col yi : Int} {ln sz : Nat → Nat} {V : Nat → Nat → Int} {fl : Nat → Bool}
theorem Be.later (h : Be w0 w H n B K Fa P SA stn QB wake dv cw fo b1 b3 b4 si col yi ln sz V fl) (hb : Below w.heap.size w w') : Be w0 w' H n B K Fa P SA stn QB wake dv cw fo b1 b3 b4 si col yi ln sz V fl := by
  have ho := h.od
  have hl := h.lt
  have hs := hb.size
  exact ⟨h.cr.same (hb.block _ (by omega)) (hb.block _ (by omega)) (fun k _ hk => hb.block k (by omega)), h.be.trans (hb.mono (by omega)), h.pp.same (hb.block _ (by omega)), cell_later hb h.q1, cell_later hb h.q2, (hb.block _ (by omega)).trans h.wk, cell_later hb h.sa,
    h.dd.same hs (fun k _ hk => hb.block k hk), h.dk, ho, by omega⟩
theorem Be.crew (h : Be w0 w H n B K Fa P SA stn QB wake dv cw fo b1 b3 b4 si col yi ln sz V fl) (x : Value) : Be w0 (w.setCell ⟨P, 276, none⟩ x) H n B K Fa P SA stn QB wake dv x fo b1 b3 b4 si col yi ln sz V fl := by
  have ho := h.od
  have hl := h.lt
  have e : ∀ k, k ≠ P → (w.setCell ⟨P, 276, none⟩ x).heap[k]? = w.heap[k]? := fun k hk => Below.heap_setCell _ _ _ _ hk
  have hz : (w.setCell ⟨P, 276, none⟩ x).heap.size = w.heap.size := by simp [World.setCell]
  exact ⟨h.cr.same (e _ (by omega)) (e _ (by omega)) (fun k hk _ => e k (by omega)), h.be.trans ⟨rfl, rfl, rfl, by rw [hz]; exact Nat.le_refl _, fun k hk => e k (by omega)⟩, h.pp.setCrew x, cell_at (e _ (by omega)) h.q1, cell_at (e _ (by omega)) h.q2, (e _ (by omega)).trans h.wk, cell_at (e _ (by omega)) h.sa,
    h.dd.same (by rw [hz]; exact Nat.le_refl _) (fun k hk _ => e k (by omega)), h.dk, ho, by omega⟩
theorem Be.ly (h : Be w0 w H n B K Fa P SA stn QB wake dv cw fo b1 b3 b4 si col yi ln sz V fl) : Ly P B K Fa SA := by
  have ho := h.od
  exact ⟨by omega, by omega, by omega, by omega, by omega, by omega, by omega⟩
/-- Behind an await that was cancelled at once. -/
theorem Be.afA {b off : Nat} {Ad : Nat → Option Addr} {Cp Vb Vo : Nat → Nat} (hH : H = w0.heap.size) (hW : Wv w0 b off n Ad ln Cp Vb Vo V fl) (h : Be w0 w H n B K Fa P SA stn QB wake dv cw fo b1 b3 b4 si col yi ln sz V fl)
    (hL : Lg w (B + 4 * n + 2) (B + 4 * n) (B + 4 * n + 1) SA (.slice none 0 0) [] (stn : Int)) : Af w0 w H b off n B K Fa P (B + 4 * n) SA stn (pv dv cw wake QB fo b3 b4 si col yi) Ad ln Cp Vb Vo sz (fun _ => 0) V fl [] := by
  have ho := h.od
  have hl := h.lt
  have hw := hW.later (by rw [← hH]; exact h.be)
  exact ⟨hw.wk, hw.vs, h.cr, by omega, h.be, by omega, h.pp, ⟨_, _, hL.log, hL.sl⟩, h.sa⟩
/-- Behind an await that went on. -/
theorem Be.afB {w1 : World} {b off i q kd : Nat} {Ad : Nat → Option Addr} {Cp Vb Vo : Nat → Nat} (hH : H = w0.heap.size) (hW : Wv w0 b off n Ad ln Cp Vb Vo V fl) (h : Be w0 w H n B K Fa P SA stn QB wake dv cw fo b1 b3 b4 si col yi ln sz V fl)
    (hC : Co w1 w' P B n K Fa SA (vw (pv dv cw wake QB fo b3 b4 si col yi)) (ftv kd (.pointer fo) (B + 4 * i)) sz ln V fl (stn : Int) i q) (hch : Ch (fun k => k = P ∨ k = wake ∨ B ≤ k) (B + 4 * n + 2) w w') :
    Af w0 w' H b off n B K Fa P (B + 4 * n) SA stn (uv (vw (pv dv cw wake QB fo b3 b4 si col yi)) (ftv kd (.pointer fo) (B + 4 * i)) (sm ln i + q)) Ad ln Cp Vb Vo sz (hdF ln i q) V fl (lg ln V i q) := by
  have ho := h.od
  have hl := h.lt
  have hs := hch.size
  have hb : Below H w0 w' := h.be.trans ⟨hch.os, hch.tape, hch.output, hch.size, fun k hk => hch.block k (by omega) (by omega)⟩
  have hw := hW.later (by rw [← hH]; exact hb)
  obtain ⟨s, hL⟩ := hC.lgs
  exact ⟨hw.wk, hw.vs, hC.cr, by omega, hb, by omega, hC.pp, ⟨s, _, hL.log, hL.sl⟩, hL.stp⟩
theorem Be.enA (h : Be w0 w H n B K Fa P SA stn QB wake dv cw fo b1 b3 b4 si col yi ln sz V fl) : En true b3 b4 si (pv dv cw wake QB fo b3 b4 si col yi) w :=
  ⟨fun _ => ⟨rfl, rfl, rfl, rfl, ⟨_, _, _, h.wk, rfl⟩⟩, (fun e => by cases e)⟩
theorem enB {f : Value} {c : Nat} (h : Wk w' wake false (n1 (b3 || b4))) : En false b3 b4 si (uv (vw (pv dv cw wake QB fo b3 b4 si col yi)) f c) w' :=
  ⟨(fun e => by cases e), fun _ => ⟨rfl, rfl, rfl, rfl, h⟩⟩
end Go.Proofs.Ybulkdrqi
