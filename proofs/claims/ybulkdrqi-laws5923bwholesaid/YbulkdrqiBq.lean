import Derived.Test.YbulkdrqiZ7
import Derived.ProofKit
import Derived.OpenShut
import Derived.SizedLaws
import Derived.Lib.SmallJoins
import Derived.Deep.Slices
namespace Go.Proofs.Ybulkdrqi
open Go.ChangeShapes Go.WideShapes Go.ChangeAt Go.RowKit Go.Deep Go.Joins

theorem Yba.cells25 : Yba.prog.cellsOf 25 = 2 := by kernel_rfl
theorem Yba.cells23 : Yba.prog.cellsOf 23 = 1 := by kernel_rfl
theorem Yba.cells4 : Yba.prog.cellsOf 4 = 1 := by kernel_rfl
theorem Yba.cells3b : Yba.prog.cellsOf 3 = 1 := by kernel_rfl
theorem Yba.bytes3 : Yba.prog.bytesOf 3 = 8 := by kernel_rfl

theorem list2 {α : Type} {l : List α} (h : l.length = 2) : ∃ a b, l = [a, b] := by
  match l, h with
  | [a, b], _ => exact ⟨a, b, rfl⟩
theorem byte_of_wf {x : Int} (h : (Lit.int .u8 x).wf = true) : ∃ k : Nat, x = k ∧ k < 256 := by
  simp [Lit.wf, IntKind.min, IntKind.max, IntKind.signed, IntKind.bits] at h
  exact ⟨x.toNat, by omega, by omega⟩
theorem wrap_of_wf {x : Int} (h : (Lit.int .i64 x).wf = true) : wrap64 x = x := by
  simp [Lit.wf, IntKind.min, IntKind.max, IntKind.signed, IntKind.bits] at h
  unfold wrap64; omega
theorem weightsAll_mem {H : Type} {P : Program} {e : TypeId} : ∀ {l : List (DataW H)} {d : DataW H}, d ∈ l → ∀ n ∈ d.weights P e, n ∈ DataW.weightsAll P e l
  | d' :: r, d, hd, n, hn => by
    simp only [DataW.weightsAll, List.mem_append]
    rcases List.mem_cons.1 hd with rfl | h
    · exact Or.inl hn
    · exact Or.inr (weightsAll_mem h n hn)

/-- A slice of ints: its cells. -/
theorem open_vals {H : Type} {enc : TypeId × Value → H} {W : World} {fuel : Nat} {cs : List Value} {x : DataW H × List MemPlace} (h : DataW.trod enc Yba.prog W 0 (fun _ => true) true fuel 23 cs = some x) (hw : ∀ n ∈ x.1.weights Yba.prog 23, n ≤ reachBytes) :
    ∃ (a : Option Addr) (l c vb vo : Nat) (V : Nat → Int), cs = [.slice a l c] ∧ l ≤ 140737488355328 ∧ (0 < l → a = some ⟨vb, vo, none⟩) ∧ ∀ j, j < l → W.cell? ⟨vb, vo + j, none⟩ = some (.int .i64 (V j)) := by
  rcases open_slice1 Yba.underlying23 Yba.cells3b h with ⟨hcs, _⟩ | ⟨a, len, cap, m, n, V, D, Pl, hcs, _, hl, hm, hmm, hx, hel⟩
  · exact ⟨none, 0, 0, 0, 0, fun _ => 0, hcs, by omega, fun h => absurd h (by omega), fun j h => absurd h (by omega)⟩
  · have hlen : (len + (m - len)) * 8 ≤ reachBytes := by
      refine hw _ ?_
      rw [hx]
      simp [DataW.weights, Yba.underlying23, Yba.bytes3]
    unfold reachBytes at hlen
    simp at hmm
    by_cases h0 : len = 0
    · subst h0
      exact ⟨some a, 0, cap, 0, 0, fun _ => 0, hcs, by omega, fun h => absurd h (by omega), fun j h => absurd h (by omega)⟩
    obtain ⟨b, off, spot⟩ := a
    have hspot : spot = none := by
      have hc := (hel 0 (by omega)).1
      simpa [Addr.add] using World.cell?_spot hc
    subst hspot
    obtain ⟨f, hf⟩ := choose_lt (α := Int) (n := len) (p := fun j y => W.cell? ⟨b, off + j, none⟩ = some (.int .i64 y)) (fun j hj => by
      obtain ⟨hc, ht⟩ := hel j (by omega)
      obtain ⟨y, e, _, _⟩ := DataW.trod_int Yba.underlying3 ht
      simp at e
      rw [Addr.add_mid, e] at hc
      exact ⟨y, hc⟩)
    exact ⟨_, len, cap, b, off, f, hcs, by omega, fun _ => rfl, hf⟩

/-- One worker's cells. -/
theorem open_worker {H : Type} {enc : TypeId × Value → H} {W : World} {fuel : Nat} {cs : List Value} {x : DataW H × List MemPlace} (h : DataW.trod enc Yba.prog W 0 (fun _ => true) true fuel 25 cs = some x) (hw : ∀ n ∈ x.1.weights Yba.prog 25, n ≤ reachBytes) :
    ∃ (a : Option Addr) (l c vb vo : Nat) (V : Nat → Int) (f : Bool), cs = [.slice a l c, .bool f] ∧ l ≤ 140737488355328 ∧ (0 < l → a = some ⟨vb, vo, none⟩) ∧ ∀ j, j < l → W.cell? ⟨vb, vo + j, none⟩ = some (.int .i64 (V j)) := by
  obtain ⟨xs, n, _, rfl, hl, hlen, hf⟩ := DataW.trod_struct Yba.underlying25 h
  rw [Yba.cells25] at hl
  obtain ⟨a0, a1, rfl⟩ := list2 hl
  obtain ⟨y0, y1, rfl⟩ := list2 hlen
  have h0 := hf 0 _ rfl
  have h1 := hf 1 _ rfl
  simp [Yba.cells23, Yba.cells4] at h0 h1
  obtain ⟨a, l, c, vb, vo, V, e0, g1, g2, g3⟩ := open_vals h0 (fun n hn => hw n (by
    simp only [DataW.weights, Yba.underlying25, List.map_cons, List.map_nil, DataW.weightsEach]
    exact List.mem_append_left _ hn))
  obtain ⟨f, e1, _⟩ := DataW.trod_bool Yba.underlying4 h1
  simp at e0 e1
  subst e0 e1
  exact ⟨a, l, c, vb, vo, V, f, rfl, g1, g2, g3⟩
end Go.Proofs.Ybulkdrqi
