import Derived.Test.YbulkdrpgN4
import Derived.Deep.CutBlock
namespace Go.Proofs.Ybulkdrpg
open Go.RowKit
variable {w w' : World} {L : Nat} {v : Value} {ns : List Value} {A : List Say}

theorem Yba.info84f : ∃ i, Yba.prog.info? 84 = some i ∧ i.zero = some (.agg #[.int .u64 0, .int .u64 0, .slice none 0 0]) ∧ i.size = 3 ∧ i.bytes = 40 := by
  have h : (Yba.prog.info? 84).map (fun i => (i.zero, i.size, i.bytes)) = some (some (.agg #[.int .u64 0, .int .u64 0, .slice none 0 0]), 3, 40) := by kernel_rfl
  obtain ⟨i, hi, e⟩ := Option.map_eq_some_iff.1 h
  simp only [Prod.mk.injEq] at e
  exact ⟨i, hi, e.1, e.2.1, e.2.2⟩
theorem Yba.info9f : ∃ i, Yba.prog.info? 9 = some i ∧ i.zero = some (.string ⟨#[]⟩) ∧ i.size = 1 ∧ i.bytes = 16 := by
  have h : (Yba.prog.info? 9).map (fun i => (i.zero, i.size, i.bytes)) = some (some (.string ⟨#[]⟩), 1, 16) := by kernel_rfl
  obtain ⟨i, hi, e⟩ := Option.map_eq_some_iff.1 h
  simp only [Prod.mk.injEq] at e
  exact ⟨i, hi, e.1, e.2.1, e.2.2⟩

theorem Sl.form {n size : Nat} {cs : List Value} (h : Sl w L size v n cs) : ∃ a c, v = .slice a n c := by
  obtain ⟨_, ⟨rfl, rfl⟩ | ⟨g, cap, rfl, _⟩⟩ := h
  · exact ⟨_, _, rfl⟩
  · exact ⟨_, _, rfl⟩
/-- A record's id, where the slice is not empty. -/
theorem Mo.cells (h : Mo w L v ns A) : ∃ a g cap, v = .slice a A.length cap ∧ (0 < A.length → a = some ⟨g, 0, none⟩ ∧ A.length ≤ cap ∧ L ≤ g ∧ w.rangeAt g 0 (flatM A ns) ∧ w.there g 0 (cap * 3)) := by
  obtain ⟨_, ⟨rfl, h0⟩ | ⟨g, cap, rfl, h1, h2, h3, h4, h5⟩⟩ := h.row
  · exact ⟨none, 0, 0, by rw [h0], fun hp => by omega⟩
  · exact ⟨_, g, cap, rfl, fun _ => ⟨rfl, h3.1, h1, h4, h5⟩⟩
end Go.Proofs.Ybulkdrpg
