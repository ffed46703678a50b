import Derived.Test.YbulkdrpgN5
namespace Go.Proofs.Ybulkdrpg
open Go.RowKit
variable {w w' : World} {L : Nat} {v : Value} {ns : List Value} {A : List Say}

/-- Contains, at a names' slice. -/
theorem contains_sl (l : List ByteArray) (x : ByteArray) (u : Value) (h : Sl w L 1 u l.length (strs l)) (hlen : l.length ≤ 1000000000) (r : Bool) (hr : r = true ↔ x ∈ l) :
    Calls Yba.prog 17 #[u, .string x] w fun e w' => e = .returned (.bool r) ∧ w' = w := by
  obtain ⟨_, ⟨rfl, h0⟩ | ⟨g, cap, rfl, h1, h2, h3, h4, h5⟩⟩ := h
  · obtain rfl : l = [] := List.length_eq_zero_iff.1 h0
    have : r = false := by cases r <;> simp_all
    subst this
    exact Yba.slices_Contains_string_empty none 0 x w
  · refine (Yba.slices_Contains_string g 0 l.length cap l x w (Nat.le_refl _) (by omega) (fun j hj => ?_)).mono ?_
    · exact h4 j _ (by simp [strs, hj, List.getD])
    · rintro e w' ⟨rfl, rfl⟩
      refine ⟨?_, rfl⟩
      have : Lib.containsS (l.take l.length) x = r := by
        rw [List.take_length]
        cases r with
        | true => exact (Lib.containsS_iff l x).2 (hr.1 rfl)
        | false =>
          cases hq : Lib.containsS l x with
          | false => rfl
          | true => exact absurd (hr.2 ((Lib.containsS_iff l x).1 hq)) (by simp)
      rw [this]
end Go.Proofs.Ybulkdrpg
