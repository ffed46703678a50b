import Derived.Test.YbulkdrpgN6
namespace Go.Proofs.Ybulkdrpg
open Go.RowKit
variable {w w' : World} {L : Nat} {v : Value} {ns : List Value} {A : List Say}

/-- apply, where the client has the name. -/
theorem apply_there (j : Nat) (c s : Int) (name : ByteArray) (h : Mo w L v ns A) (hlen : A.length ≤ 1000000000) (hj : j < A.length) (hc : A[j].1 = c) (hb : ∀ i (hi : i < A.length), i < j → A[i].1 ≠ c) (hin : name ∈ A[j].2.2) (hl : A[j].2.2.length ≤ 1000000000) :
    Calls Yba.prog 8 #[v, .int .u64 c, .string name, .int .u64 s] w fun e w' => e = .returned v ∧ w' = w := by
  obtain ⟨a, g, cap, rfl, hg⟩ := h.cells
  obtain ⟨rfl, hcap, _, hr, ht⟩ := hg (by omega)
  have hns : j < ns.length := by rw [h.len]; exact hj
  obtain ⟨ua, uc, hu⟩ := (h.nam j hj).form
  have hf := find_at g A.length cap j (fun i => if hi : i < A.length then A[i].1 else 0) c w (by omega) hj (by simp [hj, hc]) (fun i hi => by
    have : i < A.length := by omega
    simp only [this, dif_pos]
    exact hb i this hi) (fun i hi => by
    have := hr _ _ (flatM_at A ns h.len i hi).1
    simp only [hi, dif_pos]
    simpa using this)
  have c2 : w.cell? ⟨g, j * 3 + 2, none⟩ = some ns[j] := by
    have := hr _ _ (flatM_at A ns h.len j hj).2.2
    simpa using this
  have hct := contains_sl (w := w) A[j].2.2 name ns[j] (h.nam j hj) hl true (by simp [hin])
  rw [hu] at c2 hct
  have j0 : (0 : Int) ≤ (j : Int) := by omega
  have j1 : (j : Int) < (A.length : Int) := by omega
  have j2 : decide ((j : Int) < 0) = false := by simp
  clear hr ht hg
  go_enter Yba.func8, Yba.ntmps8
  go_wp2_with (first
    | (go_at_call 12; refine hf.mono ?_; rintro e w1 ⟨rfl, rfl⟩)
    | (go_at_call 17; refine hct.mono ?_; rintro e w1 ⟨rfl, rfl⟩))
  go_ret
  exact ⟨rfl, rfl⟩
end Go.Proofs.Ybulkdrpg
