import Derived.Test.YbulkdrqiZ4
namespace Go.Proofs.Ybulkdrqi
open Go.RowKit Go.Conc

theorem Sl.at {w : World} {L : Nat} {v : Value} {l : List Int} (h : Sl w L 1 v l.length (ints l)) : ∃ a g cap, v = .slice a l.length cap ∧ (0 < l.length → a = some ⟨g, 0, none⟩) ∧ ∀ j (hj : j < l.length), w.cell? ⟨g, j, none⟩ = some (.int .i64 l[j]) := by
  obtain ⟨_, ⟨rfl, h0⟩ | ⟨g, cap, rfl, _, _, _, h4, _⟩⟩ := h
  · exact ⟨none, 0, 0, by rw [h0], fun hp => by omega, fun j hj => by omega⟩
  · refine ⟨_, g, cap, rfl, fun _ => rfl, fun j hj => ?_⟩
    have := h4 j (.int .i64 l[j]) (by simp [ints, hj])
    rwa [Nat.zero_add] at this

set_option maxRecDepth 100000 in
theorem equal_same {w : World} {L L' : Nat} {v v' : Value} {l : List Int} (h : Sl w L 1 v l.length (ints l)) (h' : Sl w L' 1 v' l.length (ints l)) (hlen : l.length ≤ 1000000) :
    Calls Yba.prog 10 #[v, v'] w fun e w' => e = .returned (.bool true) ∧ ∃ m, w' = w.drewN m := by
  obtain ⟨a, g, cap, rfl, ha, hc⟩ := h.at
  obtain ⟨a', g', cap', rfl, ha', hc'⟩ := h'.at
  have HA : Hid (0 < l.length → a = some ⟨g, 0, none⟩) := ha
  have HA' : Hid (0 < l.length → a' = some ⟨g', 0, none⟩) := ha'
  have HC : Hid (∀ j (hj : j < l.length), w.cell? ⟨g, j, none⟩ = some (.int .i64 l[j])) := hc
  have HC' : Hid (∀ j (hj : j < l.length), w.cell? ⟨g', j, none⟩ = some (.int .i64 l[j])) := hc'
  clear h h' ha ha' hc hc'
  go_enter Yba.func10, Yba.ntmps10
  go_wp2_with fail
  go_loopw [13] (fun i wr => ∃ k : Nat, k ≤ l.length ∧ i = .int .i64 k ∧ ∃ m, wr = w.drewN m) (fun i _ => l.length - (intOf i).toNat)
  case atStart => exact ⟨0, Nat.zero_le _, rfl, 0, rfl⟩
  case round =>
    obtain ⟨k, hk, rfl, m, rfl⟩ := hrel
    by_cases hlt : k < l.length
    · obtain rfl := HA.out (by omega)
      obtain rfl := HA'.out (by omega)
      have c1 := HC.out k hlt
      have c2 := HC'.out k hlt
      generalize l[k] = xk at c1 c2
      have i0 : (0 : Int) ≤ (k : Int) := by omega
      have i1 : (k : Int) < (l.length : Int) := by omega
      have i2 : decide ((k : Int) < (l.length : Int)) = true := by simp [hlt]
      go_upto_region 6 with fail
      go_quiet (fail)
      go_wp2_with fail
      go_roundw
      case rel => exact ⟨k + 1, by omega, by go_num, _, rfl⟩
      case measure => simp [intOf]; omega
    · have i2 : decide ((k : Int) < (l.length : Int)) = false := by simp; omega
      go_wp2_with fail
      go_ret
      exact ⟨rfl, m, rfl⟩
end Go.Proofs.Ybulkdrqi
