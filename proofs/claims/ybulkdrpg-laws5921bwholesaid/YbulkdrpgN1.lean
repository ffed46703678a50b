import Derived.Test.YbulkdrpgM6
import Derived.Test.YbulkdrpgSh
namespace Go.Proofs.Ybulkdrpg
open Go.RowKit

/-- find, where it is there. -/
theorem find_at (g k cap j : Nat) (ids : Nat → Int) (c : Int) (w : World) (hk : k ≤ 1000000000000) (hj : j < k) (hc : ids j = c) (hb : ∀ i, i < j → ids i ≠ c) (h : ∀ i, i < k → w.cell? ⟨g, i * 3, none⟩ = some (.int .u64 (ids i))) :
    Calls Yba.prog 12 #[.slice (some ⟨g, 0, none⟩) k cap, .int .u64 c] w fun e w' => e = .returned (.int .i64 (j : Int)) ∧ w' = w := by
  have HH : Hid _ := h
  have HB : Hid _ := hb
  clear h hb
  go_enter Yba.func12, Yba.ntmps12
  go_wp2_with fail
  go_loopw [5] (fun i wr => ∃ m : Nat, m ≤ j ∧ i = .int .i64 m ∧ wr = w) (fun i _ => k - (intOf i).toNat)
  case atStart => exact ⟨0, Nat.zero_le _, rfl, rfl⟩
  case round =>
    obtain ⟨m, hm, rfl, rfl⟩ := hrel
    have c0 := HH.out m (by omega)
    have i0 : (0 : Int) ≤ (m : Int) := by omega
    have i1 : (m : Int) < (k : Int) := by omega
    by_cases e : m = j
    · subst e
      rw [hc] at c0
      go_wp2_with fail
      go_ret
      exact ⟨rfl, rfl⟩
    · have hne : (ids m == c) = false := by simpa using HB.out m (by omega)
      go_wp2_with fail
      go_roundw
      case rel => exact ⟨m + 1, by omega, by go_num, by trivial⟩
      case measure => simp [intOf]; omega

/-- find, where it is not. -/
theorem find_none (a : Option Addr) (g k cap : Nat) (ids : Nat → Int) (c : Int) (w : World) (hk : k ≤ 1000000000000) (ha : 0 < k → a = some ⟨g, 0, none⟩) (hb : ∀ i, i < k → ids i ≠ c) (h : ∀ i, i < k → w.cell? ⟨g, i * 3, none⟩ = some (.int .u64 (ids i))) :
    Calls Yba.prog 12 #[.slice a k cap, .int .u64 c] w fun e w' => e = .returned (.int .i64 (-1)) ∧ w' = w := by
  have HH : Hid _ := h
  have HB : Hid _ := hb
  have HA : Hid _ := ha
  clear h hb ha
  go_enter Yba.func12, Yba.ntmps12
  go_wp2_with fail
  go_loopw [5] (fun i wr => ∃ m : Nat, m ≤ k ∧ i = .int .i64 m ∧ wr = w) (fun i _ => k - (intOf i).toNat)
  case atStart => exact ⟨0, Nat.zero_le _, rfl, rfl⟩
  case round =>
    obtain ⟨m, hm, rfl, rfl⟩ := hrel
    by_cases hlt : m < k
    · obtain rfl := HA.out (by omega)
      have c0 := HH.out m hlt
      have i0 : (0 : Int) ≤ (m : Int) := by omega
      have i1 : (m : Int) < (k : Int) := by omega
      have hne : (ids m == c) = false := by simpa using HB.out m hlt
      go_wp2_with fail
      go_roundw
      case rel => exact ⟨m + 1, by omega, by go_num, by trivial⟩
      case measure => simp [intOf]; omega
    · have e : k = m := by omega
      subst e
      go_wp2_with fail
      go_ret
      exact ⟨rfl, rfl⟩
end Go.Proofs.Ybulkdrpg
