import Derived.Test.YbulkdrrkK1
import Derived.Lib.Strings
namespace Go.Proofs.Ybulkdrrk
open Go.RowKit

/-- Does s begin with p? -/
def hasB (s p : ByteArray) : Bool := decide (p.size ≤ s.size) && ((s.extract 0 p.size).toList == p.toList)

theorem hasB_short {s p : ByteArray} (h : s.size < p.size) : hasB s p = false := by
  unfold hasB; rw [decide_eq_false (by omega)]; rfl
theorem hasB_long {s p : ByteArray} (h : p.size ≤ s.size) : hasB s p = ((s.extract 0 p.size).toList == p.toList) := by
  unfold hasB; rw [decide_eq_true h]; rfl
theorem extract_take (s : ByteArray) (n : Nat) : (s.extract 0 n).toList = s.data.toList.take n := by
  rw [Lib.toList_data, Lib.extract_data]; simp
theorem hasB_all {s p : ByteArray} (h : p.size ≤ s.size) (hx : ∀ j, (hj : j < p.size) → s[j]'(by omega) = p[j]) : hasB s p = true := by
  rw [hasB_long h, extract_take, Lib.toList_data]
  simp only [beq_iff_eq]
  apply List.ext_getElem
  · simp; omega
  · intro i h1 h2
    have hi : i < p.size := by simpa using h2
    rw [List.getElem_take]
    exact hx i hi
theorem hasB_miss {s p : ByteArray} {j : Nat} (h : p.size ≤ s.size) (hj : j < p.size) (hx : s[j]'(by omega) ≠ p[j]) : hasB s p = false := by
  rw [hasB_long h, extract_take, Lib.toList_data]
  simp only [beq_eq_false_iff_ne]
  intro e
  apply hx
  have e1 : (s.data.toList.take p.size)[j]? = p.data.toList[j]? := by rw [e]
  rw [List.getElem?_take_of_lt hj] at e1
  have hs : j < s.data.toList.length := by simp; exact Nat.lt_of_lt_of_le hj h
  have hp : j < p.data.toList.length := by simp; exact hj
  rw [List.getElem?_eq_getElem hs, List.getElem?_eq_getElem hp] at e1
  exact Option.some.inj e1

set_option maxHeartbeats 400000 in
theorem lite_any (s p : ByteArray) (w : World) (_hs : s.size ≤ maxLen) (_hp : p.size ≤ maxLen) : Calls Yba.prog 9 #[.string s, .string p] w fun e w' => e = .returned (.bool (hasB s p)) ∧ w' = w := by
  unfold maxLen at _hs _hp
  by_cases h : p.size ≤ s.size
  · have hd : decide ((p.size : Int) ≤ (s.size : Int)) = true := decide_eq_true (by omega)
    go_enter Yba.func9, Yba.ntmps9
    go_wp2
    go_ret
    exact ⟨by simp [hasB_long h], rfl⟩
  · have hd : decide ((p.size : Int) ≤ (s.size : Int)) = false := decide_eq_false (by omega)
    go_enter Yba.func9, Yba.ntmps9
    go_wp2
    go_ret
    exact ⟨by rw [hasB_short (by omega)]; rfl, rfl⟩
theorem hasPrefix_any (s p : ByteArray) (w : World) (hs : s.size ≤ maxLen) (hp : p.size ≤ maxLen) : Calls Yba.prog 7 #[.string s, .string p] w fun e w' => e = .returned (.bool (hasB s p)) ∧ w' = w := by
  go_enter Yba.func7, Yba.ntmps7
  go_wp2_with (go_at_call 9; refine (lite_any s p _ hs hp).mono ?_; rintro e w' ⟨rfl, rfl⟩)
  go_ret
  exact ⟨rfl, rfl⟩

set_option maxHeartbeats 400000 in
theorem has_any (s p : ByteArray) (w : World) (hs : s.size ≤ maxLen) (_hp : p.size ≤ maxLen) : Calls Yba.prog 8 #[.string s, .string p] w fun e w' => e = .returned (.bool (hasB s p)) ∧ ∃ n, w' = w.drewN n := by
  unfold maxLen at hs _hp
  by_cases h : p.size ≤ s.size
  · have hd : decide ((s.size : Int) < (p.size : Int)) = false := decide_eq_false (by omega)
    go_enter Yba.func8, Yba.ntmps8
    go_wp2_with fail
    go_loopw [5] (fun i wr => ∃ k : Nat, k ≤ p.size ∧ i = .int .i64 k ∧ Hid (∀ j, (hj : j < p.size) → j < k → s[j]'(by omega) = p[j]) ∧ ∃ n, wr = w.drewN n) (fun i _ => p.size - (intOf i).toNat)
    case atStart => exact ⟨0, Nat.zero_le _, rfl, fun j _ h => absurd h (by omega), 0, rfl⟩
    case round =>
      obtain ⟨k, hk, rfl, HJ, m, rfl⟩ := hrel
      by_cases hlt : k < p.size
      · have i0 : (0 : Int) ≤ (k : Int) := by omega
        have i1 : (k : Int) < (p.size : Int) := by omega
        have i2 : (k : Int) < (s.size : Int) := by omega
        go_wp2_with fail
        go_quiet (fail)
        go_wp2_with fail
        · rename_i hne
          have hx : s[k]'(by omega) ≠ p[k] := fun e => by rw [e] at hne; simp at hne
          go_ret
          exact ⟨congrArg (fun b => Ending.returned (.bool b)) (hasB_miss h hlt hx).symm, m + nq, by rw [World.drewN_drewN]⟩
        · rename_i heq
          have hx : s[k]'(by omega) = p[k] := by
            have : (s[k]'(by omega)).toNat = (p[k]).toNat := Int.ofNat_inj.1 (by simpa using heq)
            exact UInt8.toNat_inj.1 this
          go_roundw
          case rel => exact ⟨k + 1, by omega, by go_num, (fun j hj hj2 => by by_cases e : j = k; (subst e; exact hx); exact HJ.out j hj (by omega)), m + nq, rfl⟩
          case measure => simp [intOf]; omega
      · go_wp2_with fail
        go_ret
        exact ⟨congrArg (fun b => Ending.returned (.bool b)) (hasB_all h (fun j hj => HJ.out j hj (by omega))).symm, m, rfl⟩
  · have hd : decide ((s.size : Int) < (p.size : Int)) = true := decide_eq_true (by omega)
    go_enter Yba.func8, Yba.ntmps8
    go_wp2_with fail
    go_ret
    exact ⟨congrArg (fun b => Ending.returned (.bool b)) (hasB_short (by omega)).symm, 0, rfl⟩
/-- Is a function of that name inside runtime., sync. or internal/? -/
def insB (s : ByteArray) : Bool := hasB s ⟨#[114, 117, 110, 116, 105, 109, 101, 46]⟩ || (hasB s ⟨#[115, 121, 110, 99, 46]⟩ || hasB s ⟨#[105, 110, 116, 101, 114, 110, 97, 108, 47]⟩)

set_option maxHeartbeats 400000 in
theorem inside_any (s : ByteArray) (w : World) (hs : s.size ≤ maxLen) : Calls Yba.prog 6 #[.string s] w fun e w' => e = .returned (.bool (insB s)) ∧ ∃ n, w' = w.drewN n := by
  have c1 := fun w => has_any s ⟨#[114, 117, 110, 116, 105, 109, 101, 46]⟩ w hs (by decide)
  have c2 := fun w => has_any s ⟨#[115, 121, 110, 99, 46]⟩ w hs (by decide)
  have c3 := fun w => has_any s ⟨#[105, 110, 116, 101, 114, 110, 97, 108, 47]⟩ w hs (by decide)
  unfold insB
  generalize hasB s ⟨#[114, 117, 110, 116, 105, 109, 101, 46]⟩ = b1 at c1 ⊢
  generalize hasB s ⟨#[115, 121, 110, 99, 46]⟩ = b2 at c2 ⊢
  generalize hasB s ⟨#[105, 110, 116, 101, 114, 110, 97, 108, 47]⟩ = b3 at c3 ⊢
  have C1 : Hid _ := c1
  have C2 : Hid _ := c2
  have C3 : Hid _ := c3
  clear c1 c2 c3
  go_enter Yba.func6, Yba.ntmps6
  go_wp2_with fail
  refine (C1.out _).mono ?_
  rintro e w1 ⟨rfl, n1, rfl⟩
  cases b1
  · go_wp2_with fail
    refine (C2.out _).mono ?_
    rintro e w2 ⟨rfl, n2, rfl⟩
    cases b2
    · go_wp2_with fail
      refine (C3.out _).mono ?_
      rintro e w3 ⟨rfl, n3, rfl⟩
      go_wp2_with fail
      go_ret
      exact ⟨by simp, _, rfl⟩
    · go_wp2_with fail
      go_ret
      exact ⟨by simp, _, rfl⟩
  · go_wp2_with fail
    go_ret
    exact ⟨by simp, _, rfl⟩
end Go.Proofs.Ybulkdrrk
