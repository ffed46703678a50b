import Derived.Test.YbulkdrrkDoorBase
import Derived.Laws.BytesArg
import Derived.Lib.SlBytesRow
namespace Go.Proofs.YbulkdrrkDoor
open Go.RowKit
open Go.Lib (decDigits nDigits nDigits_pos nDigits_big decDigits_one run_convert_whole)

theorem Ybad.cells28 : Ybad.prog.cellsOf 28 = 24 := by kernel_rfl

/-- The buffer behind k digits: zeros, then the digits. -/
def bufOf (L : List UInt8) : Array Value := (List.replicate (24 - L.length) (Value.int .u8 0) ++ L.map fun x => Value.int .u8 (x.toNat : Int)).toArray

theorem bufOf_size (L : List UInt8) (h : L.length ≤ 24) : (bufOf L).size = 24 := by simp [bufOf]; omega

theorem bufOf_at (L : List UInt8) (j : Nat) (hj : j < L.length) : (bufOf L)[24 - L.length + j]? = some (.int .u8 (L[j].toNat : Int)) := by
  simp only [bufOf, List.getElem?_toArray]
  rw [List.getElem?_append_right (by simp)]
  simp [hj]

theorem bufOf_some (L : List UInt8) (h : L.length ≤ 24) (j : Nat) (hj : j < 24) : ∃ v, (bufOf L)[j]? = some v :=
  ⟨(bufOf L)[j]'(by rw [bufOf_size L h]; exact hj), by simp⟩

theorem bufOf_set (L : List UInt8) (d : UInt8) (h : L.length < 24) : (bufOf L).set! (24 - L.length - 1) (.int .u8 (d.toNat : Int)) = bufOf (d :: L) := by
  obtain ⟨m, hm⟩ : ∃ m, 24 - L.length = m + 1 := ⟨24 - L.length - 1, by omega⟩
  have hm' : 24 - (d :: L).length = m := by simp; omega
  apply Array.toList_inj.1
  simp only [bufOf, hm, hm', Nat.add_sub_cancel, Array.set!_eq_setIfInBounds]
  simp only [List.setIfInBounds_toArray, List.map_cons]
  rw [List.replicate_succ']
  rw [List.append_assoc, List.set_append_right _ _ (by simp)]
  simp

theorem byte_dig (u : Nat) : (((UInt8.ofNat (48 + u % 10)).toNat : Nat) : Int) = 48 + (u : Int) % 10 := by
  simp only [UInt8.toNat_ofNat']
  omega

theorem cell_buf (w : World) (L : List UInt8) (j : Nat) : (w.alloc (.cells (bufOf L) 28)).cell? ⟨w.heap.size, j, none⟩ = (bufOf L)[j]? := by
  go_simp

theorem conv_buf (w : World) (L : List UInt8) (hL : L.length ≤ 24) (i : Nat) (hi : i + L.length = 24) :
    (convert 29 9 (.slice (some ⟨w.heap.size, i, none⟩) (24 - i) (24 - i))).run Ybad.prog (w.alloc (.cells (bufOf L) 28)) = .ok (.string ⟨L.toArray⟩) (w.alloc (.cells (bufOf L) 28)) := by
  have hs : (⟨L.toArray⟩ : ByteArray).size = L.length := by simp [ByteArray.size]
  have h := run_convert_whole (P := Ybad.prog) (w.alloc (.cells (bufOf L) 28)) 29 5 9 Ybad.underlying29 Ybad.underlying5 Ybad.underlying9 w.heap.size i ⟨L.toArray⟩ (fun j hj => by
    rw [hs] at hj
    have := bufOf_at L j hj
    rw [cell_buf, show i + j = 24 - L.length + j by omega, this]
    rfl) (24 - i)
  rw [hs, show L.length = 24 - i by omega] at h
  exact h

theorem slice_buf (W : World) (b i : Nat) (hi : i < 24) :
    (Instr.sliceAt 28 (.pointer (some ⟨b, 0, none⟩)) (some (.int .i64 (i : Int))) none none).run Ybad.prog W = .ok (.slice (some ⟨b, i, none⟩) (24 - i) (24 - i)) W := by
  have hal : Ybad.prog.arrayLen 28 = 24 := by simp [Program.arrayLen, Ybad.underlying28]
  rw [run_sliceAt_array_l W 28 ⟨b, 0, none⟩ (by simp [Program.arrayLen, Program.elem, Ybad.underlying28]) .i64 (i : Int) (by omega) (by rw [hal]; omega)]
  simp only [hal]
  go_simp
  omega

theorem nd20 (N : Nat) (h : N < 18446744073709551616) : nDigits N ≤ 20 := by
  by_cases hz : N = 0
  · rw [hz]; simp [nDigits]
  · have := Lib.numDigits_eq N (by omega) h; split at this <;> omega

theorem dec_pos (n : Int) (w : World) (hn : 0 ≤ n) (h1 : n ≤ 9223372036854775807) :
    Calls Ybad.prog 5 #[.int .i64 n] w fun e w' => e = .returned (.string ⟨(Lib.itoa n).toArray⟩) ∧ ∃ o, w' = w.alloc o := by
  have htest : decide (n < 0) = false := by simp; omega
  have hcv : IntKind.u64.wrap n = n := by rw [IntKind.wrap_u64]; omega
  go_enter Ybad.func5, Ybad.ntmps5
  go_wp2_with fail
  go_loopw [4, 6] (fun u i wr => ∃ (m : Nat) (L : List UInt8), u = .int .u64 m ∧ i = .int .i64 (24 - (L.length : Int)) ∧ wr = w.alloc (.cells (bufOf L) 28) ∧ decDigits n.toNat = decDigits m ++ L ∧ nDigits m + L.length ≤ 20 ∧ m < 18446744073709551616) (fun u _ _ => (intOf u).toNat)
  case atStart =>
    exact ⟨n.toNat, [], by rw [Int.toNat_of_nonneg hn], rfl, rfl, by simp, by simpa using nd20 n.toNat (by omega), by omega⟩
  case round =>
    obtain ⟨m, L, rfl, rfl, rfl, hd, hl, hm⟩ := hrel
    have hp := nDigits_pos m
    obtain ⟨i, hi⟩ : ∃ i : Nat, i + L.length + 1 = 24 := ⟨24 - L.length - 1, by omega⟩
    have hq : IntKind.i64.wrap (24 - (L.length : Int) - 1) = (i : Int) := by rw [IntKind.wrap_i64]; omega
    have hdg : IntKind.u8.wrap (IntKind.u64.wrap (48 + (m : Int) % 10)) = 48 + (m : Int) % 10 := by rw [IntKind.wrap_u64, IntKind.wrap_u8]; omega
    obtain ⟨v0, hv0⟩ := bufOf_some L (by omega) i (by omega)
    have hc0 : (w.alloc (.cells (bufOf L) 28)).cell? ⟨w.heap.size, i, none⟩ = some v0 := by rw [cell_buf, hv0]
    obtain ⟨d, hdd⟩ : ∃ d, d = UInt8.ofNat (48 + m % 10) := ⟨_, rfl⟩
    have hset : (bufOf L).setIfInBounds i (.int .u8 (48 + (m : Int) % 10)) = bufOf (d :: L) := by
      rw [← bufOf_set L _ (by omega), hdd, byte_dig, show 24 - L.length - 1 = i by omega, Array.set!_eq_setIfInBounds]
    have HD : Hid _ := hdd
    clear hdd
    by_cases hz : m < 10
    · have hz' : ((m : Int) / 10 == 0) = true := by simp; omega
      have hsl := fun W => slice_buf W w.heap.size i (by omega)
      have hco := conv_buf w (d :: L) (by simp; omega) i (by simp; omega)
      go_wp2_with fail
      go_ret
      refine ⟨?_, _, rfl⟩
      rw [Lib.itoa, if_neg (by omega), hd, decDigits_one hz, HD.out, Nat.mod_eq_of_lt hz]
      rfl
    · have hz' : ((m : Int) / 10 == 0) = false := by simp; omega
      go_wp2_with fail
      go_roundw
      case rel =>
        refine ⟨m / 10, _, by simp, ?_, by rw [← hset], ?_, ?_, by omega⟩
        · simp; omega
        · rw [hd]
          conv => lhs; rw [decDigits, dif_neg hz, ← HD.out]
          simp
        · rw [nDigits_big hz] at hl
          simp; omega
      case measure => simp [intOf]; omega

theorem dec_neg (n : Int) (w : World) (hn : n < 0) (h0 : -9223372036854775808 ≤ n) :
    Calls Ybad.prog 5 #[.int .i64 n] w fun e w' => e = .returned (.string ⟨(Lib.itoa n).toArray⟩) ∧ ∃ o, w' = w.alloc o := by
  have htest : decide (n < 0) = true := by simp; omega
  have hcv : IntKind.u64.wrap (-IntKind.u64.wrap n) = (n.natAbs : Int) := by rw [IntKind.wrap_u64, IntKind.wrap_u64]; omega
  go_enter Ybad.func5, Ybad.ntmps5
  go_wp2_with fail
  go_loopw [4, 6] (fun u i wr => ∃ (m : Nat) (L : List UInt8), u = .int .u64 m ∧ i = .int .i64 (24 - (L.length : Int)) ∧ wr = w.alloc (.cells (bufOf L) 28) ∧ decDigits n.natAbs = decDigits m ++ L ∧ nDigits m + L.length ≤ 20 ∧ m < 18446744073709551616) (fun u _ _ => (intOf u).toNat)
  case atStart =>
    exact ⟨n.natAbs, [], rfl, rfl, rfl, by simp, by simpa using nd20 n.natAbs (by omega), by omega⟩
  case round =>
    obtain ⟨m, L, rfl, rfl, rfl, hd, hl, hm⟩ := hrel
    have hp := nDigits_pos m
    obtain ⟨i, hi⟩ : ∃ i : Nat, i + L.length + 2 = 24 := ⟨24 - L.length - 2, by omega⟩
    have hq : IntKind.i64.wrap (24 - (L.length : Int) - 1) = ((i + 1 : Nat) : Int) := by rw [IntKind.wrap_i64]; omega
    have hdg : IntKind.u8.wrap (IntKind.u64.wrap (48 + (m : Int) % 10)) = 48 + (m : Int) % 10 := by rw [IntKind.wrap_u64, IntKind.wrap_u8]; omega
    obtain ⟨v0, hv0⟩ := bufOf_some L (by omega) (i + 1) (by omega)
    have hc0 : (w.alloc (.cells (bufOf L) 28)).cell? ⟨w.heap.size, i + 1, none⟩ = some v0 := by rw [cell_buf, hv0]
    obtain ⟨d, hdd⟩ : ∃ d, d = UInt8.ofNat (48 + m % 10) := ⟨_, rfl⟩
    have hset : (bufOf L).setIfInBounds (i + 1) (.int .u8 (48 + (m : Int) % 10)) = bufOf (d :: L) := by
      rw [← bufOf_set L _ (by omega), hdd, byte_dig, show 24 - L.length - 1 = i + 1 by omega, Array.set!_eq_setIfInBounds]
    have HD : Hid _ := hdd
    clear hdd
    by_cases hz : m < 10
    · have hz' : ((m : Int) / 10 == 0) = true := by simp; omega
      have hq2 : IntKind.i64.wrap (((i + 1 : Nat) : Int) - 1) = (i : Int) := by rw [IntKind.wrap_i64]; omega
      obtain ⟨v1, hv1⟩ := bufOf_some (d :: L) (by simp; omega) i (by omega)
      have hc1 : (w.alloc (.cells (bufOf (d :: L)) 28)).cell? ⟨w.heap.size, i, none⟩ = some v1 := by rw [cell_buf, hv1]
      have hset2 : (bufOf (d :: L)).setIfInBounds i (.int .u8 45) = bufOf (45 :: d :: L) := by
        have := bufOf_set (d :: L) 45 (by simp; omega)
        rw [← this, show 24 - (d :: L).length - 1 = i by simp; omega, Array.set!_eq_setIfInBounds]
        rfl
      have hsl := fun W => slice_buf W w.heap.size i (by omega)
      have hco := conv_buf w (45 :: d :: L) (by simp; omega) i (by simp; omega)
      go_wp2_with fail
      go_ret
      refine ⟨?_, _, rfl⟩
      rw [Lib.itoa, if_pos (by omega), hd, decDigits_one hz, HD.out, Nat.mod_eq_of_lt hz]
      rfl
    · have hz' : ((m : Int) / 10 == 0) = false := by simp; omega
      go_wp2_with fail
      go_roundw
      case rel =>
        refine ⟨m / 10, _, by simp, ?_, by rw [← hset], ?_, ?_, by omega⟩
        · simp; omega
        · rw [hd]
          conv => lhs; rw [decDigits, dif_neg hz, ← HD.out]
          simp
        · rw [nDigits_big hz] at hl
          simp; omega
      case measure => simp [intOf]; omega

theorem dec (n : Int) (w : World) (h0 : -9223372036854775808 ≤ n) (h1 : n ≤ 9223372036854775807) :
    Calls Ybad.prog 5 #[.int .i64 n] w fun e w' => e = .returned (.string ⟨(Lib.itoa n).toArray⟩) ∧ ∃ o, w' = w.alloc o := by
  by_cases hn : n < 0
  · exact dec_neg n w hn h0
  · exact dec_pos n w (by omega) h1
end Go.Proofs.YbulkdrrkDoor
