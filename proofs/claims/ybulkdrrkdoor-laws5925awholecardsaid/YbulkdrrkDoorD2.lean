import Derived.Test.YbulkdrrkDoorD1
namespace Go.Proofs.YbulkdrrkDoor
open Go.RowKit

theorem Ybad.gTab : Ybad.prog.globalNamed tabName = some 0 := by kernel_rfl

def Tab (w : World) : Prop := Lib.TabIs Ybad.prog w tabName .u64 Lib.pow10Tab

theorem Tab.pos {w : World} (h : Tab w) : 0 < w.heap.size := by
  have h' : w.var? Ybad.prog tabName = _ := h
  simp only [World.var?, Ybad.gTab, Option.bind_some] at h'
  split at h'
  · rename_i hh
    exact (Array.getElem?_eq_some_iff.1 hh).1
  · cases h'

theorem Tab.later {B : Nat} {w w' : World} (h : Tab w) (hB : Below B w w') (hb : 0 < B) : Tab w' := by
  have h' : w.var? Ybad.prog tabName = _ := h
  show w'.var? Ybad.prog tabName = _
  rw [← h']
  simp only [World.var?, Ybad.gTab, Option.bind_some, hB.block 0 hb]

theorem below_grow (w : World) (k : Nat) (os : Array Obj) : Below w.heap.size w (Go.Sort.grow (w.drewN k) os) :=
  ⟨rfl, rfl, rfl, by simp, fun j hj => by rw [Go.Sort.heap_grow_old _ _ (by simpa using hj)]; simp⟩

theorem itoa_below (n : Int) (h0 : -9223372036854775808 ≤ n) (h1 : n ≤ 9223372036854775807) (w : World) (ht : Tab w) :
    Calls Ybad.prog 6 #[.int .i64 n] w fun e w' => e = .returned (.string ⟨(Lib.itoa n).toArray⟩) ∧ Below w.heap.size w w' := by
  refine (itoa_any n h0 h1 w ht).mono ?_
  rintro e w' ⟨rfl, k, os, rfl⟩
  exact ⟨rfl, below_grow _ _ _⟩

theorem dec_below (n : Int) (h0 : -9223372036854775808 ≤ n) (h1 : n ≤ 9223372036854775807) (w : World) :
    Calls Ybad.prog 5 #[.int .i64 n] w fun e w' => e = .returned (.string ⟨(Lib.itoa n).toArray⟩) ∧ Below w.heap.size w w' := by
  refine (dec n w h0 h1).mono ?_
  rintro e w' ⟨rfl, o, rfl⟩
  exact ⟨rfl, by go_grown⟩

theorem itoa_len (n : Int) (h0 : -9223372036854775808 ≤ n) (h1 : n ≤ 9223372036854775807) : (Lib.itoa n).length ≤ 21 := by
  unfold Lib.itoa
  split
  · have := nd20 n.natAbs (by omega)
    simp [Lib.decDigits_length]; omega
  · have := nd20 n.toNat (by omega)
    simp [Lib.decDigits_length]; omega

abbrev num (n : Int) : ByteArray := ⟨(Lib.itoa n).toArray⟩
theorem num_size (n : Int) (h0 : -9223372036854775808 ≤ n) (h1 : n ≤ 9223372036854775807) : (num n).size ≤ 21 := by
  have := itoa_len n h0 h1
  simpa [num, ByteArray.size] using this
abbrev sp : ByteArray := ⟨#[32]⟩
abbrev col : ByteArray := ⟨#[58]⟩

theorem string_empty (fi : ByteArray) (n : Int) (w : World) :
    Calls Ybad.prog 4 #[.agg #[.string ⟨#[]⟩, .string fi, .int .i64 n]] w fun e w' => e = .returned (.string ⟨#[]⟩) ∧ Below w.heap.size w w' := by
  go_enter Ybad.func4, Ybad.ntmps4
  go_wp2_with fail
  go_ret
  exact ⟨rfl, by go_grown⟩

abbrev Kp (w : World) (fn fi : ByteArray) (n : Int) (w' : World) : Prop := w.heap.size < w'.heap.size ∧ Below w.heap.size w w' ∧ Tab w' ∧ w'.cell? ⟨w.heap.size, 0, none⟩ = some (.string fn) ∧ w'.cell? ⟨w.heap.size, 1, none⟩ = some (.string fi) ∧ w'.cell? ⟨w.heap.size, 2, none⟩ = some (.int .i64 n)
theorem kp_tab (w : World) (fn fi : ByteArray) (n : Int) {w' : World} (h : Kp w fn fi n w') : Tab w' := h.2.2.1
theorem kp_below (w : World) (fn fi : ByteArray) (n : Int) {w' : World} (h : Kp w fn fi n w') : Below w.heap.size w w' := h.2.1
theorem kp_later (w : World) (fn fi : ByteArray) (n : Int) {w1 w' : World} (h : Kp w fn fi n w1) (hB : Below w1.heap.size w1 w') : Kp w fn fi n w' :=
  ⟨Nat.lt_of_lt_of_le h.1 hB.size, h.2.1.trans (hB.mono (Nat.le_of_lt h.1)), h.2.2.1.later hB (by have := h.1; omega), cell_later hB h.2.2.2.1, cell_later hB h.2.2.2.2.1, cell_later hB h.2.2.2.2.2⟩

theorem string_full (fn fi : ByteArray) (n : Int) (h0 : -9223372036854775808 ≤ n) (h1 : n ≤ 9223372036854775807) (w : World) (ht : Tab w) (hne : fn.toList.isEmpty = false) (hs : fn.size + fi.size ≤ 1048576) :
    Calls Ybad.prog 4 #[.agg #[.string fn, .string fi, .int .i64 n]] w fun e w' => e = .returned (.string (fn ++ sp ++ fi ++ col ++ num n)) ∧ Below w.heap.size w w' := by
  have hsz := num_size n h0 h1
  have hp := ht.pos
  have z1 : sp.size = 1 := rfl
  have z2 : col.size = 1 := rfl
  have a1 := fun w => run_string_add_sum (P := Ybad.prog) w fn sp (by omega)
  have a2 := fun w => run_string_add_sum (P := Ybad.prog) w (fn ++ sp) fi (by simp only [ByteArray.size_append]; omega)
  have a3 := fun w => run_string_add_sum (P := Ybad.prog) w (fn ++ sp ++ fi) col (by simp only [ByteArray.size_append]; omega)
  have a4 := fun w => run_string_add_sum (P := Ybad.prog) w (fn ++ sp ++ fi ++ col) (num n) (by simp only [ByteArray.size_append]; omega)
  clear z1 z2
  go_enter Ybad.func4, Ybad.ntmps4
  go_wp2_with fail
  have hpw : 0 < w.heap.size + 1 := by omega
  go_region_held3 (fun w' => w.heap.size < w'.heap.size ∧ Below w.heap.size w w' ∧ Tab w' ∧ w'.cell? ⟨w.heap.size, 0, none⟩ = some (.string fn) ∧ w'.cell? ⟨w.heap.size, 1, none⟩ = some (.string fi) ∧ w'.cell? ⟨w.heap.size, 2, none⟩ = some (.int .i64 n))
    (first
      | (refine ⟨by go_simp, by go_grown, ht.later (B := w.heap.size) (by go_grown) hp, ?_, ?_, ?_⟩ <;> simp [go_sem]; done)
      | exact kp_later w fn fi n (by assumption) (by assumption)
      | go_keep)
    (first | (go_at_call 6; refine (itoa_below n h0 h1 _ (kp_tab w fn fi n (by assumption))).mono ?_; rintro e w' ⟨rfl, hB⟩))
  go_wp2_with fail
  go_ret
  exact ⟨rfl, kp_below w fn fi n (by assumption)⟩
theorem law_big (fn fi : ByteArray) (n : Int) (w : World) (hs : 1048576 < fn.size + fi.size) (hm : fn.size + fi.size ≤ 9223372036854775807) :
    Calls Ybad.prog 3 #[.string fn, .string fi, .int .i64 n] w fun e w' => e = .returned (.bool true) ∧ Below w.heap.size w w' := by
  have hq : IntKind.i64.wrap ((fn.size : Int) + (fi.size : Int)) = (fn.size : Int) + (fi.size : Int) := by rw [IntKind.wrap_i64]; omega
  have ht : decide ((1048576 : Int) < (fn.size : Int) + (fi.size : Int)) = true := by simp; omega
  go_enter Ybad.func3, Ybad.ntmps3
  go_wp2_with fail
  go_ret
  exact ⟨rfl, by go_grown⟩

theorem law_empty (fi : ByteArray) (n : Int) (w : World) (hs : fi.size ≤ 1048576) :
    Calls Ybad.prog 3 #[.string ⟨#[]⟩, .string fi, .int .i64 n] w fun e w' => e = .returned (.bool true) ∧ Below w.heap.size w w' := by
  have z0 : (⟨#[]⟩ : ByteArray).size = 0 := rfl
  have hq : IntKind.i64.wrap ((fi.size : Int)) = (fi.size : Int) := by rw [IntKind.wrap_i64]; omega
  have ht : decide ((1048576 : Int) < (fi.size : Int)) = false := by simp; omega
  go_enter Ybad.func3, Ybad.ntmps3
  go_wp2_with (go_at_call 4; refine (string_empty fi n _).mono ?_; rintro e w' ⟨rfl, hB⟩)
  go_ret
  exact ⟨rfl, (show Below w.heap.size w _ by go_grown).trans (hB.mono (by simp))⟩

theorem law_full (fn fi : ByteArray) (n : Int) (h0 : -9223372036854775808 ≤ n) (h1 : n ≤ 9223372036854775807) (w : World) (ht : Tab w) (hne : fn.toList.isEmpty = false) (hs : fn.size + fi.size ≤ 1048576) :
    Calls Ybad.prog 3 #[.string fn, .string fi, .int .i64 n] w fun e w' => e = .returned (.bool true) ∧ Below w.heap.size w w' := by
  have hp := ht.pos
  have hsz := num_size n h0 h1
  have z1 : sp.size = 1 := rfl
  have z2 : col.size = 1 := rfl
  have a1 := fun w => run_string_add_sum (P := Ybad.prog) w fn sp (by omega)
  have a2 := fun w => run_string_add_sum (P := Ybad.prog) w (fn ++ sp) fi (by simp only [ByteArray.size_append]; omega)
  have a3 := fun w => run_string_add_sum (P := Ybad.prog) w (fn ++ sp ++ fi) col (by simp only [ByteArray.size_append]; omega)
  have a4 := fun w => run_string_add_sum (P := Ybad.prog) w (fn ++ sp ++ fi ++ col) (num n) (by simp only [ByteArray.size_append]; omega)
  have hq : IntKind.i64.wrap ((fn.size : Int) + (fi.size : Int)) = (fn.size : Int) + (fi.size : Int) := by rw [IntKind.wrap_i64]; omega
  have ht1 : decide ((1048576 : Int) < (fn.size : Int) + (fi.size : Int)) = false := by simp; omega
  have hl0 : (num 0).size = 1 := by decide +kernel
  have hl1 : (((fn ++ sp ++ fi ++ col ++ num n).size : Nat) : Int) = (fn.size : Int) + (fi.size : Int) + 2 + ((num n).size : Int) := by simp only [ByteArray.size_append]; omega
  have w1 : IntKind.i64.wrap ((fn.size : Int) + (fi.size : Int) + 2) = (fn.size : Int) + (fi.size : Int) + 2 := by rw [IntKind.wrap_i64]; omega
  have w2 : IntKind.i64.wrap ((fn.size : Int) + (fi.size : Int) + 2 + 1) = (fn.size : Int) + (fi.size : Int) + 2 + 1 := by rw [IntKind.wrap_i64]; omega
  have w3 : IntKind.i64.wrap ((fn.size : Int) + (fi.size : Int) + 2 + 1 - 1) = (fn.size : Int) + (fi.size : Int) + 2 := by rw [IntKind.wrap_i64]; omega
  have w4 : IntKind.i64.wrap ((fn.size : Int) + (fi.size : Int) + 2 + ((num n).size : Int)) = (fn.size : Int) + (fi.size : Int) + 2 + ((num n).size : Int) := by rw [IntKind.wrap_i64]; omega
  go_enter Ybad.func3, Ybad.ntmps3
  go_wp2_with (first
    | (go_at_call 4; refine (string_full fn fi n h0 h1 _ (ht.later (B := w.heap.size) (by go_grown) hp) hne hs).mono ?_; rintro e w1 ⟨rfl, hB1⟩; have q0 : w1.cell? ⟨w.heap.size, 0, none⟩ = some (.string fn) := cell_later hB1 (by go_simp); have q1 : w1.cell? ⟨w.heap.size, 1, none⟩ = some (.string fi) := cell_later hB1 (by go_simp); have q2 : w1.cell? ⟨w.heap.size, 2, none⟩ = some (.int .i64 n) := cell_later hB1 (by go_simp))
    | (go_at_call 5; refine (dec_below n h0 h1 _).mono ?_; rintro e w2 ⟨rfl, hB2⟩; have r0 := cell_later hB2 q0; have r1 := cell_later hB2 q1; have r2 := cell_later hB2 q2)
    | (go_at_call 6; refine (itoa_below 0 (by decide) (by decide) w2 (((ht.later (B := w.heap.size) (by go_grown) hp).later hB1 (by simp)).later hB2 (Nat.lt_of_lt_of_le (by simp) hB1.size))).mono ?_; rintro e w3 ⟨rfl, hB3⟩)
    | (go_at_call 5; refine (dec_below n h0 h1 _).mono ?_; rintro e w4 ⟨rfl, hB4⟩))
  go_ret
  refine ⟨?_, ?_⟩
  · have hln := itoa_len n h0 h1
    have he : wrap64 ((fn.size : Int) + (fi.size : Int) + 2 + ((Lib.itoa n).length : Int)) = (fn.size : Int) + (fi.size : Int) + 2 + ((Lib.itoa n).length : Int) := by unfold wrap64; omega
    have hb : ((fn.size : Int) + 1 + (fi.size : Int) + 1 + ((Lib.itoa n).length : Int) == wrap64 ((fn.size : Int) + (fi.size : Int) + 2 + ((Lib.itoa n).length : Int))) = true := by rw [he, beq_iff_eq]; omega
    show Ending.returned (Value.bool ((fn.size : Int) + 1 + (fi.size : Int) + 1 + ((Lib.itoa n).length : Int) == wrap64 ((fn.size : Int) + (fi.size : Int) + 2 + ((Lib.itoa n).length : Int)))) = _
    rw [hb]
  · have b1 := (show Below w.heap.size w _ by go_grown).trans (hB1.mono (by simp))
    have l1 := b1.size
    have b2 := b1.trans (hB2.mono l1)
    have b3 := b2.trans (hB3.mono b2.size)
    exact b3.trans (hB4.mono b3.size)

theorem law_any (fn fi : ByteArray) (n : Int) (h0 : -9223372036854775808 ≤ n) (h1 : n ≤ 9223372036854775807) (w : World) (ht : Tab w) (hm : fn.size + fi.size ≤ 9223372036854775807) :
    Calls Ybad.prog 3 #[.string fn, .string fi, .int .i64 n] w fun e w' => e = .returned (.bool true) ∧ Below w.heap.size w w' := by
  by_cases hs : 1048576 < fn.size + fi.size
  · exact law_big fn fi n w hs hm
  · cases hl : fn.data.toList with
    | nil =>
      obtain rfl : fn = ⟨#[]⟩ := by
        apply ByteArray.ext
        apply Array.toList_inj.1
        rw [hl]
      exact law_empty fi n w (by omega)
    | cons a r => exact law_full fn fi n h0 h1 w ht (by rw [ByteArray.toList_eq, hl]; rfl) (by omega)
end Go.Proofs.YbulkdrrkDoor
