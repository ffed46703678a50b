import Derived.Test.YbulkdrpgP4
namespace Go.Proofs.Ybulkdrpg
open Go.RowKit Go.Maps Go.WideMaps Go.WideElems

set_option maxRecDepth 100000 in
theorem lawB_big (a0 : Option Addr) (n cap : Nat) (c s : Int) (name : ByteArray) (w : World) (hn : 4096 < n) (hm : n ≤ maxLen) :
    Calls Yba.prog 3 #[.slice a0 n cap, .int .u64 c, .string name, .int .u64 s] w fun e w' => e = .returned (.bool true) ∧ Below w.heap.size w w' := by
  unfold maxLen at hm
  have hd : decide ((4096 : Int) < (n : Int)) = true := decide_eq_true (by omega)
  go_enter Yba.func3, Yba.ntmps3
  go_wp2_with fail
  go_ret
  exact ⟨rfl, Below.refl _ _⟩

theorem Only.below {F : Nat → Prop} {w w' : World} {L : Nat} (h : Only (fun k => L ≤ k ∧ ¬ F k) w w') (hL : L ≤ w.heap.size) : Below L w w' :=
  ⟨h.os, h.tape, h.output, h.size, fun k hk => h.block k (by omega) (fun e => by omega)⟩
theorem below_blk {w w' : World} {L : Nat} (h : Below L w w') {a : Addr} {x : Value} (ha : w.cell? a = some x) (hl : a.block < L) : w'.cell? a = some x := by
  rw [← ha]; exact World.cell?_of_block (h.block _ hl)

set_option maxRecDepth 100000 in
set_option maxHeartbeats 4000000 in
theorem lawB (a0 : Option Addr) (n cap b off : Nat) (c s : Int) (name : ByteArray) (Oq Cc Sn : Nat → Int) (Nm : Nat → ByteArray) (w : World) (hn : n ≤ 4096) (e0 : 0 < n → a0 = some ⟨b, off, none⟩)
    (heq : ∀ j, j < n → w.rangeAt b (off + j * 4) [.int .u8 (Oq j), .int .u64 (Cc j), .string (Nm j), .int .u64 (Sn j)]) (hwc : ∀ j, j < n → (Lit.int .u64 (Cc j)).wf = true) (hwo : ∀ j, j < n → 0 ≤ Oq j ∧ Oq j < 256) (hns : ∀ j, j < n → (Nm j).size ≤ maxLen)
    (hwf : (Lit.int .u64 c).wf = true) (hnm : name.size ≤ maxLen) :
    Calls Yba.prog 3 #[.slice a0 n cap, .int .u64 c, .string name, .int .u64 s] w fun e w' => e = .returned (.bool true) ∧ Below w.heap.size w w' := by
  have HE : Hid (∀ j, j < n → w.rangeAt b (off + j * 4) [.int .u8 (Oq j), .int .u64 (Cc j), .string (Nm j), .int .u64 (Sn j)]) := heq
  have HW : Hid (∀ j, j < n → (Lit.int .u64 (Cc j)).wf = true) := hwc
  have HWo : Hid (∀ j, j < n → 0 ≤ Oq j ∧ Oq j < 256) := hwo
  have HNs : Hid (∀ j, j < n → (Nm j).size ≤ maxLen) := hns
  have HE0 : Hid _ := e0
  have HWF : Hid ((Lit.int .u64 c).wf = true) := hwf
  clear heq hwc hwo hns e0 hwf
  have hd : decide ((4096 : Int) < (n : Int)) = false := decide_eq_false (by omega)
  go_enter Yba.func3, Yba.ntmps3
  go_wp2_with fail
  go_loopw [10, 18] (fun m i wr => ∃ (k : Nat) (A : List Say), k ≤ n ∧ i = .int .i64 k ∧ St wr w.heap.size w.heap.size (fun _ => False) m A A ∧ Gd k A ∧ Below w.heap.size w wr) (fun _ i _ => n - (intOf i).toNat)
  case atStart =>
    refine ⟨0, [], Nat.zero_le _, rfl, ?_, ⟨Nat.le_refl _, fun a ha => by simp at ha⟩, by go_grown⟩
    exact st_zero (Bk.new w _ 32) (Nat.le_refl _)
  case round =>
    obtain ⟨k, A, hk, rfl, hS, hG, hB⟩ := hrel
    by_cases hlt : k < n
    · obtain rfl := HE0.out (by omega)
      have hr := HE.out k hlt
      have cl : ∀ (i : Nat) x, [Value.int .u8 (Oq k), .int .u64 (Cc k), .string (Nm k), .int .u64 (Sn k)][i]? = some x → wr.cell? ⟨b, off + k * 4 + i, none⟩ = some x := fun i x hx => below_blk hB (hr i x hx) (block_lt_of_cell (hr i x hx))
      have c0 := cl 0 _ rfl
      have c1 := cl 1 _ rfl
      have c2 := cl 2 _ rfl
      have c3 := cl 3 _ rfl
      have hwc := HW.out k hlt
      have hnk := HNs.out k hlt
      obtain ⟨ho0, ho1⟩ := HWo.out k hlt
      simp only [Nat.add_zero] at c0
      clear cl hr
      generalize Oq k = ok at *
      generalize Cc k = ck at *
      generalize Nm k = nk at *
      generalize Sn k = sk at *
      have HS : Hid (St wr w.heap.size w.heap.size (fun _ => False) _ A A) := hS
      have HG : Hid (Gd k A) := hG
      have HB : Hid (Below w.heap.size w wr) := hB
      have HWC : Hid ((Lit.int .u64 ck).wf = true) := hwc
      clear hS hG hB hwc
      have i0 : (0 : Int) ≤ (k : Int) := by omega
      have i1 : (k : Int) < (n : Int) := by omega
      have i2 : decide ((k : Int) < (n : Int)) = true := by simp [hlt]
      go_upto_region 8 with fail
      have hbw : Below wr.heap.size wr (wr.alloc (.cells #[.int .u8 ok, .int .u64 ck, .string nk, .int .u64 sk] 35)) := by go_grown
      have hS2 : St (wr.alloc (.cells #[.int .u8 ok, .int .u64 ck, .string nk, .int .u64 sk] 35)) w.heap.size w.heap.size (· = wr.heap.size) u10 A A := HS.out.fence ((Only.refl _ wr).alloc _) (by simp)
      have hX : Bk (wr.alloc (.cells #[.int .u8 ok, .int .u64 ck, .string nk, .int .u64 sk] 35)) wr.heap.size #[.int .u8 ok, .int .u64 ck, .string nk, .int .u64 sk] 35 := Bk.new wr _ _
      have hB2 : Below w.heap.size w (wr.alloc (.cells #[.int .u8 ok, .int .u64 ck, .string nk, .int .u64 sk] 35)) := HB.out.trans (hbw.mono HB.out.size)
      have hXL : w.heap.size ≤ wr.heap.size := HB.out.size
      clear HS HB hbw c0 c1 c2 c3
      generalize wr.alloc (.cells #[.int .u8 ok, .int .u64 ck, .string nk, .int .u64 sk] 35) = w2 at *
      generalize wr.heap.size = X at *
      have f0 := hX.cell 0
      have f1 := hX.cell 1
      have f2 := hX.cell 2
      have f3 := hX.cell 3
      simp at f0 f1 f2 f3
      have HX : Hid (Bk w2 X #[.int .u8 ok, .int .u64 ck, .string nk, .int .u64 sk] 35) := hX
      have HS2 : Hid (St w2 w.heap.size w.heap.size (· = X) u10 A A) := hS2
      have HB2 : Hid (Below w.heap.size w w2) := hB2
      clear hX hS2 hB2
      have hXlt : X < w2.heap.size := HX.out.lt
      cases hop : (ok % 3 == 2) with
      | true =>
        go_wp2_with (first
          | (go_at_call 5; refine (st_rm HS2.out ck nk HWC.out hnk).mono ?_; rintro e w3 ⟨rfl, hS3, hO3⟩
             have hX3 : Bk w3 X #[.int .u8 ok, .int .u64 ck, .string nk, .int .u64 sk] 35 := (hO3.block X hXlt (fun e => e.2 rfl)).trans HX.out
             have q1 := hX3.cell 1
             have q2 := hX3.cell 2
             simp at q1 q2
             have HS3 : Hid (St w3 w.heap.size w.heap.size (· = X) u10 (rmS ck nk A) A) := hS3
             have HB3 : Hid (Below w.heap.size w w3) := HB2.out.trans (hO3.below HB2.out.size)
             clear hX3 hS3 hO3 f0 f1 f2 f3)
          | (go_at_call 6; refine (st_zrm HS3.out HG.out (by omega) ck nk).mono ?_; rintro e w4 ⟨v', rfl, hS4, hO4⟩
             have HS4 : Hid (St w4 w.heap.size w.heap.size (· = X) v' (rmS ck nk A) (rmS ck nk A)) := hS4
             have HB4 : Hid (Below w.heap.size w w4) := HB3.out.trans (hO4.below HB3.out.size)
             clear hS4 hO4))
        go_roundw
        case rel => exact ⟨k + 1, rmS ck nk A, by omega, by go_num, HS4.out.free, (HG.out.rm ck nk).mono (by omega), HB4.out⟩
        case measure => simp [intOf]; omega
      | false =>
        go_wp2_with (first
          | (go_at_call 7; refine (st_add HS2.out HG.out (by omega) ck sk nk HWC.out hnk).mono ?_; rintro e w3 ⟨rfl, hS3, hO3⟩
             have hX3 : Bk w3 X #[.int .u8 ok, .int .u64 ck, .string nk, .int .u64 sk] 35 := (hO3.block X hXlt (fun e => e.2 rfl)).trans HX.out
             have q1 := hX3.cell 1
             have q2 := hX3.cell 2
             have q3 := hX3.cell 3
             simp at q1 q2 q3
             have HS3 : Hid (St w3 w.heap.size w.heap.size (· = X) u10 (addS ck sk nk A) A) := hS3
             have HB3 : Hid (Below w.heap.size w w3) := HB2.out.trans (hO3.below HB2.out.size)
             clear hX3 hS3 hO3 f0 f1 f2 f3)
          | (go_at_call 8; refine (st_apply HS3.out HG.out (by omega) ck sk nk).mono ?_; rintro e w4 ⟨v', rfl, hS4, hO4⟩
             have HS4 : Hid (St w4 w.heap.size w.heap.size (· = X) v' (addS ck sk nk A) (addS ck sk nk A)) := hS4
             have HB4 : Hid (Below w.heap.size w w4) := HB3.out.trans (hO4.below HB3.out.size)
             clear hS4 hO4))
        go_roundw
        case rel => exact ⟨k + 1, addS ck sk nk A, by omega, by go_num, HS4.out.free, HG.out.add ck sk nk, HB4.out⟩
        case measure => simp [intOf]; omega
    · have i2 : decide ((k : Int) < (n : Int)) = false := by simp; omega
      have HS : Hid (St wr w.heap.size w.heap.size (fun _ => False) u10 A A) := hS
      have HG : Hid (Gd k A) := hG
      have HB : Hid (Below w.heap.size w wr) := hB
      clear hS hG hB
      go_upto_region 15 with (first
        | (go_at_call 9; refine (st_same HS.out HG.out (by omega)).mono ?_; rintro e w3 ⟨rfl, hS3, hO3⟩
           have HS3 : Hid (St w3 w.heap.size w.heap.size (fun _ => False) u10 A A) := hS3
           have HB3 : Hid (Below w.heap.size w w3) := HB.out.trans (hO3.below HB.out.size)
           clear hS3 hO3))
      refine (st_add HS3.out HG.out (by omega) c s name HWF.out hnm).mono ?_
      rintro e w4 ⟨rfl, hS4, hO4⟩
      have HS4 : Hid (St w4 w.heap.size w.heap.size (fun _ => False) u10 (addS c s name A) A) := hS4
      have HB4 : Hid (Below w.heap.size w w4) := HB3.out.trans (hO4.below HB3.out.size)
      clear hS4 hO4
      go_wp2_with (first
        | (go_at_call 8; refine (st_apply HS4.out HG.out (by omega) c s name).mono ?_; rintro e w5 ⟨v', rfl, hS5, hO5⟩
           have HS5 : Hid (St w5 w.heap.size w.heap.size (fun _ => False) v' (addS c s name A) (addS c s name A)) := hS5
           have HB5 : Hid (Below w.heap.size w w5) := HB4.out.trans (hO5.below HB4.out.size)
           clear hS5 hO5)
        | (go_at_call 9; refine (st_same HS5.out (HG.out.add c s name) (by omega)).mono ?_; rintro e w6 ⟨rfl, hS6, hO6⟩
           have HB6 : Hid (Below w.heap.size w w6) := HB5.out.trans (hO6.below HB5.out.size)
           clear hS6 hO6))
      go_ret
      exact ⟨rfl, HB6.out⟩
end Go.Proofs.Ybulkdrpg
