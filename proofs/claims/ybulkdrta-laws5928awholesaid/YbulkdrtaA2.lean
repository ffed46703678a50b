import Derived.Test.YbulkdrtaA1
namespace Go.Proofs.Ybulkdrta
open Go.RowKit

/-- A uint64 of a whole number. -/
def um (x : Int) : Int := x % 18446744073709551616
theorem um_add (a b : Int) : (um a + b % 18446744073709551616) % 18446744073709551616 = um (a + b) := by unfold um; omega
theorem um_zero : um 0 = 0 := by decide
theorem um_nonneg (a : Int) : 0 ≤ um a := by unfold um; omega
theorem um_lt (a : Int) : um a < 18446744073709551616 := by unfold um; omega
theorem wrap_um (I : Nat → Int) (n : Nat) : wrap64 (um (tsum I n - tsum I 0)) = isum I n := by
  rw [isum_tsum]; simp only [tsum, Int.sub_zero]; unfold um wrap64; omega

theorem um_step (I : Nat → Int) (n k : Nat) : IntKind.u64.wrap (um (tsum I n - tsum I (k + 1)) + IntKind.u64.wrap (I k)) = um (tsum I n - tsum I k) := by
  simp only [IntKind.wrap, IntKind.signed, IntKind.bits, tsum]
  unfold um
  simp
  omega

theorem after1 {B n k : Nat} {Cm Tg : Nat → ByteArray} {I Ln : Nat → Int} {w wr w2 : World} (hB : Built B n k Cm Tg I Ln w wr) (cs : List Value) (h : w2 = ((wr.alloc (.cells cs.toArray 27)).drew).setCells B (k * 4) cs) :
    w2.rangeAt wr.heap.size 0 cs ∧ ∀ o m, wr.there (B + 1) o m → w2.there (B + 1) o m := by
  have hs := hB.size
  constructor
  · rw [h]
    refine World.rangeAt_setCells_apart ?_ _ _ _ (.inl (by omega))
    rw [World.rangeAt_drew]
    exact rangeAt_new _ _ _
  · intro o m ht
    rw [h]
    refine World.there_setCells ?_ _ _ _
    rw [World.there_drew]
    exact World.there_alloc ht _

set_option maxRecDepth 100000 in
set_option maxHeartbeats 2000000 in
theorem lawA (a0 : Option Addr) (n cap b off : Nat) (Cm Tg : Nat → ByteArray) (I Ln : Nat → Int) (w : World)
    (hn : n ≤ 1048576) (hnil : a0 = none → n = 0 ∧ cap = 0) (h0 : 0 < n → a0 = some ⟨b, off, none⟩)
    (hq : ∀ j, j < n → w.rangeAt b (off + j * 4) (regL (Cm j) (Tg j) (I j) (Ln j))) :
    Calls Yba.prog 3 #[.slice a0 n cap] w fun e w' => e = .returned (.bool true) ∧ Below w.heap.size w w' := by
  have HN : Hid _ := hnil
  have HA : Hid _ := h0
  have HQ : Hid _ := hq
  clear h0 hq hnil
  have mk23 := run_make_any (P := Yba.prog) 23 27 (.agg reg0) 4 48 Yba.underlying23 Yba.info27 .i64 .i64 n (by omega) (by omega)
  have hdn : decide ((1048576 : Int) < (n : Int)) = false := decide_eq_false (by omega)
  go_enter Yba.func3, Yba.ntmps3
  go_upto_if 16 with fail
  go_cut [3, 4] (fun s3 s4 wx => ∃ oa ka OB KB, s3 = .slice oa n n ∧ s4 = .slice ka n n ∧ Made n a0 oa ka OB KB Cm Tg I Ln w wx)
  case first =>
    cases a0 with
    | none =>
      obtain ⟨rfl, rfl⟩ := HN.out rfl
      go_wp2
      go_meet
      case rel => exact ⟨none, none, 0, 0, rfl, rfl, Below.refl _ _, rfl, rfl, fun h => absurd h (by omega), fun h => absurd h (by omega), fun j h => absurd h (by omega), fun j h => absurd h (by omega)⟩
    | some ad =>
      clear HN
      go_wp2_with fail
      clear mk23
      go_loopw [5] (fun i wr => ∃ k : Nat, k ≤ n ∧ i = .int .i64 k ∧ Built w.heap.size n k Cm Tg I Ln w wr) (fun i _ => n - (intOf i).toNat)
      case atStart => exact ⟨0, Nat.zero_le _, rfl, built_start w n Cm Tg I Ln _ _⟩
      case round =>
        obtain ⟨k, hk, rfl, hB⟩ := hrel
        by_cases hlt : k < n
        · obtain rfl : ad = ⟨b, off, none⟩ := by simpa using HA.out (by omega)
          have hr0 := HQ.out k hlt
          have c0 : wr.cell? ⟨b, off + k * 4, none⟩ = some (.string (Cm k)) := cell_later hB.below (hr0 0 _ rfl)
          have c1 : wr.cell? ⟨b, off + k * 4 + 1, none⟩ = some (.string (Tg k)) := cell_later hB.below (hr0 1 _ rfl)
          have c2 : wr.cell? ⟨b, off + k * 4 + 2, none⟩ = some (.int .i64 (I k)) := cell_later hB.below (hr0 2 _ rfl)
          have c3 : wr.cell? ⟨b, off + k * 4 + 3, none⟩ = some (.int .i64 (Ln k)) := cell_later hB.below (hr0 3 _ rfl)
          have hV1 : wr.there w.heap.size (k * 4) 4 := fun j hj => by
            have := hB.thereO (k * 4 + j) (by omega)
            simpa using this
          have hV2 : wr.there (w.heap.size + 1) (k * 4) 4 := fun j hj => by
            have := hB.thereK (k * 4 + j) (by omega)
            simpa using this
          have i0 : (0 : Int) ≤ (k : Int) := by omega
          have i1 : (k : Int) < (n : Int) := by omega
          have hblt : b < wr.heap.size := block_lt_of_cell c0
          clear hr0
          go_wp2_with fail
          go_region
          go_wp2_with (first
            | ((with_reducible refine wpList_store_hid 27 (.tmp 53) (.tmp 52) w.heap.size (k * 4) (regL (Cm k) (Tg k) (I k) (Ln k)).toArray 4 ?_ ?_ ?_ Yba.size27 (regL_size _ _ _ _) (regL_one _ _ _ _) ?_); simp [Act.eval]; simp [Act.eval, regL]; exact (World.there_drew _ _ _ _).2 (World.there_alloc hV1 _); intro w2 hw2 hs2; obtain ⟨hE2, hT2⟩ := after1 hB _ hw2.out; have hT3 := hT2 _ _ hV2; clear hT2)
            | ((with_reducible refine wpList_store_hid 27 (.tmp 57) (.tmp 56) (w.heap.size + 1) (k * 4) (regL (Cm k) (Tg k) (I k) (Ln k)).toArray 4 ?_ ?_ ?_ Yba.size27 (regL_size _ _ _ _) (regL_one _ _ _ _) ?_); simp [Act.eval]; simp [Act.eval, regL]; exact hT3; intro w3 hw3 hs3)
            | ((with_reducible refine wpList_load_lit 27 (.tmp 6) wr.heap.size 0 [.string (Cm k), .string (Tg k), .int .i64 (I k), .int .i64 (Ln k)] _ 4 ?_ ?_ Yba.underlying27 rfl Yba.size27 rfl ?_); simp [Act.eval]; exact hE2))
          go_roundw
          case rel => exact ⟨k + 1, by omega, by go_num, built_step hB hlt (by exact (Below.alloc (Below.refl _ _) (Nat.le_refl _) _).drew) hw2.out hw3.out⟩
          case measure => simp [intOf]; omega
        · obtain rfl : k = n := by omega
          go_wp2_with fail
          go_meet
          case rel => exact ⟨some ⟨w.heap.size, 0, none⟩, some ⟨w.heap.size + 1, 0, none⟩, w.heap.size, w.heap.size + 1, rfl, rfl, hB.below, rfl, rfl, fun _ => rfl, fun _ => rfl, hB.opn, hB.keep⟩
  case rest =>
    obtain ⟨oa, ka, OB, KB, rfl, rfl, hM⟩ := hcut
    clear mk23
    go_wp2_with (go_at_call 5; go_must (refine (indent_any wc.heap.size OB n oa Cm Tg I Ln _ hn hM.adO ?_ (hM.later (by go_grown)).opn).mono ?_; (simp); rintro e w6 ⟨rfl, hb6⟩; have hM6 := (hM.later (wy := wc.alloc (.cells #[.slice oa n n, .slice none 0 0] 31)) (by go_grown)).later hb6; have l0 : w6.cell? ⟨wc.heap.size, 0, none⟩ = some (.slice oa n n) := cell_later hb6 (by simp); have l1 : w6.cell? ⟨wc.heap.size, 1, none⟩ = some (.slice none 0 0) := cell_later hb6 (by simp); clear hb6))
    go_loopw [9, 10] (fun u i wr => ∃ m : Nat, m ≤ n ∧ i = .int .i64 ((m : Int) - 1) ∧ u = .int .u64 (um (tsum I n - tsum I m)) ∧ wr = w6) (fun _ i _ => (intOf i + 1).toNat)
    case atStart => exact ⟨n, Nat.le_refl _, rfl, by rw [Int.sub_self, um_zero], rfl⟩
    case round =>
      obtain ⟨m, hm, rfl, rfl, rfl⟩ := hrel
      by_cases hm0 : m = 0
      · subst hm0
        have hcv := wrap_um I n
        have hnr := neq_reg
        have hes := fun (w : World) (a : Option Addr) (n c n' c' : Nat) => Lib.run_eql_slice_nil (P := Yba.prog) w 23 _ a n c n' c' Yba.underlying23
        have hns := fun (w : World) (a : Option Addr) (n c n' c' : Nat) => run_neq_slice_nil_any (P := Yba.prog) w 29 _ a n c n' c' Yba.underlying29
        have nO := hM6.nilO
        have nK := hM6.nilK
        go_wp2_with fail
        clear nO nK hes hcv
        obtain ⟨w7, rfl⟩ : ∃ w7 : World, w7 = wr := ⟨_, rfl⟩
        go_loopw [11] (fun i wx => ∃ m : Nat, m ≤ n ∧ i = .int .i64 m ∧ Below w7.heap.size w7 wx) (fun i _ => n - (intOf i).toNat)
        case atStart => exact ⟨0, Nat.zero_le _, rfl, Below.refl _ _⟩
        case round =>
          obtain ⟨m, hm, rfl, hX⟩ := hrel
          have hMx := hM6.later hX
          by_cases hlt : m < n
          · obtain rfl := hMx.adO (by omega)
            obtain rfl := hMx.adK (by omega)
            have p0 : wr.cell? ⟨wc.heap.size, 0, none⟩ = some (.slice (some ⟨OB, 0, none⟩) n n) := cell_later hX l0
            have o0 : wr.cell? ⟨OB, m * 4, none⟩ = some (.string (Cm m)) := hMx.opn m hlt 0 _ rfl
            have o1 : wr.cell? ⟨OB, m * 4 + 1, none⟩ = some (.string (Tg m)) := hMx.opn m hlt 1 _ rfl
            have o2 : wr.cell? ⟨OB, m * 4 + 2, none⟩ = some (.int .i64 (I m)) := hMx.opn m hlt 2 _ rfl
            have o3 : wr.cell? ⟨OB, m * 4 + 3, none⟩ = some (.int .i64 (Ln m)) := hMx.opn m hlt 3 _ rfl
            have k0 : wr.cell? ⟨KB, m * 4, none⟩ = some (.string (Cm m)) := hMx.keep m hlt 0 _ rfl
            have k1 : wr.cell? ⟨KB, m * 4 + 1, none⟩ = some (.string (Tg m)) := hMx.keep m hlt 1 _ rfl
            have k2 : wr.cell? ⟨KB, m * 4 + 2, none⟩ = some (.int .i64 (I m)) := hMx.keep m hlt 2 _ rfl
            have k3 : wr.cell? ⟨KB, m * 4 + 3, none⟩ = some (.int .i64 (Ln m)) := hMx.keep m hlt 3 _ rfl
            have i0 : (0 : Int) ≤ (m : Int) := by omega
            have i1 : (m : Int) < (n : Int) := by omega
            go_wp2_with fail
            go_quiet (fail)
            go_wp2_with fail
            go_roundw
            case rel => exact ⟨m + 1, by omega, by go_num, below_drewN hX _⟩
            case measure => simp [intOf]; omega
          · have p1 : wr.cell? ⟨wc.heap.size, 1, none⟩ = some (.slice none 0 0) := cell_later hX l1
            go_wp2_with fail
            go_ret
            exact ⟨rfl, hMx.below⟩
      · obtain ⟨k, rfl⟩ : ∃ k, m = k + 1 := ⟨m - 1, by omega⟩
        obtain rfl := HA.out (by omega)
        have e1 : (((k + 1 : Nat) : Int) - 1) = (k : Int) := by omega
        rw [e1]
        have c2 : wr.cell? ⟨b, off + k * 4 + 2, none⟩ = some (.int .i64 (I k)) := cell_later hM6.below (HQ.out k (by omega) 2 _ rfl)
        have u0 := um_nonneg (tsum I n - tsum I (k + 1))
        clear e1
        go_wp2_with fail
        go_roundw
        case rel => exact ⟨k, by omega, rfl, by rw [um_step], trivial⟩
        case measure => simp [intOf]
end Go.Proofs.Ybulkdrta
