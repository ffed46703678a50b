import Derived.Test.YbulkdrqiY6
namespace Go.Proofs.Ybulkdrqi
open Go.RowKit Go.Conc

theorem Yba.info83 : (Yba.prog.info? 83).map (fun i => (i.zero, i.size, i.bytes)) = some (some (.agg #[.int .i64 0, .int .i64 0]), 2, 16) := by kernel_rfl
theorem zero80 (w : World) : (zeroValue 80).run Yba.prog w = .ok (.agg qz) w := by kernel_rfl

theorem rr_made (w : World) (n : Nat) : Rr (w.heap.size + 1) w.heap.size n 0 0 (fun _ => 0) (fun _ => 0)
    ((w.alloc (.cells (madeCells #[.int .i64 0, .int .i64 0] (n * 2)) 83)).alloc (.cells (q2 w.heap.size n) 80)) := by
  have hs : (w.alloc (.cells (madeCells #[.int .i64 0, .int .i64 0] (n * 2)) 83)).heap.size = w.heap.size + 1 := World.size_alloc _ _
  have hc : ∀ o, ((w.alloc (.cells (madeCells #[.int .i64 0, .int .i64 0] (n * 2)) 83)).alloc (.cells (q2 w.heap.size n) 80)).cell? ⟨w.heap.size + 1, o, none⟩ = (q2 w.heap.size n)[o]? := fun o => World.cell?_alloc_at _ _ _ _ hs.symm
  refine ⟨by omega, by rw [hc]; exact q2_0 _ _, by rw [hc]; exact q2_1 _ _, by rw [hc]; exact q2_66 _ _, by rw [hc]; exact q2_131 _ _, ?_, ?_, fun i hi => ?_, ?_⟩
  · rw [← hs]; simp
  · rw [← hs]; simp
  · refine World.rangeAt_alloc (fun j v hv => ?_) _
    rw [World.cell?_alloc_at _ _ _ _ rfl]
    have hj : j < 2 := by simpa using (List.getElem?_eq_some_iff.1 hv).1
    rw [made_at _ _ _ (by omega), ← hv]
    have : (i * 2 + j) % 2 = j := by omega
    simp only [List.size_toArray, List.length_cons, List.length_nil, Nat.zero_add, Nat.reduceAdd, this]
    match j, hj with
    | 0, _ => rfl
    | 1, _ => rfl
  · exact World.there_alloc (there_made _ _ _ _) _

set_option maxRecDepth 100000 in
set_option maxHeartbeats 4000000 in
theorem zzring (a : Option Addr) (n cap b off : Nat) (V : Nat → Int) (w : World) (hn : n ≤ 65536) (ha : 0 < n → a = some ⟨b, off, none⟩) (hv : ∀ j, j < n → w.cell? ⟨b, off + j, none⟩ = some (.int .i64 (V j))) :
    Calls Yba.prog 7 #[.slice a n cap] w fun e w' => e = .returned (.pointer (some ⟨w.heap.size + 1, 0, none⟩)) ∧ (∃ sz ex, sz = 2 ^ ex ∧ n ≤ sz ∧ sz ≤ 131072 ∧ Rr (w.heap.size + 1) w.heap.size sz 0 n (fun j => if j < n then (j : Int) else 0) (fun j => if j < n then V j else 0) w') ∧
      Below w.heap.size w w' ∧ w'.heap.size = w.heap.size + 2 := by
  have HA : Hid (0 < n → a = some ⟨b, off, none⟩) := ha
  have HV : Hid (∀ j, j < n → w.cell? ⟨b, off + j, none⟩ = some (.int .i64 (V j))) := hv
  clear ha hv
  go_enter Yba.func7, Yba.ntmps7
  go_wp2_with fail
  go_loopw [3] (fun s wr => ∃ sz ex : Nat, Hid (sz = 2 ^ ex) ∧ 0 < sz ∧ sz ≤ 131072 ∧ s = .int .i64 (sz : Int) ∧ wr = w) (fun s _ => n - (intOf s).toNat)
  case atStart => exact ⟨1, 0, rfl, by omega, by omega, rfl, rfl⟩
  case round =>
    obtain ⟨sz, ex, hx, h0, h1, rfl, hw⟩ := hrel
    obtain rfl := hw.symm
    by_cases hlt : sz < n
    · have i1 : decide ((sz : Int) < (n : Int)) = true := by simp [hlt]
      go_wp2_with fail
      go_roundw
      case rel => exact ⟨sz * 2, ex + 1, by (show sz * 2 = 2 ^ (ex + 1)); rw [hx.out, Nat.pow_succ], by omega, by omega, by go_num, by trivial⟩
      case measure => simp [intOf]; omega
    · have i1 : decide ((sz : Int) < (n : Int)) = false := by simp; omega
      have hmk := fun w => run_make_any (P := Yba.prog) 78 83 _ 2 16 Yba.underlying78 Yba.info83 .i64 .i64 sz (by omega) (by omega) w
      have hw1 : IntKind.i64.wrap ((sz : Int) - 1) = (sz : Int) - 1 := by rw [IntKind.wrap_i64]; omega
      have hw2 : IntKind.u64.wrap ((sz : Int) - 1) = (sz : Int) - 1 := by rw [IntKind.wrap_u64]; omega
      have hz := zero80
      have hzs := qz_size
      have hze : (qz = #[]) = False := by simp only [eq_iff_iff, iff_false]; intro h; rw [h] at hzs; simp at hzs
      have hq := q2_eq w.heap.size sz
      have hqs := q2_size w.heap.size sz
      go_upto_region 5 with fail
      have hR0 := rr_made w sz
      have hB0 : Below w.heap.size w ((w.alloc (.cells (madeCells #[.int .i64 0, .int .i64 0] (sz * 2)) 83)).alloc (.cells (q2 w.heap.size sz) 80)) := by go_grown
      have hS0 : ((w.alloc (.cells (madeCells #[.int .i64 0, .int .i64 0] (sz * 2)) 83)).alloc (.cells (q2 w.heap.size sz) 80)).heap.size = w.heap.size + 2 := by simp
      clear hz hzs hze hq hqs hmk
      generalize (w.alloc (.cells (madeCells #[.int .i64 0, .int .i64 0] (sz * 2)) 83)).alloc (.cells (q2 w.heap.size sz) 80) = wx at *
      go_wp2_with fail
      go_loopw [22] (fun i wr => ∃ k : Nat, k ≤ n ∧ i = .int .i64 k ∧ Rr (w.heap.size + 1) w.heap.size sz 0 0 (fun j => if j < k then (j : Int) else 0) (fun j => if j < k then V j else 0) wr ∧ Below w.heap.size w wr ∧ wr.heap.size = w.heap.size + 2) (fun i _ => n - (intOf i).toNat)
      case atStart => exact ⟨0, Nat.zero_le _, rfl, hR0.congr (fun i _ => by simp) (fun i _ => by simp), hB0, hS0⟩
      case round =>
        clear hR0 hB0 hS0
        obtain ⟨k, hk, rfl, hR, hB, hS⟩ := hrel
        by_cases hkn : k < n
        · obtain rfl := HA.out (by omega)
          have c0 : wr.cell? ⟨b, off + k, none⟩ = some (.int .i64 (V k)) := cell_later hB (HV.out k hkn)
          have q0 := hR.q0
          have i0 : (0 : Int) ≤ (k : Int) := by omega
          have i2 : (k : Int) < (n : Int) := by omega
          have i3 : (k : Int) < (sz : Int) := by omega
          have i4 : decide ((k : Int) < (n : Int)) = true := by simp [hkn]
          have hth : wr.there w.heap.size (k * 2) 2 := fun j hj => by
            have := hR.th (k * 2 + j) (by omega)
            rwa [Nat.zero_add] at this
          go_wp2_with (first
            | ((with_reducible refine wpList_store_hid 83 (.tmp 35) (.tmp 34) w.heap.size (k * 2) #[.int .i64 (k : Int), .int .i64 (V k)] 2 ?_ ?_ ?_ Yba.size83 (job_size _ _) (job_one _ _) ?_); simp [Act.eval]; simp [Act.eval]; exact hth; intro w5 hw5 hs5; have hR5 := hw5.out ▸ hR.setJob k (k : Int) (V k) (by omega); have hB5 : Below w.heap.size w w5 := hw5.out ▸ below_setCells hB (Nat.le_refl _) _; have hS5 : w5.heap.size = w.heap.size + 2 := hs5.trans hS; clear hw5))
          go_roundw
          case rel =>
            refine ⟨k + 1, by omega, by go_num, hR5.congr (fun i _ => ?_) (fun i _ => ?_), hB5, hS5⟩
            · simp only [upd]
              by_cases e : i = k
              · subst e; simp
              · simp only [if_neg e]; by_cases e2 : i < k
                · rw [if_pos e2, if_pos (by omega)]
                · rw [if_neg e2, if_neg (by omega)]
            · simp only [upd]
              by_cases e : i = k
              · subst e; simp
              · simp only [if_neg e]; by_cases e2 : i < k
                · rw [if_pos e2, if_pos (by omega)]
                · rw [if_neg e2, if_neg (by omega)]
          case measure => simp [intOf]; omega
        · have ek : Hid (n = k) := (by omega : n = k)
          have i4 : decide ((k : Int) < (n : Int)) = false := by simp; omega
          have hw3 : IntKind.u64.wrap (n : Int) = (n : Int) := by rw [IntKind.wrap_u64]; omega
          have qt := hR.qt
          have ft := hR.ft
          have hst := store64 (w.heap.size + 1) 131 (n : Int) _ wr qt ft
          clear qt ft
          go_wp2_with (first
            | (go_at_call 13; refine hst.mono ?_; rintro e w6 ⟨rfl, hw6⟩; have HW6 : Hid (w6 = wr.setCell ⟨w.heap.size + 1, 131, none⟩ (.int .u64 (n : Int))) := hw6; clear hw6))
          go_ret
          have hR6 := hR.setT n
          rw [← ek.out] at hR6
          refine ⟨rfl, ⟨sz, ex, hx.out, by omega, h1, ?_⟩, ?_, ?_⟩
          · rw [HW6.out]; exact hR6
          · rw [HW6.out]; exact hB.setCell (by simp) _
          · rw [HW6.out, ← hS]; simp [World.setCell]
end Go.Proofs.Ybulkdrqi
