import Derived.Test.YbulkdrqiZg
namespace Go.Proofs.Ybulkdrqi
open Go.RowKit Go.Conc

set_option linter.unusedVariables false in
set_option maxRecDepth 1000000 in
set_option maxHeartbeats 8000000 in
theorem lawB (b1 b2 b3 b4 b5 : Bool) (si col yi : Int) (a0 : Option Addr) (n cap b off stn : Nat) (Ad : Nat → Option Addr) (ln Cp Vb Vo : Nat → Nat) (V : Nat → Nat → Int) (fl : Nat → Bool) (w : World) (hn : n ≤ 65536) (e0 : 0 < n → a0 = some ⟨b, off, none⟩)
    (hv : ∀ i, i < n → w.cell? ⟨b, off + i * 2, none⟩ = some (.slice (Ad i) (ln i) (Cp i)) ∧ w.cell? ⟨b, off + i * 2 + 1, none⟩ = some (.bool (fl i)) ∧ ln i ≤ 140737488355328 ∧ (0 < ln i → Ad i = some ⟨Vb i, Vo i, none⟩) ∧ ∀ j, j < ln i → w.cell? ⟨Vb i, Vo i + j, none⟩ = some (.int .i64 (V i j)))
    (hst : stn < 256) (hsi : wrap64 si = si) (hcol : wrap64 col = col) (hyi : wrap64 yi = yi) :
    Calls Yba.prog 3 #[.bool b1, .bool b2, .bool b3, .bool b4, .bool b5, .int .i64 si, .int .i64 col, .int .i64 yi, .slice a0 n cap, .int .u8 (stn : Int)] w fun e w' => e = .returned (.bool true) ∧ Below w.heap.size w w' := by
  have HV : Hid (∀ i, i < n → w.cell? ⟨b, off + i * 2, none⟩ = some (.slice (Ad i) (ln i) (Cp i)) ∧ w.cell? ⟨b, off + i * 2 + 1, none⟩ = some (.bool (fl i)) ∧ ln i ≤ 140737488355328 ∧ (0 < ln i → Ad i = some ⟨Vb i, Vo i, none⟩) ∧ ∀ j, j < ln i → w.cell? ⟨Vb i, Vo i + j, none⟩ = some (.int .i64 (V i j))) := hv
  have HE : Hid (0 < n → a0 = some ⟨b, off, none⟩) := e0
  clear hv e0
  have hd : decide ((65536 : Int) < (n : Int)) = false := decide_eq_false (by omega)
  refine calls_of_wpN Yba.func3 rfl ?_
  simp only [Yba.ntmps3, List.size_toArray, List.length_cons, List.length_nil, Nat.reduceAdd, Nat.reduceSub, Array.replicate_succ, Array.replicate_zero, List.push_toArray, List.append_toArray, List.nil_append, List.cons_append]
  refine wpN_seq_wp ?_
  go_wp2_with fail
  have hB1 : Below w.heap.size w (w.alloc (.cells #[.int .u8 (stn : Int)] 5)) := by go_grown
  have hS1 : (w.alloc (.cells #[.int .u8 (stn : Int)] 5)).heap.size = w.heap.size + 1 := by simp
  have cSA : (w.alloc (.cells #[.int .u8 (stn : Int)] 5)).cell? ⟨w.heap.size, 0, none⟩ = some (.int .u8 (stn : Int)) := rangeAt_new w [.int .u8 (stn : Int)] 5 0 _ rfl
  generalize w.alloc (.cells #[.int .u8 (stn : Int)] 5) = w1 at *
  have HB1 : Hid (Below w.heap.size w w1) := hB1
  have HS1 : Hid (w1.heap.size = w.heap.size + 1) := hS1
  have HSA : Hid (w1.cell? ⟨w.heap.size, 0, none⟩ = some (.int .u8 (stn : Int))) := cSA
  clear hB1 hS1 cSA
  refine wpN_seq_wp ?_
  go_wp2_with fail
  refine wpN_seq_wp ?_
  go_wp2_with fail
  refine wpN_seq_wp ?_
  go_wp2_with fail
  go_loopw [21, 55] (fun t i wr => ∃ k : Nat, k ≤ n ∧ i = .int .i64 k ∧ t = .int .i64 ((sm ln k : Nat) : Int) ∧ Hid (sm ln k ≤ 65536) ∧ wr = w1) (fun _ i _ => n - (intOf i).toNat)
  case atStart => exact ⟨0, Nat.zero_le _, rfl, rfl, Nat.zero_le _, rfl⟩
  case round =>
    obtain ⟨k, hk, rfl, rfl, hsm, hw⟩ := hrel
    obtain rfl := hw.symm
    by_cases hlt : k < n
    · obtain rfl := HE.out (by omega)
      obtain ⟨c0, _, hl, _, _⟩ := HV.out k hlt
      have c0' : w1.cell? ⟨b, off + k * 2, none⟩ = some (.slice (Ad k) (ln k) (Cp k)) := cell_later HB1.out c0
      clear c0
      have i0 : (0 : Int) ≤ (k : Int) := by omega
      have i1 : (k : Int) < (n : Int) := by omega
      have i2 : decide ((k : Int) < (n : Int)) = true := by simp [hlt]
      have hsm' := hsm.out
      obtain ⟨m, hm⟩ : ∃ m, m = sm ln k := ⟨_, rfl⟩
      rw [← hm] at hsm' ⊢
      have HM : Hid (m = sm ln k) := hm
      clear hm hsm
      by_cases hbig : 65536 < m + ln k
      · have i3 : decide ((65536 : Int) < (m : Int) + (ln k : Int)) = true := by simp; omega
        go_wp2_with fail
        go_ret
        exact ⟨rfl, HB1.out⟩
      · have i3 : decide ((65536 : Int) < (m : Int) + (ln k : Int)) = false := by simp; omega
        go_wp2_with fail
        go_roundw
        case rel => exact ⟨k + 1, by omega, by go_num, by rw [show sm ln (k + 1) = m + ln k from by rw [HM.out]; rfl]; simp, (by (show sm ln (k + 1) ≤ 65536); simp only [sm]; rw [← HM.out]; omega), by trivial⟩
        case measure => simp [intOf]; omega
    · have i2 : decide ((k : Int) < (n : Int)) = false := by simp; omega
      have ek : Hid (k = n) := (by omega : k = n)
      have hsm0 := hsm
      clear hsm
      go_wp2_with fail
      refine wpN_seq_puts [69, 70, 71, 72, 73, 74, 23] (fun vs w' => ∃ (P wake QB : Nat) (x69 x70 x71 x72 x73 x74 : Value), vs = [x69, x70, x71, x72, x73, x74, .pointer (some ⟨P, 0, none⟩)] ∧ I0 w1 w' w.heap.size P wake QB) ?_ ?_
      · have hmc := mkc1
        have hz := zero64
        have hzs := pz_size
        have hze : (pz = #[]) = False := by simp only [eq_iff_iff, iff_false]; intro h; rw [h] at hzs; simp at hzs
        have hpe := p2_eq
        have hps := p2_size
        go_region_held3 (fun _ => True) (trivial) (first | (go_at_call 5; refine (newRing 1 _ (by omega) (by omega)).mono ?_; rintro e w2 ⟨rfl, hR2, hB2, hS2⟩))
        · refine ⟨[.slice a0 n cap, .int .i64 (n : Int), .pointer (some ⟨w1.heap.size + 1, 0, none⟩), .chan (some (w1.heap.size + 2)), .agg (p2 (n : Int) (.pointer (some ⟨w1.heap.size + 1, 0, none⟩)) (.chan (some (w1.heap.size + 2)))), .pointer (some ⟨w1.heap.size + 2 + 1, 0, none⟩), .pointer (some ⟨w1.heap.size + 2 + 1, 0, none⟩)], ?_, w1.heap.size + 2 + 1, w1.heap.size + 2, w1.heap.size + 1, _, _, _, _, _, _, rfl, i0_a HS1.out _ hR2 hB2 hS2⟩
          clear hmc hz hzs hze hpe hps hR2 hB2 hS2 HV HE HB1 HS1 HSA
          kernel_rfl
        · refine ⟨[.slice a0 n cap, .int .i64 (n : Int), .pointer (some ⟨w1.heap.size + 1 + 1, 0, none⟩), .chan (some w1.heap.size), .agg (p2 (n : Int) (.pointer (some ⟨w1.heap.size + 1 + 1, 0, none⟩)) (.chan (some w1.heap.size))), .pointer (some ⟨w1.heap.size + 1 + 2, 0, none⟩), .pointer (some ⟨w1.heap.size + 1 + 2, 0, none⟩)], ?_, w1.heap.size + 1 + 2, w1.heap.size, w1.heap.size + 1 + 1, _, _, _, _, _, _, rfl, i0_b HS1.out _ hR2 hB2 hS2⟩
          clear hmc hz hzs hze hpe hps hR2 hB2 hS2 HV HE HB1 HS1 HSA
          kernel_rfl
      · rintro vs w2 ⟨P, wake, QB, x69, x70, x71, x72, x73, x74, rfl, hI⟩
        simp only [Act.puts]
        walk_nrm
        have hIp := hI.pp.c209
        simp only at hIp
        refine wpN_seq (wpN_region ?_)
        refine Rg.opd (i := 0) (rest := [1, 2, 3, 4, 5]) (v := .pointer (some ⟨P, 0, none⟩)) (w' := w2) (some 75) rfl rfl rfl ?_ ?_
        · simp [go_sem, execOp, Act.eval]
        refine Rg.opd (i := 1) (rest := [2, 3, 4, 5]) (v := .pointer (some ⟨P, 0, none⟩)) (w' := w2) (some 76) rfl rfl rfl ?_ ?_
        · simp [go_sem, execOp, Act.eval, Act.put]
        refine Rg.opd (i := 2) (rest := [3, 4, 5]) (v := .pointer (some ⟨P, 209, none⟩)) (w' := w2) (some 77) rfl rfl rfl ?_ ?_
        · simp [go_sem, execOp, Act.eval, Act.put]
        refine Rg.opd (i := 3) (rest := [4, 5]) (v := .chan (some wake)) (w' := w2) (some 78) rfl rfl rfl ?_ ?_
        · simp [go_sem, execOp, Act.eval, Act.put, hIp]
        refine Rg.opd (i := 4) (rest := [5]) (v := .agg #[]) (w' := w2) (some 79) rfl rfl rfl ?_ ?_
        · simp [go_sem, execOp, Act.eval, Act.put]
        refine Rg.sendd (i := 5) (rest := []) (c := wake) (v := .agg #[]) (z := .tuple #[]) rfl rfl rfl ?_ hI.wk (by simp) (Rg.nil ?_)
        · simp [go_sem, execOp, Act.eval, Act.put, scase]
        have hI1 := hI.sent
        clear hIp hI
        generalize w2.setChan wake 1 ((#[] : Array Value).push (.agg #[])) false (0 + 1) 0 false = w3 at *
        refine wpN_of_wp ?_
        go_frame
        have hsm : sm ln n ≤ 65536 := by have := hsm0.out; rw [ek.out] at this; exact this
        have hW : Wv w b off n Ad ln Cp Vb Vo V fl := ⟨fun i hi => ⟨(HV.out i hi).1, (HV.out i hi).2.1⟩, fun i hi => (HV.out i hi).2.2.2⟩
        exact st6 w w1 w3 w.heap.size b off n cap P stn QB wake a0 Ad ln Cp Vb Vo V fl b1 b2 b3 b4 b5 si col yi _ _ _ _ _ _ _ _ _ _ _ _ _ _ _ _ _ _ _ _ _ _ _ _ _ _ _ _ _ _ _ _ _ _ _ _ _ _ _ _ _ _ _ _ _ _ _ _ _ _ _ _ _ _ _ _ _ _ _ _ _ _ _ _ _ _ _ _ _ _ _ _ _ _ _ _ _ _ _ _ _ _ _ _ _ _ _ _ _ _ _ _ _ _ _ _ _ _ _ _ _ _ _ _ _ _ _ _ _ _ _ _ _ _ _ _ _ _ _ _ _ _ _ _ _ _ _ _ _ _ _ _ _ _ _ _ _ _ _ _ _ _ _ _ _ _ _ _ _ _ _ _ _ _ _ _ _ _ _ _ _ _ _ _ _ _ _ _ _ _ _ _ _ _ _ _ _ _ _ _ _ _ _ _ _ _ _ _ _ _ _ _ _ _ _ _ _ _ _ _ _ _ _ _ _ _ _ _ _ _ _ _ _ _ _ _ _ _ _ _ _ _ _ _ _ _ _ _ _ _ _ _ _ _ _ _ _ _ _ _ _ _ _ _ _ _ _ _ _ _ _ _ _ _ _ _ _ _ _ _ _ _ _ _ _ _ _ _ _ _ _ _ _ _ _ _ _ _ _ _ _ _ _ _ _ _ _ _ _ _ _ _ _ _ _ _ _ _ _ _ _ _ _ _ _ _ _ _ _ _ _ _ _ _ _ _ _ _ _ _ _ _ _ _ _ _ _ _ _ _ _ _ _ _ _ _ _ _ _ _ _ _ _ _ _ _ _ _ _ _ _ _ _ _ _ _ _ _ _ _ _ _ _ _ _ _ _ _ _ _ _ _ _ _ _ _ _ _ _ _ _ _ _ _ _ _ _ _ _ _ _ _ _ _ _ _ _ _ _ _ _ _ _ _ _ _ _ _ _ _ _ _ _ _ _ _ _ _ _ _ _ _ _ _ _ _ _ _ _ _ _ _ _ _ _ _ _ _ _ _ _ _ _ _ _ _ _ hn HE.out hst hsm hcol hyi rfl hW HB1.out HS1.out HSA.out hI1
end Go.Proofs.Ybulkdrqi
