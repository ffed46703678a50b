import Derived.Test.YbulkdrqiZ2
namespace Go.Proofs.Ybulkdrqi
open Go.RowKit Go.Conc
variable {w0 w w' : World} {P B n K Fa SA : Nat} {v u : PV} {ft : Value} {sz ln hd : Nat → Nat} {V : Nat → Nat → Int} {fl : Nat → Bool} {st : Int} {l : List Int} {i q : Nat}

set_option maxRecDepth 100000 in
set_option maxHeartbeats 8000000 in
theorem collect_any (stn : Nat) (fo : Option Addr) (y : Ly P B K Fa SA) (hP : Pp w P v) (hfo : v.fault = .pointer fo) (hcr : v.crew = .slice (some ⟨K, 0, none⟩) n n) (hn : n ≤ 65536) (hst : stn < 256) (hcol : wrap64 v.col = v.col) (hyi : wrap64 v.yi = v.yi)
    (hdn : Dn w B P v.done) (hC : Cr w B n K Fa sz ln (fun _ => 0) V fl) (s0 : Value) (hL : Lg w (B + 4 * n + 2) (B + 4 * n) (B + 4 * n + 1) SA s0 [] (stn : Int)) (hs : B + 4 * n + 2 ≤ w.heap.size) (htot : sm ln n ≤ 65536) :
    Calls Yba.prog 20 #[.pointer (some ⟨P, 0, none⟩), fv (B + 4 * n) (B + 4 * n + 1) SA] w fun e w' => ∃ i q kd, fin stn ln fl n 0 0 = (i, q, kd) ∧ e = .returned (.bool (kd == 0)) ∧
      Co w w' P B n K Fa SA v (ftv kd v.fault (B + 4 * i)) sz ln V fl (stn : Int) i q := by
  have hbs := bstore P 74 false _ w hP.c74 (hP.free 74 (by omega))
  have hy1 := y.p; have hy2 := y.k; have hy3 := y.f; have hy4 := y.s
  have HCO : Hid (Co w (w.setCell ⟨P, 74, none⟩ (.int .u32 (u1 false))).drew P B n K Fa SA v v.fault sz ln V fl (stn : Int) 0 0) := Co.start y hP hcol hyi hdn hC hL hs
  have HFO : Hid (v.fault = .pointer fo) := hfo
  have HCR : Hid (v.crew = .slice (some ⟨K, 0, none⟩) n n) := hcr
  clear hP hdn hC hL hfo hcr
  obtain ⟨f, hf⟩ : ∃ f, f = fv (B + 4 * n) (B + 4 * n + 1) SA := ⟨_, rfl⟩
  have HF : Hid (f = fv (B + 4 * n) (B + 4 * n + 1) SA) := hf
  rw [← hf]
  clear hf
  go_enter Yba.func20, Yba.ntmps20
  go_upto_region 2 with (first
    | (go_at_call 6; refine hbs.mono ?_; rintro e w1 ⟨rfl, rfl⟩))
  have hco := HCO.out
  clear hbs HCO
  generalize (w.setCell ⟨P, 74, none⟩ (.int .u32 (u1 false))).drew = w1 at *
  have c276 : w1.cell? ⟨P, 276, none⟩ = some (.slice (some ⟨K, 0, none⟩) n n) := by rw [← HCR.out]; exact hco.pp.c276
  go_wp2_with fail
  clear c276
  go_loopw [18] (fun ix wr => ∃ i : Nat, i ≤ n ∧ ix = .int .i64 i ∧ Co w wr P B n K Fa SA v v.fault sz ln V fl (stn : Int) i 0 ∧ Hid (fin stn ln fl n 0 0 = fin stn ln fl (n - i) i (sm ln i)) ∧ Hid (stn = 0 ∨ sm ln i < stn)) (fun ix _ => n - (intOf ix).toNat)
  case atStart => exact ⟨0, Nat.zero_le _, rfl, hco, rfl, (by (show stn = 0 ∨ sm ln 0 < stn); simp only [sm]; omega)⟩
  case round =>
    clear hco
    obtain ⟨i, hi, rfl, hco, hfin, hns⟩ := hrel
    by_cases hlt : i < n
    · have i0 : (0 : Int) ≤ (i : Int) := by omega
      have i1 : (i : Int) < (n : Int) := by omega
      have i2 : decide ((i : Int) < (n : Int)) = true := by simp [hlt]
      have ck := hco.cr.k i hlt
      have HC : Hid (Co w wr P B n K Fa SA v v.fault sz ln V fl (stn : Int) i 0) := hco
      clear hco
      go_wp2_with fail
      clear ck
      go_loopw [] (fun wr => ∃ q, q ≤ ln i ∧ Co w wr P B n K Fa SA v v.fault sz ln V fl (stn : Int) i q ∧ Hid (stn = 0 ∨ sm ln i + q < stn)) (fun wr => ln i - hdOf wr (B + 4 * i + 2))
      case atStart => exact ⟨0, Nat.zero_le _, HC.out, hns⟩
      case round =>
        clear HC
        obtain ⟨q, hq, hco, hns2⟩ := hrel
        have hrr := hco.cr.rr i hlt
        rw [hdF_at] at hrr
        have hle := hco.cr.le i hlt
        obtain ⟨ex, hex⟩ := hco.cr.pw i hlt
        have w1c := hco.cr.w1 i hlt
        have hhd : Hid (hdOf wr (B + 4 * i + 2) = q) := hco.head hlt
        by_cases hql : q < ln i
        · have hpop := rpop_some hrr (by omega) (by omega) (by simp; omega) (and_low ex hex hle.2.2.1 q (by omega))
          have e1 : cI q (ln i) q = (q : Int) := by simp [cI, hql]
          have e2 : cX (V i) q (ln i) q = V i q := by simp [cX, hql]
          rw [e1, e2] at hpop
          have HCO : Hid (Co w wr P B n K Fa SA v v.fault sz ln V fl (stn : Int) i q) := hco
          clear hco hrr e1 e2 hex hle
          go_upto_region 6 with (first
            | (go_at_call 31; refine hpop.mono ?_; rintro e w2 ⟨rfl, hR2, hT2⟩
               have HG2 : Hid (Cg w w2 P B n K Fa SA (uv v v.fault (sm ln i + q)) sz ln (hdF ln i (q + 1)) V fl (stn : Int) (lg ln V i q)) := Cg.popped HCO.out y hlt hql hR2 hT2
               clear hR2 hT2))
          have hJ : (w2.alloc (.cells #[.int .i64 (q : Int), .int .i64 (V i q)] 83)).rangeAt w2.heap.size 0 [.int .i64 (q : Int), .int .i64 (V i q)] := rangeAt_new w2 _ 83
          have G3 : Cg w (w2.alloc (.cells #[.int .i64 (q : Int), .int .i64 (V i q)] 83)) P B n K Fa SA (uv v v.fault (sm ln i + q)) sz ln (hdF ln i (q + 1)) V fl (stn : Int) (lg ln V i q) := HG2.out.later y (by go_grown)
          have hJP : w2.heap.size ≠ P := by have := HG2.out.size; omega
          clear HG2 HCO hpop w1c
          generalize w2.alloc (.cells #[.int .i64 (q : Int), .int .i64 (V i q)] 83) = w3 at *
          generalize w2.heap.size = J at *
          have c278 := G3.pp.c278
          have f278 := G3.pp.free 278 (by omega)
          obtain ⟨cv, hcv⟩ : ∃ cv, cv = (uv v v.fault (sm ln i + q)).col := ⟨_, rfl⟩
          rw [← hcv] at c278
          have HJ : Hid (w3.rangeAt J 0 [.int .i64 (q : Int), .int .i64 (V i q)]) := hJ
          have HG3 : Hid (Cg w w3 P B n K Fa SA (uv v v.fault (sm ln i + q)) sz ln (hdF ln i (q + 1)) V fl (stn : Int) (lg ln V i q)) := G3
          have HCV : Hid (cv = (uv v v.fault (sm ln i + q)).col) := hcv
          clear hJ G3 hcv
          go_upto_region 8 with fail
          have G4 : Cg w (w3.setCell ⟨P, 278, none⟩ (.int .i64 (wrap64 (cv + 1)))) P B n K Fa SA { uv v v.fault (sm ln i + q) with col := wrap64 (cv + 1) } sz ln (hdF ln i (q + 1)) V fl (stn : Int) (lg ln V i q) := HG3.out.setP y (HG3.out.pp.setCol _) rfl
          have J4 : (w3.setCell ⟨P, 278, none⟩ (.int .i64 (wrap64 (cv + 1)))).rangeAt J 0 [.int .i64 (q : Int), .int .i64 (V i q)] := rangeAt_block HJ.out (Below.heap_setCell _ _ _ _ hJP)
          clear c278 f278 HJ HG3
          generalize w3.setCell ⟨P, 278, none⟩ (.int .i64 (wrap64 (cv + 1))) = w4 at *
          have j0 : w4.cell? ⟨J, 0, none⟩ = some (.int .i64 (q : Int)) := J4 0 _ rfl
          have j1 : w4.cell? ⟨J, 1, none⟩ = some (.int .i64 (V i q)) := J4 1 _ rfl
          obtain ⟨s4, L4⟩ := G4.lgs
          have hll : (lg ln V i q).length = sm ln i + q := lg_len hq
          have hsm : sm ln i + ln i ≤ sm ln n := sm_mono ln (i := i + 1) (j := n) (by omega)
          have htk := take_any B (q : Int) (V i q) G4.pp G4.dn (by omega) L4 G4.size (by omega) (by omega) (by omega) (by omega) (by omega) (by omega) (by omega) (by omega) (by omega) y.ps (by rw [hll]; omega) (by omega)
          rw [← HF.out, hll] at htk
          have hg5 : ∀ w5, Pp w5 P { { uv v v.fault (sm ln i + q) with col := wrap64 (cv + 1) } with yi := wrap64 ({ uv v v.fault (sm ln i + q) with col := wrap64 (cv + 1) : PV }.yi + 1) } → (∃ s', Lg w5 (B + 4 * n + 2) (B + 4 * n) (B + 4 * n + 1) SA s' (lg ln V i q ++ [V i q]) (stn : Int)) → Ch (fun k => k = P ∨ k = B + 4 * n ∨ k = B + 4 * n + 1) (B + 4 * n + 2) w4 w5 → Co w w5 P B n K Fa SA v v.fault sz ln V fl (stn : Int) i (q + 1) := fun w5 a1 a2 a3 => by
            have g := G4.taken y a1 rfl a2 a3
            unfold Co
            rw [lg_succ hql]
            have eu : ({ { uv v v.fault (sm ln i + q) with col := wrap64 (cv + 1) } with yi := wrap64 ({ uv v v.fault (sm ln i + q) with col := wrap64 (cv + 1) : PV }.yi + 1) } : PV) = uv v v.fault (sm ln i + (q + 1)) := by
              rw [HCV.out]
              simp only [uv, wrap64_add, Nat.add_assoc]
            rw [eu] at g
            exact g
          have HG5 : Hid (∀ w5, Pp w5 P { { uv v v.fault (sm ln i + q) with col := wrap64 (cv + 1) } with yi := wrap64 ({ uv v v.fault (sm ln i + q) with col := wrap64 (cv + 1) : PV }.yi + 1) } → (∃ s', Lg w5 (B + 4 * n + 2) (B + 4 * n) (B + 4 * n + 1) SA s' (lg ln V i q ++ [V i q]) (stn : Int)) → Ch (fun k => k = P ∨ k = B + 4 * n ∨ k = B + 4 * n + 1) (B + 4 * n + 2) w4 w5 → Co w w5 P B n K Fa SA v v.fault sz ln V fl (stn : Int) i (q + 1)) := hg5
          clear hg5 G4 L4 J4 hJP
          by_cases hstop : stn = sm ln i + q + 1
          · have hb : ((((sm ln i + q + 1 : Nat) : Int)) != (stn : Int)) = false := by simp [hstop]
            rw [hb] at htk
            have HST : Hid (stn = sm ln i + q + 1) := hstop
            clear hstop hb hll
            go_wp2_with (first
              | (go_at_call 32; refine htk.mono ?_; rintro e w5 ⟨rfl, a1, a2, a3⟩
                 have HCO5 : Hid (Co w w5 P B n K Fa SA v v.fault sz ln V fl (stn : Int) i (q + 1)) := HG5.out w5 a1 a2 a3
                 clear a1 a2 a3))
            go_ret
            refine ⟨i, q + 1, 1, ?_, rfl, HCO5.out⟩
            rw [hfin.out]
            obtain ⟨m, hm⟩ : ∃ m, n - i = m + 1 := ⟨n - i - 1, by omega⟩
            rw [hm]
            exact fin_stop hql HST.out
          · have hb : ((((sm ln i + q + 1 : Nat) : Int)) != (stn : Int)) = true := by simp; omega
            rw [hb] at htk
            have HST : Hid (¬ stn = sm ln i + q + 1) := hstop
            clear hstop hb hll
            go_wp2_with (first
              | (go_at_call 32; refine htk.mono ?_; rintro e w5 ⟨rfl, a1, a2, a3⟩
                 have HCO5 : Hid (Co w w5 P B n K Fa SA v v.fault sz ln V fl (stn : Int) i (q + 1)) := HG5.out w5 a1 a2 a3
                 clear a1 a2 a3))
            go_roundw
            case rel => exact ⟨q + 1, by omega, HCO5.out, (by (show stn = 0 ∨ sm ln i + (q + 1) < stn); have := hns2.out; have := HST.out; omega)⟩
            case measure =>
              have e1 := HCO5.out.head hlt
              have e2 := hhd.out
              rw [e1, e2]; omega
        · have eq1 : q = ln i := by omega
          have hpop := rpop_none hrr (by omega) eq1
          have HCO : Hid (Co w wr P B n K Fa SA v v.fault sz ln V fl (stn : Int) i q) := hco
          have HEQ : Hid (q = ln i) := eq1
          clear hco hrr hex hle eq1
          go_upto_region 6 with (first
            | (go_at_call 31; refine hpop.mono ?_; rintro e w2 ⟨rfl, hB2⟩
               have HG2 : Hid (Cg w w2 P B n K Fa SA (uv v v.fault (sm ln i + q)) sz ln (hdF ln i q) V fl (stn : Int) (lg ln V i q)) := Cg.later HCO.out y hB2
               clear hB2))
          have G3 : Co w (w2.alloc (.cells #[.int .i64 0, .int .i64 0] 83)) P B n K Fa SA v v.fault sz ln V fl (stn : Int) i q := Cg.later HG2.out y (by go_grown)
          clear HG2 HCO hpop w1c
          generalize w2.alloc (.cells #[.int .i64 0, .int .i64 0] 83) = w3 at *
          rw [HEQ.out] at G3
          have c6 := G3.cr.w6 i hlt
          have c7 := G3.cr.w7 i hlt
          have hbl := bload (B + 4 * i + 3) 6 (fl i) w3 c6
          clear c6
          have HG3 : Hid (Co w w3 P B n K Fa SA v v.fault sz ln V fl (stn : Int) i (ln i)) := G3
          have hns3 : Hid (stn = 0 ∨ sm ln i + ln i < stn) := (by (show stn = 0 ∨ sm ln i + ln i < stn); have := hns2.out; have := HEQ.out; omega)
          cases hfl : fl i with
          | false =>
            rw [hfl] at hbl
            have HFL : Hid (fl i = false) := hfl
            clear hfl G3 hns2
            go_wp2_with (first
              | (go_at_call 11; refine hbl.mono ?_; rintro e w4 ⟨rfl, hw⟩; obtain rfl := hw.symm))
            go_roundw
            case rel =>
              refine ⟨i + 1, by omega, by go_num, HG3.out.next, ?_, ?_⟩
              · show fin stn ln fl n 0 0 = fin stn ln fl (n - (i + 1)) (i + 1) (sm ln (i + 1))
                rw [hfin.out]
                obtain ⟨m, hm⟩ : ∃ m, n - i = m + 1 := ⟨n - i - 1, by omega⟩
                have hm2 : n - (i + 1) = m := by omega
                rw [hm, hm2, fin_next hns3.out HFL.out]
                rfl
              · exact hns3.out
            case measure => simp [intOf]; omega
          | true =>
            rw [hfl] at hbl
            have HFL : Hid (fl i = true) := hfl
            have hfn : fin stn ln fl n 0 0 = (i, ln i, 2) := by
              rw [hfin.out]
              obtain ⟨m, hm⟩ : ∃ m, n - i = m + 1 := ⟨n - i - 1, by omega⟩
              rw [hm]
              exact fin_fault hns3.out HFL.out
            have HFN : Hid (fin stn ln fl n 0 0 = (i, ln i, 2)) := hfn
            clear hfl hns2 hfn
            cases fo with
            | none =>
              have hkp := keep_nil (B + 4 * i) G3.pp HFO.out
              clear G3
              go_wp2_with (first
                | (go_at_call 11; refine hbl.mono ?_; rintro e w4 ⟨rfl, hw⟩; obtain rfl := hw.symm)
                | (go_at_call 33; refine hkp.mono ?_; rintro e w4 ⟨rfl, rfl⟩))
              go_ret
              refine ⟨i, ln i, 2, HFN.out, rfl, ?_⟩
              have e1 : ftv 2 v.fault (B + 4 * i) = .pointer (some ⟨B + 4 * i, 0, none⟩) := by simp [ftv, nf, HFO.out]
              rw [e1]
              exact Cg.setP HG3.out y (HG3.out.pp.setFault _) rfl
            | some ad =>
              have hkp := keep_some (B + 4 * i) ad G3.pp HFO.out
              clear G3
              go_wp2_with (first
                | (go_at_call 11; refine hbl.mono ?_; rintro e w4 ⟨rfl, hw⟩; obtain rfl := hw.symm)
                | (go_at_call 33; refine hkp.mono ?_; rintro e w4 ⟨rfl, hw⟩; obtain rfl := hw.symm))
              go_ret
              refine ⟨i, ln i, 2, HFN.out, rfl, ?_⟩
              have e1 : ftv 2 v.fault (B + 4 * i) = v.fault := by simp [ftv, nf, HFO.out]
              rw [e1]
              exact HG3.out
    · have ei : Hid (i = n) := (by omega : i = n)
      have i2 : decide ((i : Int) < (n : Int)) = false := by simp; omega
      have HC : Hid (Co w wr P B n K Fa SA v v.fault sz ln V fl (stn : Int) i 0) := hco
      clear hco
      go_wp2_with fail
      go_ret
      refine ⟨i, 0, 0, ?_, rfl, HC.out⟩
      rw [hfin.out]
      have : n - i = 0 := by have := ei.out; omega
      rw [this]
      rfl
end Go.Proofs.Ybulkdrqi
