import Derived.Test.YbulkdrpgP2
namespace Go.Proofs.Ybulkdrpg
open Go.RowKit Go.Maps Go.WideMaps Go.WideElems
variable {w w' : World} {C L : Nat} {mb : Option Nat} {DM : DataW Nat} {rs : List Rc} {v : Value} {ns : List Value}

theorem as72 (x : Value) (w : World) : (Instr.typeAssert (.iface 72 x) 20 72 true).run Yba.prog w = .ok (.tuple #[x, .bool true]) w := by kernel_rfl
theorem Yba.info78 : ∃ j, Yba.prog.info? 78 = some j ∧ j.size ≠ 0 := by
  have h : (Yba.prog.info? 78).map (·.size) = some 7 := by kernel_rfl
  obtain ⟨j, hj, e⟩ := Option.map_eq_some_iff.1 h
  exact ⟨j, hj, by omega⟩

/-- What the rest of an iteration reads. -/
theorem vw2 (hC : Cs w C mb DM rs) (hM : Mo w L v ns (rs.map say)) {i g cap uc : Nat} {ua : Option Addr} (hi : i < rs.length) (hv : v = .slice (some ⟨g, 0, none⟩) rs.length cap) (hns : ns[i]? = some (.slice ua rs[i].names.length uc)) :
    w.cell? ⟨g, i * 3 + 2, none⟩ = some (.slice ua rs[i].names.length uc) ∧ w.cell? ⟨rs[i].R, 4, none⟩ = some (.map (some rs[i].L)) ∧ (∀ ty, (Builtin.len_ #[76] ty #[.map (some rs[i].L)]).run Yba.prog w = .ok (.int .i64 (rs[i].names.length : Int)) w) ∧
      (∀ j, j < rs[i].names.length → ∃ q, ua = some ⟨q, 0, none⟩ ∧ w.cell? ⟨q, j, none⟩ = some (.string (rs[i].names.getD j ByteArray.empty)) ∧ (Instr.lookup 76 (.map (some rs[i].L)) (.string (rs[i].names.getD j ByteArray.empty)) true).run Yba.prog w = .ok (.tuple #[.agg #[], .bool true]) w) := by
  obtain ⟨b, g', cap', ua', uc', hv', hns', V⟩ := vw_of hC hM hi
  have e1 := hv.symm.trans hv'
  injection e1 with e1 _ _
  injection e1 with e1
  injection e1 with e1
  subst e1
  have e2 := hns.symm.trans hns'
  injection e2 with e2
  injection e2 with e2 _ e4
  subst e2 e4
  have hrf := hC.rf i hi
  refine ⟨V.m2, V.r4, fun ty => ?_, fun j hj => ?_⟩
  · have := hrf.lk.len Yba.underlying76 ty
    rw [hrf.lz] at this
    exact this
  · have hiA : i < (rs.map say).length := by simpa using hi
    have hns2 : i < ns.length := by rw [hM.len]; exact hiA
    have hnam := hM.nam i hiA
    have hAi : (rs.map say)[i] = say rs[i] := by simp
    rw [List.getElem?_eq_getElem hns2] at hns
    injection hns with hns
    rw [hAi, hns] at hnam
    obtain ⟨_, ⟨e, h0⟩ | ⟨q, cp, e, _, _, _, h4, _⟩⟩ := hnam
    · have : rs[i].names.length = 0 := h0
      omega
    · injection e with e _ _
      have eg : rs[i].names.getD j ByteArray.empty = rs[i].names[j] := by simp [List.getD, hj]
      rw [eg]
      refine ⟨q, e, ?_, ?_⟩
      · have := h4 j (.string rs[i].names[j]) (by simp [strs, say, hj])
        rwa [Nat.zero_add] at this
      · have h1 := look_name hrf.lk (hrf.ns _ (List.getElem_mem hj))
        rw [(hrf.lh _).2 (List.getElem_mem hj)] at h1
        exact h1

set_option maxRecDepth 100000 in
set_option maxHeartbeats 8000000 in
theorem same_true (hC : Cs w C mb DM rs) (hM : Mo w L v ns (rs.map say)) (hlen : rs.length ≤ 1000000) (hnm : ∀ r ∈ rs, r.names.length ≤ 1000000) :
    Calls Yba.prog 9 #[.pointer (some ⟨C, 0, none⟩), v] w fun e w' => e = .returned (.bool true) ∧ Only (fun _ => False) w w' := by
  obtain ⟨a, g0, cap, hv, _⟩ := hM.cells
  have hv : v = .slice a rs.length cap := by rw [hv]; simp
  have hlm := lenB_cs hC
  have cc := hC.cellC
  have hl18 := len_cs hC
  have hl19 := front_cs hC
  have HC : Hid (Cs w C mb DM rs) := hC
  have HNM : Hid (∀ r ∈ rs, r.names.length ≤ 1000000) := hnm
  clear hnm
  have HM : Hid (Mo w L v ns (rs.map say)) := hM
  have HV : Hid (v = .slice a rs.length cap) := hv
  obtain ⟨j28, hj28, _⟩ := Yba.info28
  obtain ⟨j78, hj78, _⟩ := Yba.info78
  clear hC hM
  rw [hv]
  clear hv
  go_enter Yba.func9, Yba.ntmps9
  go_wp2_with (first
    | (go_at_call 18; refine hl18.mono ?_; rintro e w1 ⟨rfl, hw⟩; obtain rfl := hw.symm)
    | (go_at_call 19; refine hl19.mono ?_; rintro e w1 ⟨rfl, hw⟩; obtain rfl := hw.symm))
  clear hlm cc hl18 hl19
  go_loopw [5, 6] (fun e i wr => ∃ k : Nat, k ≤ rs.length ∧ e = ep rs k ∧ i = .int .i64 k ∧ Only (fun _ => False) w wr) (fun _ i _ => rs.length - (intOf i).toNat)
  case atStart => exact ⟨0, Nat.zero_le _, rfl, rfl, Only.refl _ _⟩
  case round =>
    obtain ⟨k, hk, rfl, rfl, ho⟩ := hrel
    by_cases hlt : k < rs.length
    · obtain ⟨b, g, cap', ua, uc, hv', hns, V⟩ := vw_of (HC.out.later ho) (HM.out.later ho) hlt
      obtain ⟨b', hb'⟩ := HC.out.some_b hlt
      have hOB := ((HC.out.later ho).by1 b' hb').own
      have hat := (((HC.out.later ho).by1 b' hb').at_ rs[k] (List.getElem_mem hlt)).1
      have hwf := ((HC.out.later ho).rf k hlt).wf
      have ebb : b' = b := by
        have := (HC.out.later ho).cellC
        rw [V.c0, hb'] at this
        simpa using this.symm
      subst ebb
      clear hb'
      have e1 := HV.out.symm.trans hv'
      injection e1 with e1 e2 e3
      subst e1 e3
      rw [ep_at hlt]
      have HO : Hid (Only (fun _ => False) w wr) := ho
      have HVV : Hid (v = .slice (some ⟨g, 0, none⟩) rs.length cap) := hv'
      clear ho hv' HV
      have hn21 : ∀ wx, Only (fun _ => False) w wx → Calls Yba.prog 21 #[pt rs[k].E] wx fun e w' => e = .returned (ep rs (k + 1)) ∧ w' = wx := fun wx ho => next_cs (HC.out.later ho) hlt
      have HN21 : Hid (∀ wx, Only (fun _ => False) w wx → Calls Yba.prog 21 #[pt rs[k].E] wx fun e w' => e = .returned (ep rs (k + 1)) ∧ w' = wx) := hn21
      clear hn21
      generalize rs[k].E = E at V HN21 ⊢
      generalize hRe : rs[k].R = R at V hat
      have HRe : Hid (rs[k].R = R) := hRe
      clear hRe
      generalize rs[k].id = id at V hat hwf
      generalize rs[k].since = since at V
      have i0 : (0 : Int) ≤ (k : Int) := by omega
      have i1 : (k : Int) < (rs.length : Int) := by omega
      have i2 : decide ((k : Int) < (rs.length : Int)) = true := by simp [hlt]
      have e3 := V.e3
      have hta := as72
      go_upto_region 12 with fail
      go_cut [105] (fun s wx => s = .bool false ∧ Only (fun _ => False) w wx)
      case first =>
        have hka : ∀ q, q < wr.heap.size → (wr.alloc (.cells #[.int .u64 0, .int .i64 0, np] 75)).drew.heap[q]? = wr.heap[q]? := (show Below wr.heap.size wr (wr.alloc (.cells #[.int .u64 0, .int .i64 0, np] 75)).drew by go_grown).block
        have V2 : Vw (wr.alloc (.cells #[.int .u64 0, .int .i64 0, np] 75)).drew C b' g k E R rs[k].L id since ua rs[k].names.length uc := V.later hka (look_known (w := (wr.alloc (.cells #[.int .u64 0, .int .i64 0, np] 75)).drew) (own_same hOB (hka b' (own_lt hOB))) hwf hat)
        have HV2 : Hid (Vw (wr.alloc (.cells #[.int .u64 0, .int .i64 0, np] 75)).drew C b' g k E R rs[k].L id since ua rs[k].names.length uc) := V2
        clear V2 hka
        obtain ⟨c0, _, r0, r1, r2, r3, r4, r5, r6, m0, m1, m2, lk⟩ := V
        have hp25 := fun w => run_neq_ptr_same (P := Yba.prog) w (tp := 25) (te := 28) (some ⟨E, 0, none⟩) Yba.underlying25 hj28
        have hp72 := fun w => run_neq_ptr_same (P := Yba.prog) w (tp := 72) (te := 78) (some ⟨R, 0, none⟩) Yba.underlying72 hj78
        have lkd := look_known (w := wr.drew) hOB hwf hat
        have F1 : Hid (wr.drew.cell? ⟨C, 0, none⟩ = some (.map (some b')) ∧ wr.drew.cell? ⟨R, 0, none⟩ = some (.int .u64 id) ∧ wr.drew.cell? ⟨R, 1, none⟩ = some (.int .u64 0) ∧ wr.drew.cell? ⟨R, 2, none⟩ = some (.int .i64 0) ∧ wr.drew.cell? ⟨R, 3, none⟩ = some np ∧ wr.drew.cell? ⟨R, 5, none⟩ = some (.int .u64 since) ∧ wr.drew.cell? ⟨R, 6, none⟩ = some (pt E) ∧ wr.drew.cell? ⟨g, k * 3, none⟩ = some (.int .u64 id) ∧ wr.drew.cell? ⟨g, k * 3 + 1, none⟩ = some (.int .u64 since) ∧ (Instr.lookup 24 (.map (some b')) (.int .u64 id) false).run Yba.prog wr.drew = .ok (pt R) wr.drew) := ⟨c0, r0, r1, r2, r3, r5, r6, m0, m1, lkd⟩
        have F2 : Hid ((wr.alloc (.cells #[.int .u64 0, .int .i64 0, np] 75)).drew.cell? ⟨C, 0, none⟩ = some (.map (some b')) ∧ (wr.alloc (.cells #[.int .u64 0, .int .i64 0, np] 75)).drew.cell? ⟨R, 0, none⟩ = some (.int .u64 id) ∧ (wr.alloc (.cells #[.int .u64 0, .int .i64 0, np] 75)).drew.cell? ⟨R, 1, none⟩ = some (.int .u64 0) ∧ (wr.alloc (.cells #[.int .u64 0, .int .i64 0, np] 75)).drew.cell? ⟨R, 2, none⟩ = some (.int .i64 0) ∧ (wr.alloc (.cells #[.int .u64 0, .int .i64 0, np] 75)).drew.cell? ⟨R, 3, none⟩ = some np ∧ (wr.alloc (.cells #[.int .u64 0, .int .i64 0, np] 75)).drew.cell? ⟨R, 5, none⟩ = some (.int .u64 since) ∧ (wr.alloc (.cells #[.int .u64 0, .int .i64 0, np] 75)).drew.cell? ⟨R, 6, none⟩ = some (pt E) ∧ (wr.alloc (.cells #[.int .u64 0, .int .i64 0, np] 75)).drew.cell? ⟨g, k * 3, none⟩ = some (.int .u64 id) ∧ (wr.alloc (.cells #[.int .u64 0, .int .i64 0, np] 75)).drew.cell? ⟨g, k * 3 + 1, none⟩ = some (.int .u64 since) ∧ (Instr.lookup 24 (.map (some b')) (.int .u64 id) false).run Yba.prog (wr.alloc (.cells #[.int .u64 0, .int .i64 0, np] 75)).drew = .ok (pt R) (wr.alloc (.cells #[.int .u64 0, .int .i64 0, np] 75)).drew) := ⟨HV2.out.c0, HV2.out.r0, HV2.out.r1, HV2.out.r2, HV2.out.r3, HV2.out.r5, HV2.out.r6, HV2.out.m0, HV2.out.m1, HV2.out.lk⟩
        go_region_held3 (fun w' => w'.cell? ⟨C, 0, none⟩ = some (.map (some b')) ∧ w'.cell? ⟨R, 0, none⟩ = some (.int .u64 id) ∧ w'.cell? ⟨R, 1, none⟩ = some (.int .u64 0) ∧ w'.cell? ⟨R, 2, none⟩ = some (.int .i64 0) ∧ w'.cell? ⟨R, 3, none⟩ = some np ∧ w'.cell? ⟨R, 5, none⟩ = some (.int .u64 since) ∧ w'.cell? ⟨R, 6, none⟩ = some (pt E) ∧ w'.cell? ⟨g, k * 3, none⟩ = some (.int .u64 id) ∧ w'.cell? ⟨g, k * 3 + 1, none⟩ = some (.int .u64 since) ∧ (Instr.lookup 24 (.map (some b')) (.int .u64 id) false).run Yba.prog w' = .ok (pt R) w') (first | with_reducible exact F1.out | with_reducible exact F2.out)
          (first | (go_at_call 20; refine (isZero_zero _).mono ?_; rintro e w1 ⟨rfl, rfl⟩))
        go_wp2_with fail
        go_meet
        case rel => exact ⟨rfl, ((HO.out).alloc (.cells #[.int .u64 0, .int .i64 0, np] 75)).os, ((HO.out).alloc (.cells #[.int .u64 0, .int .i64 0, np] 75)).tape, ((HO.out).alloc (.cells #[.int .u64 0, .int .i64 0, np] 75)).output, ((HO.out).alloc (.cells #[.int .u64 0, .int .i64 0, np] 75)).size, ((HO.out).alloc (.cells #[.int .u64 0, .int .i64 0, np] 75)).block⟩
      case rest =>
        obtain ⟨rfl, ho⟩ := hcut
        clear hOB hat hwf V e3 hta HO
        obtain ⟨c2, d4, hln, _⟩ := vw2 (HC.out.later ho) (HM.out.later ho) hlt HVV.out hns
        rw [HRe.out] at d4
        have HNS : Hid (ns[k]? = some (.slice ua rs[k].names.length uc)) := hns
        clear hns
        have hnl : ∀ q ty, (Builtin.len_ #[76] ty #[.map (some rs[k].L)]).run Yba.prog (wc.drewN q) = .ok (.int .i64 (rs[k].names.length : Int)) (wc.drewN q) := fun q ty => by
          have ho2 : Only (fun _ => False) w (wc.drewN q) := ⟨ho.os, ho.tape, ho.output, ho.size, ho.block⟩
          exact (vw2 (HC.out.later ho2) (HM.out.later ho2) hlt HVV.out HNS.out).2.2.1 ty
        have HO : Hid (Only (fun _ => False) w wc) := ho
        clear ho hln
        go_upto_region 14 with fail
        go_quiet (fail)
        have ho3 : Only (fun _ => False) w (wc.drewN nq) := ⟨HO.out.os, HO.out.tape, HO.out.output, HO.out.size, HO.out.block⟩
        clear HO hnl c2 d4
        generalize wc.drewN nq = wd at *
        go_wp2_with fail
        go_loopw [9] (fun i wr => ∃ j : Nat, j ≤ rs[k].names.length ∧ i = .int .i64 j ∧ Only (fun _ => False) w wr) (fun i _ => rs[k].names.length - (intOf i).toNat)
        case atStart => exact ⟨0, Nat.zero_le _, rfl, ho3⟩
        case round =>
          clear ho3
          obtain ⟨j, hj, rfl, ho⟩ := hrel
          have hnk := HNM.out rs[k] (List.getElem_mem hlt)
          by_cases hjl : j < rs[k].names.length
          · obtain ⟨_, _, _, h4⟩ := vw2 (HC.out.later ho) (HM.out.later ho) hlt HVV.out HNS.out
            obtain ⟨q, rfl, _, _⟩ := h4 j hjl
            clear h4
            have FF : ∀ wx, wr.heap.size ≤ wx.heap.size → (∀ q, q < wr.heap.size → wx.heap[q]? = wr.heap[q]?) → wx.cell? ⟨g, k * 3 + 2, none⟩ = some (.slice (some ⟨q, 0, none⟩) rs[k].names.length uc) ∧ wx.cell? ⟨R, 4, none⟩ = some (.map (some rs[k].L)) ∧ wx.cell? ⟨q, j, none⟩ = some (.string (rs[k].names.getD j ByteArray.empty)) ∧ (Instr.lookup 76 (.map (some rs[k].L)) (.string (rs[k].names.getD j ByteArray.empty)) true).run Yba.prog wx = .ok (.tuple #[.agg #[], .bool true]) wx := fun wx hs hx => by
              have hC2 := (HC.out.later ho).same (w' := wx) (fun q hq => hx q ((HC.out.later ho).lt q hq))
              have hM2 := (HM.out.later ho).same (w' := wx) hs (fun q hq => hx q ((HM.out.later ho).lt hq).1)
              obtain ⟨h1, h2, _, h4⟩ := vw2 hC2 hM2 hlt HVV.out HNS.out
              obtain ⟨q', e1, e2, e3⟩ := h4 j hjl
              injection e1 with e1
              injection e1 with e1
              subst e1
              rw [HRe.out] at h2
              exact ⟨h1, h2, e2, e3⟩
            generalize rs[k].names.getD j ByteArray.empty = nj at FF
            have HF : Hid (∀ wx, wr.heap.size ≤ wx.heap.size → (∀ q, q < wr.heap.size → wx.heap[q]? = wr.heap[q]?) → wx.cell? ⟨g, k * 3 + 2, none⟩ = some (.slice (some ⟨q, 0, none⟩) rs[k].names.length uc) ∧ wx.cell? ⟨R, 4, none⟩ = some (.map (some rs[k].L)) ∧ wx.cell? ⟨q, j, none⟩ = some (.string nj) ∧ (Instr.lookup 76 (.map (some rs[k].L)) (.string nj) true).run Yba.prog wx = .ok (.tuple #[.agg #[], .bool true]) wx) := FF
            obtain ⟨c2, _, _, _⟩ := FF wr (Nat.le_refl _) (fun _ _ => rfl)
            clear FF
            have HO : Hid (Only (fun _ => False) w wr) := ho
            clear ho
            have l0 : (0 : Int) ≤ (j : Int) := by omega
            have l1 : (j : Int) < (rs[k].names.length : Int) := by omega
            have l2 : decide ((j : Int) < (rs[k].names.length : Int)) = true := by simp [hjl]
            have F1 : Hid (wr.drew.cell? ⟨g, k * 3 + 2, none⟩ = some (.slice (some ⟨q, 0, none⟩) rs[k].names.length uc) ∧ wr.drew.cell? ⟨R, 4, none⟩ = some (.map (some rs[k].L)) ∧ wr.drew.cell? ⟨q, j, none⟩ = some (.string nj) ∧ (Instr.lookup 76 (.map (some rs[k].L)) (.string nj) true).run Yba.prog wr.drew = .ok (.tuple #[.agg #[], .bool true]) wr.drew) := HF.out _ (Nat.le_refl _) (fun _ _ => rfl)
            have F2 : Hid ((wr.alloc (.cells #[] 88)).drew.cell? ⟨g, k * 3 + 2, none⟩ = some (.slice (some ⟨q, 0, none⟩) rs[k].names.length uc) ∧ (wr.alloc (.cells #[] 88)).drew.cell? ⟨R, 4, none⟩ = some (.map (some rs[k].L)) ∧ (wr.alloc (.cells #[] 88)).drew.cell? ⟨q, j, none⟩ = some (.string nj) ∧ (Instr.lookup 76 (.map (some rs[k].L)) (.string nj) true).run Yba.prog (wr.alloc (.cells #[] 88)).drew = .ok (.tuple #[.agg #[], .bool true]) (wr.alloc (.cells #[] 88)).drew) := HF.out _ (Below.size (w := wr) (B := wr.heap.size) (by go_grown)) (Below.block (w := wr) (by go_grown))
            go_upto_region 19 with fail
            go_cut [11] (fun s wx => s = .bool true ∧ Only (fun _ => False) w wx)
            case first =>
              go_region_held3 (fun wx => wx.cell? ⟨g, k * 3 + 2, none⟩ = some (.slice (some ⟨q, 0, none⟩) rs[k].names.length uc) ∧ wx.cell? ⟨R, 4, none⟩ = some (.map (some rs[k].L)) ∧ wx.cell? ⟨q, j, none⟩ = some (.string nj) ∧ (Instr.lookup 76 (.map (some rs[k].L)) (.string nj) true).run Yba.prog wx = .ok (.tuple #[.agg #[], .bool true]) wx) (first | with_reducible exact F1.out | with_reducible exact F2.out) (fail)
              all_goals
                go_wp2_with fail
                go_meet
                case rel => exact ⟨rfl, ((HO.out).alloc (.cells #[] 88)).os, ((HO.out).alloc (.cells #[] 88)).tape, ((HO.out).alloc (.cells #[] 88)).output, ((HO.out).alloc (.cells #[] 88)).size, ((HO.out).alloc (.cells #[] 88)).block⟩
            case rest =>
              obtain ⟨rfl, ho⟩ := hcut
              clear c2 HF F1 F2 HO
              go_wp2_with fail
              go_roundw
              case rel => exact ⟨j + 1, by omega, by go_num, ho⟩
              case measure => simp [intOf]; omega
          · have ej : rs[k].names.length = j := by omega
            obtain ⟨c2, _, _, _⟩ := vw2 (HC.out.later ho) (HM.out.later ho) hlt HVV.out HNS.out
            rw [ej] at c2
            have hn := HN21.out wr ho
            have l2 : decide ((j : Int) < (j : Int)) = false := by simp
            go_wp2_with (first
              | (go_at_call 21; refine hn.mono ?_; rintro e w1 ⟨rfl, hw⟩; obtain rfl := hw.symm))
            go_roundw
            case rel => exact ⟨k + 1, by omega, rfl, by go_num, ho⟩
            case measure => simp [intOf]; omega
    · have ek : rs.length = k := by omega
      have ee : ep rs k = np := by rw [← ek]; exact ep_end
      rw [ee, ek]
      have l2 : decide ((k : Int) < (k : Int)) = false := by simp
      go_wp2_with fail
      go_ret
      exact ⟨rfl, ho⟩
end Go.Proofs.Ybulkdrpg
