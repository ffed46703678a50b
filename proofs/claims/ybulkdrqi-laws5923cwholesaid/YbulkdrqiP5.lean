import Derived.Test.YbulkdrqiS
namespace Go.Proofs.Ybulkdrqi
open Go.RowKit

set_option maxRecDepth 100000 in
set_option maxHeartbeats 8000000 in
theorem law (e0 : Int) (n start : Nat) (a : Option Addr) (len cap sb off : Nat) (O Ix Vl : Nat → Int) (w : World) (hn : 0 < n) (hn16 : n ≤ 16) (hdv : n ∣ 18446744073709551616)
    (hsh : ∀ w, (Op.shift .shl .i64 1 .u8 (e0.tmod 5)).run Yba.prog w = .ok (.int .i64 (n : Int)) w)
    (hand : ∀ x : Nat, x < 18446744073709551616 → bits .and .u64 (x : Int) ((n : Int) - 1) = ((x % n : Nat) : Int))
    (hl : len ≤ 4096) (hst : start < 18446744073709551616) (ha : 0 < len → a = some ⟨sb, off, none⟩) (hr : ∀ k, k < len → w.rangeAt sb (off + k * 3) (stepL (O k) (Ix k) (Vl k))) :
    Calls Yba.prog 4 #[.int .u8 e0, .int .u64 (start : Int), .slice a len cap] w fun e w' => e = .returned (.bool true) ∧ Below w.heap.size w w' := by
  have hlt : decide ((4096 : Int) < (len : Int)) = false := by simp; omega
  have hw1 : IntKind.i64.wrap ((n : Int) - 1) = (n : Int) - 1 := by rw [IntKind.wrap_i64]; omega
  have hw2 : IntKind.u64.wrap ((n : Int) - 1) = (n : Int) - 1 := by rw [IntKind.wrap_u64]; omega
  have hmk1 := fun w => run_make_any (P := Yba.prog) 94 32 _ 1 8 Yba.underlying94 Yba.info32 .i64 .i64 n (by omega) (by omega) w
  have hmk2 := fun w => run_make_any (P := Yba.prog) 93 90 _ 2 16 Yba.underlying93 Yba.info90m .i64 .i64 n (by omega) (by omega) w
  have HA : Hid _ := ha
  have HR : Hid _ := hr
  have HN : Hid _ := hand
  clear ha hr hand
  go_enter Yba.func4, Yba.ntmps4
  go_wp2_with (first
    | (go_at_call 5; refine (newRing n w hn hn16).mono ?_; rintro e w1 ⟨rfl, hR1, hB1, hS1⟩)
    | (go_at_call 13; refine (store64 (w.heap.size + 1) 66 start _ w1 hR1.qh hR1.fh).mono ?_; rintro e w2 ⟨rfl, hw2⟩; have hR2 := hR1.headed hw2; have hB2 := below_turned (CB := 1) hB1 hw2; have hS2 := size_turned hS1 hw2; clear hw2 hR1 hB1 hS1)
    | (go_at_call 13; refine (store64 (w.heap.size + 1) 131 start _ w2 hR2.qt hR2.ft).mono ?_; rintro e w3 ⟨rfl, hw3⟩; have hR3 := hR2.tailed hw3; have hB3 := below_turned (CB := 1) hB2 hw3; have hS3 := size_turned hS2 hw3; clear hw3 hR2 hB2 hS2))
  go_loopw [10] (fun i wr => ∃ k : Nat, k ≤ n ∧ i = .int .i64 k ∧ Ring (w.heap.size + 1) w.heap.size n start start (fun i => if i < k then tg n start i else i) (fun _ => 0) (fun _ => 0) wr ∧ Below w.heap.size w wr ∧ wr.heap.size = w.heap.size + 2) (fun i _ => n - (intOf i).toNat)
  case atStart => exact ⟨0, Nat.zero_le _, rfl, hR3.congr (fun i _ => by simp) (fun _ _ => rfl) (fun _ _ => rfl), hB3, hS3⟩
  case round =>
    obtain ⟨k, hk, rfl, hR, hB, hS⟩ := hrel
    by_cases hlt2 : k < n
    · as_aux_lemma =>
      have q0 := hR.q0
      have z0 := hR.cells k hlt2 0 _ rfl
      have z1 := (hR.there0 k hlt2).2
      have i0 : (0 : Int) ≤ (k : Int) := by omega
      have i1 : (k : Int) < (n : Int) := by omega
      have hw3 : IntKind.u64.wrap (k : Int) = (k : Int) := by rw [IntKind.wrap_u64]; omega
      obtain ⟨x, hx⟩ : ∃ x, x = (k + 18446744073709551616 - start) % 18446744073709551616 := ⟨_, rfl⟩
      have hxl : x < 18446744073709551616 := by omega
      have hw4 : IntKind.u64.wrap ((k : Int) - (start : Int)) = (x : Int) := by rw [IntKind.wrap_u64]; omega
      have hw5 := HN.out x hxl
      have hw6 : IntKind.u64.wrap ((start : Int) + ((x % n : Nat) : Int)) = (tg n start k : Int) := by
        rw [IntKind.wrap_u64, hx, tg_eq hn hdv hst]; simp only [tg]; omega
      obtain ⟨y, hy⟩ : ∃ y, y = x % n := ⟨_, rfl⟩
      rw [← hy] at hw5 hw6
      clear hy hx
      obtain ⟨g, hg⟩ : ∃ g, g = tg n start k := ⟨_, rfl⟩
      rw [← hg] at hw6
      have HG : Hid _ := hg
      clear hg
      go_wp2_with (go_at_call 13; refine (store64 w.heap.size (k * 3) g _ wr z0 z1).mono ?_; rintro e w4 ⟨rfl, hw7⟩; have hR4 := hR.turned hlt2 hw7; have hB4 := below_turned (CB := 0) hB hw7; have hS4 := size_turned hS hw7; clear hw7)
      go_roundw
      case rel =>
        refine ⟨k + 1, by omega, by go_num, hR4.congr (fun i _ => ?_) (fun _ _ => rfl) (fun _ _ => rfl), hB4, hS4⟩
        simp only [upd]
        by_cases e : i = k
        · subst e; simp [HG.out]
        · simp only [if_neg e]; by_cases e2 : i < k
          · rw [if_pos e2, if_pos (by omega)]
          · rw [if_neg e2, if_neg (by omega)]
      case measure => simp [intOf]; omega
    · have e : n = k := by omega
      subst e
      have hR4 : Ring (w.heap.size + 1) w.heap.size n start start (tg n start) (fun _ => 0) (fun _ => 0) wr := hR.congr (fun i hi => by simp [hi]) (fun _ _ => rfl) (fun _ _ => rfl)
      have hS5 := st_start hR4 hn hB hS
      clear hR4 hR hB hk
      go_wp2_with fail
      clear hS hmk1 hmk2 hw1 hw2
      generalize (wr.alloc (.cells (madeCells #[.int .u64 0] n) 32)).alloc (.cells (madeCells #[.int .i64 0, .int .i64 0] (n * 2)) 90) = wy at *
      clear wr
      go_loopw [74, 11] (fun i v wr => Inv w.heap.size n len w i v wr) (fun i _ _ => len - (intOf i).toNat)
      case atStart => exact ⟨0, start, start, _, _, _, [], Nat.zero_le _, rfl, hS5, Q.start hst hn⟩
      case round =>
        obtain ⟨k, h, t, T, JI, JV, F, hk, rfl, sR, hq⟩ := hrel
        clear hS5
        by_cases hkl : k < len
        · obtain rfl := HA.out (by omega)
          have hr0 := HR.out k hkl
          have c0 : wr.cell? ⟨sb, off + k * 3, none⟩ = some (.int .u8 (O k)) := cell_later sR.below (hr0 0 _ rfl)
          have c1 : wr.cell? ⟨sb, off + k * 3 + 1, none⟩ = some (.int .i64 (Ix k)) := cell_later sR.below (hr0 1 _ rfl)
          have c2 : wr.cell? ⟨sb, off + k * 3 + 2, none⟩ = some (.int .i64 (Vl k)) := cell_later sR.below (hr0 2 _ rfl)
          clear hr0
          obtain ⟨fa, fc, rfl⟩ := sR.fifo.form
          go_upto_region 18 with fail
          clear c0 c1 c2
          have sA := sR.later hn (Nat.le_refl _) (show Below wr.heap.size wr (wr.alloc (.cells #[.int .u8 (O k), .int .i64 (Ix k), .int .i64 (Vl k)] 96)) by go_grown)
          have xA : (wr.alloc (.cells #[.int .u8 (O k), .int .i64 (Ix k), .int .i64 (Vl k)] 96)).rangeAt wr.heap.size 0 (stepL (O k) (Ix k) (Vl k)) := rangeAt_new wr _ _
          have hSA : w.heap.size + 4 ≤ wr.heap.size := sR.size
          clear sR
          generalize (wr.alloc (.cells #[.int .u8 (O k), .int .i64 (Ix k), .int .i64 (Vl k)] 96)) = wa at *
          generalize wr.heap.size = S at *
          have s0 : wa.cell? ⟨S, 0, none⟩ = some (.int .u8 (O k)) := xA 0 _ rfl
          have s1 : wa.cell? ⟨S, 1, none⟩ = some (.int .i64 (Ix k)) := xA 1 _ rfl
          have s2 : wa.cell? ⟨S, 2, none⟩ = some (.int .i64 (Vl k)) := xA 2 _ rfl
          by_cases hput : ((O k).tmod 2 == 0) = true ∧ decide ((F.length : Int) < (n : Int)) = true
          · as_aux_lemma =>
            obtain ⟨hp1, hp2⟩ := hput
            have hFn : F.length < n := by simp at hp2; omega
            have htu := hq.turn hdv hFn
            have htl : t < 18446744073709551616 := by rw [hq.tail]; exact Nat.mod_lt _ (by decide)
            have hnd := HN.out t htl
            obtain ⟨c, hc⟩ : ∃ c, c = t % n := ⟨_, rfl⟩
            rw [← hc] at hnd
            have hcn : c < n := by rw [hc]; exact Nat.mod_lt _ hn
            have HC : Hid _ := hc
            clear hc
            have q0 := sA.ring.q0
            have d0 : (0 : Int) ≤ (c : Int) := by omega
            have d1 : (c : Int) < (n : Int) := by omega
            have z0 : wa.cell? ⟨w.heap.size, c * 3, none⟩ = some (.int .u64 (t : Int)) := by
              have := sA.ring.cells c hcn 0 _ rfl
              rw [← HC.out] at htu
              rw [htu] at this
              exact this
            have hnn := World.new_ne wa _ s0
            clear htu
            go_upto_region 23 with (first
              | (go_at_call 12; refine (load64 (w.heap.size + 1) 131 t _ sA.ring.qt).mono ?_; rintro e w1 ⟨rfl, rfl⟩)
              | (go_at_call 12; refine (load64 w.heap.size (c * 3) t _ z0).mono ?_; rintro e w1 ⟨rfl, rfl⟩))
            have sB := sA.later hn (Nat.le_refl _) (show Below w1.heap.size w1 (w1.alloc (.cells #[.int .i64 (Ix k), .int .i64 (Vl k)] 90)) by go_grown)
            have xB : (w1.alloc (.cells #[.int .i64 (Ix k), .int .i64 (Vl k)] 90)).rangeAt w1.heap.size 0 [.int .i64 (Ix k), .int .i64 (Vl k)] := rangeAt_new w1 _ _
            have hJ : w.heap.size + 4 ≤ w1.heap.size := sA.size
            have hJ2 : w1.heap.size < (w1.alloc (.cells #[.int .i64 (Ix k), .int .i64 (Vl k)] 90)).heap.size := by simp
            clear sA xA s0 s1 s2 q0 z0 hnn
            generalize (w1.alloc (.cells #[.int .i64 (Ix k), .int .i64 (Vl k)] 90)) = wb at *
            generalize w1.heap.size = J at *
            have j0 : wb.cell? ⟨J, 0, none⟩ = some (.int .i64 (Ix k)) := xB 0 _ rfl
            have j1 : wb.cell? ⟨J, 1, none⟩ = some (.int .i64 (Vl k)) := xB 1 _ rfl
            go_upto_region 24 with (go_at_call 14; refine (put_any (Ix k) (Vl k) sB.ring hn (HN.out t htl) (hq.turn hdv hFn)).mono ?_; rintro e w2 ⟨rfl, hR2, ht2⟩)
            have sC := sB.touch (Nat.le_refl _) ht2 hR2
            have xC : w2.rangeAt J 0 [.int .i64 (Ix k), .int .i64 (Vl k)] := rangeAt_block xB (ht2.block J hJ2 (by omega) (by omega))
            clear sB xB j0 j1 hR2 ht2 hJ2
            have j0 : w2.cell? ⟨J, 0, none⟩ = some (.int .i64 (Ix k)) := xC 0 _ rfl
            have j1 : w2.cell? ⟨J, 1, none⟩ = some (.int .i64 (Vl k)) := xC 1 _ rfl
            have sD := sC.later hn (Nat.le_refl _) (show Below w2.heap.size w2 (w2.alloc (.cells #[.int .i64 (Ix k), .int .i64 (Vl k)] 90)) by go_grown)
            have xD : (w2.alloc (.cells #[.int .i64 (Ix k), .int .i64 (Vl k)] 90)).rangeAt w2.heap.size 0 [.int .i64 (Ix k), .int .i64 (Vl k)] := rangeAt_new w2 _ _
            have hF16 : F.length ≤ 16 := by omega
            go_wp2_with (first
              | ((with_reducible refine wpList_append_fifo (.tmp 112) (.tmp 114) _ (w.heap.size + 4) (.slice fa F.length fc) F ?_ sD.fifo hF16 sD.size w2.heap.size 1 (Ix k) (Vl k) ?_ xD ?_); simp [Act.eval]; simp [Act.eval]; intro v' w3 hF' hB'))
            go_roundw
            case rel => exact ⟨k + 1, h, _, _, _, _, F ++ [(Ix k, Vl k)], by omega, by go_num, sD.queue hB' hF', hq.put hdv hFn (Ix k) (Vl k)⟩
            case measure => simp [intOf]; omega
          · go_cut [87] (fun s wx => s = .bool false ∧ wa = wx)
            case first =>
              by_cases hp1 : ((O k).tmod 2 == 0) = true
              · as_aux_lemma =>
                have hp2 : decide ((F.length : Int) < (n : Int)) = false := by
                  cases hd : decide ((F.length : Int) < (n : Int)) with
                  | false => rfl
                  | true => exact absurd ⟨hp1, hd⟩ hput
                clear hput
                go_wp2_with fail
                go_meet
                case rel => exact ⟨congrArg Value.bool (by simp at hp2 ⊢; omega), rfl⟩
              · as_aux_lemma =>
                have hp1' : ((O k).tmod 2 == 0) = false := by simpa using hp1
                clear hput hp1
                go_wp2_with fail
                go_meet
                case rel => exact ⟨rfl, rfl⟩
            case rest =>
              obtain ⟨rfl, rfl⟩ := hcut
              clear hput s0 s1 s2 xA
              clear wr
              go_wp2_with (first
                | (go_at_call 12; refine (load64 (w.heap.size + 1) 66 h _ sA.ring.qh).mono ?_; rintro e w1 ⟨rfl, rfl⟩)
                | (go_at_call 12; refine (load64 (w.heap.size + 1) 131 t _ sA.ring.qt).mono ?_; rintro e w1 ⟨rfl, rfl⟩))
              go_loopw [20] (fun i wr => ∃ m : Nat, m ≤ n ∧ i = .int .i64 m ∧ St w.heap.size n h t T JI JV (.slice fa F.length fc) F w wr ∧ Sv w.heap.size m T JI JV wr) (fun i _ => n - (intOf i).toNat)
              case atStart => exact ⟨0, Nat.zero_le _, rfl, sA, ⟨fun i hi => by omega, fun i hi => by omega⟩⟩
              case round =>
                obtain ⟨m, hm, rfl, sM, vM⟩ := hrel
                clear sA
                by_cases hmn : m < n
                · as_aux_lemma =>
                  have q0 := sM.ring.q0
                  have z0 : wr.cell? ⟨w.heap.size, m * 3, none⟩ = some (.int .u64 (T m : Int)) := sM.ring.cells m hmn 0 _ rfl
                  have hT := sM.tT m hmn
                  rw [Nat.zero_add] at hT
                  obtain ⟨u0, hu0⟩ := Option.isSome_iff_exists.1 hT.1
                  have hf0 := hT.2
                  clear hT
                  have i0 : (0 : Int) ≤ (m : Int) := by omega
                  have i1 : (m : Int) < (n : Int) := by omega
                  go_upto_region 31 with (go_at_call 12; refine (load64 w.heap.size (m * 3) (T m) _ z0).mono ?_; rintro e w1 ⟨rfl, rfl⟩)
                  have hV : (w1.setCell ⟨w.heap.size + 2, m, none⟩ (.int .u64 (T m : Int))).cell? ⟨w.heap.size + 2, m, none⟩ = some (.int .u64 (T m : Int)) ∧ Sv w.heap.size m T JI JV (w1.setCell ⟨w.heap.size + 2, m, none⟩ (.int .u64 (T m : Int))) := vM.turn sM.tT hmn
                  have sX : St w.heap.size n h t T JI JV (.slice fa F.length fc) F w (w1.setCell ⟨w.heap.size + 2, m, none⟩ (.int .u64 (T m : Int))) := sM.save (o := m) (Or.inl rfl) [.int .u64 (T m : Int)]
                  clear sM vM q0 z0 hu0 hf0
                  generalize w1.setCell ⟨w.heap.size + 2, m, none⟩ (.int .u64 (T m : Int)) = wz at *
                  have q0 := sX.ring.q0
                  have r1 : wz.cell? ⟨w.heap.size, m * 3 + 1, none⟩ = some (.int .i64 (JI m)) := sX.ring.cells m hmn 1 _ rfl
                  have r2 : wz.cell? ⟨w.heap.size, m * 3 + 2, none⟩ = some (.int .i64 (JV m)) := sX.ring.cells m hmn 2 _ rfl
                  have hthJ := sX.thJ m hmn
                  go_wp2_with ((with_reducible refine wpList_store_hid 90 (.tmp 150) (.tmp 149) (w.heap.size + 2 + 1) (m * 2) #[.int .i64 (JI m), .int .i64 (JV m)] 2 ?_ ?_ hthJ Yba.size90 (job_size _ _) (job_one _ _) ?_); simp [Act.eval]; simp [Act.eval]; intro w2 hw2 hs2; have sY := sX.saved (Or.inr rfl) hw2.out; have vY := hV.2.jobbed hV.1 sX.tJ hmn rfl hw2.out; clear hw2)
                  go_roundw
                  case rel => exact ⟨m + 1, by omega, by go_num, sY, vY⟩
                  case measure => simp [intOf]; omega
                · have e : n = m := by omega
                  subst e
                  clear hm hmn
                  rcases F with _ | ⟨f, F'⟩
                  · as_aux_lemma =>
                    have het := hq.empty
                    go_upto_region 33 with (go_at_call 15; refine (pop_none sM.ring hn het).mono ?_; rintro e w1 ⟨rfl, hB1⟩)
                    have sN0 := sM.later hn (Nat.le_refl _) hB1
                    have vN0 := vM.later sM.size hB1
                    have sN := sN0.later hn (Nat.le_refl _) (show Below w1.heap.size w1 (w1.alloc (.cells #[.int .i64 0, .int .i64 0] 90)) by go_grown)
                    have vN := vN0.later sN0.size (show Below w1.heap.size w1 (w1.alloc (.cells #[.int .i64 0, .int .i64 0] 90)) by go_grown)
                    have xN : (w1.alloc (.cells #[.int .i64 0, .int .i64 0] 90)).rangeAt w1.heap.size 0 [.int .i64 0, .int .i64 0] := rangeAt_new w1 _ _
                    clear sN0 vN0 hB1 sM vM
                    generalize (w1.alloc (.cells #[.int .i64 0, .int .i64 0] 90)) = wg at *
                    generalize w1.heap.size = G at *
                    have g0 : wg.cell? ⟨G, 0, none⟩ = some (.int .i64 0) := xN 0 _ rfl
                    have g1 : wg.cell? ⟨G, 1, none⟩ = some (.int .i64 0) := xN 1 _ rfl
                    have q0 := sN.ring.q0
                    have q1 := sN.ring.q1
                    clear wr xN
                    go_wp2_with (first
                      | (go_at_call 12; refine (load64 (w.heap.size + 1) 131 t _ sN.ring.qt).mono ?_; rintro e w1 ⟨rfl, rfl⟩)
                      | (go_at_call 12; refine (load64 (w.heap.size + 1) 66 h _ sN.ring.qh).mono ?_; rintro e w1 ⟨rfl, rfl⟩))
                    clear q0 q1 g0 g1
                    go_loopw [23] (fun i wr => ∃ m : Nat, m ≤ n ∧ i = .int .i64 m ∧ St w.heap.size n h t T JI JV (.slice fa ([] : List (Int × Int)).length fc) [] w wr ∧ Sv w.heap.size n T JI JV wr) (fun i _ => n - (intOf i).toNat)
                    case atStart => exact ⟨0, Nat.zero_le _, rfl, sN, vN⟩
                    case round =>
                      obtain ⟨m, hm, rfl, sL, vL⟩ := hrel
                      clear sN vN
                      by_cases hmn : m < n
                      · as_aux_lemma =>
                        have q0 := sL.ring.q0
                        have z0 : wr.cell? ⟨w.heap.size, m * 3, none⟩ = some (.int .u64 (T m : Int)) := sL.ring.cells m hmn 0 _ rfl
                        have r1 : wr.cell? ⟨w.heap.size, m * 3 + 1, none⟩ = some (.int .i64 (JI m)) := sL.ring.cells m hmn 1 _ rfl
                        have r2 : wr.cell? ⟨w.heap.size, m * 3 + 2, none⟩ = some (.int .i64 (JV m)) := sL.ring.cells m hmn 2 _ rfl
                        have t0 := vL.turns m hmn
                        have u1 : wr.cell? ⟨w.heap.size + 2 + 1, m * 2, none⟩ = some (.int .i64 (JI m)) := vL.jobs m hmn 0 _ rfl
                        have u2 : wr.cell? ⟨w.heap.size + 2 + 1, m * 2 + 1, none⟩ = some (.int .i64 (JV m)) := vL.jobs m hmn 1 _ rfl
                        have i0 : (0 : Int) ≤ (m : Int) := by omega
                        have i1 : (m : Int) < (n : Int) := by omega
                        have cb : ((T m : Int) != (T m : Int)) = false := by simp
                        go_upto_region 41 with fail
                        go_quiet (first | (go_at_call 12; refine Calls.quiet_of_same (load64 w.heap.size (m * 3) (T m) _ ?_); simpa using z0))
                        go_wp2_with fail
                        go_roundw
                        case rel => exact ⟨m + 1, by omega, by go_num, sL.later hn (Nat.le_refl _) (below_drewN (Below.refl _ _) _), vL.later sL.size (below_drewN (Below.refl _ _) _)⟩
                        case measure => simp [intOf]; omega
                      · have e : n = m := by omega
                        subst e
                        go_wp2_with fail
                        go_roundw
                        case rel => exact ⟨k + 1, h, t, T, JI, JV, [], by omega, by go_num, sL, hq⟩
                        case measure => simp [intOf]; omega
                  · as_aux_lemma =>
                    obtain ⟨hf1, hf2⟩ := hq.first
                    have hne : ((h : Int) == (t : Int)) = false := by
                      have := hq.full (by omega)
                      simp; omega
                    have hnd := HN.out h hq.hlt
                    have hpop := pop_some sM.ring hn (by simp only [M64]; omega) hne hnd
                    obtain ⟨c, hc⟩ : ∃ c, c = h % n := ⟨_, rfl⟩
                    obtain ⟨h', hh'⟩ : ∃ x, x = (h + 1) % 18446744073709551616 := ⟨_, rfl⟩
                    obtain ⟨g', hg'⟩ : ∃ x, x = (h + n) % 18446744073709551616 := ⟨_, rfl⟩
                    have hwh : IntKind.u64.wrap ((h : Int) + 1) = (h' : Int) := by rw [IntKind.wrap_u64, hh']; omega
                    have hwn : IntKind.u64.wrap (n : Int) = (n : Int) := by rw [IntKind.wrap_u64]; omega
                    have hwg : IntKind.u64.wrap ((h : Int) + (n : Int)) = (g' : Int) := by rw [IntKind.wrap_u64, hg']; omega
                    have hcn : c < n := by rw [hc]; exact Nat.mod_lt _ hn
                    have hwc : IntKind.i64.wrap (c : Int) = (c : Int) := by rw [IntKind.wrap_i64]; omega
                    have hq2 := hq.pop hdv
                    simp only [M64] at hpop
                    rw [← hc] at hf1 hf2 hnd hpop hq2
                    rw [← hh', ← hg'] at hpop hq2
                    rw [hf1, hf2] at hpop
                    clear hc hh' hg' hf1 hf2 hne
                    go_upto_region 33 with (go_at_call 15; refine hpop.mono ?_; rintro e w1 ⟨rfl, hR1, ht1⟩)
                    have sN0 := sM.touch (Nat.le_refl _) ht1 hR1
                    have vN0 := vM.touch sM.size ht1
                    have sN := sN0.later hn (Nat.le_refl _) (show Below w1.heap.size w1 (w1.alloc (.cells #[.int .i64 f.1, .int .i64 f.2] 90)) by go_grown)
                    have vN := vN0.later sN0.size (show Below w1.heap.size w1 (w1.alloc (.cells #[.int .i64 f.1, .int .i64 f.2] 90)) by go_grown)
                    have xN : (w1.alloc (.cells #[.int .i64 f.1, .int .i64 f.2] 90)).rangeAt w1.heap.size 0 [.int .i64 f.1, .int .i64 f.2] := rangeAt_new w1 _ _
                    clear sN0 vN0 hR1 ht1 sM vM hpop
                    generalize (w1.alloc (.cells #[.int .i64 f.1, .int .i64 f.2] 90)) = wg at *
                    generalize w1.heap.size = G at *
                    have g0 : wg.cell? ⟨G, 0, none⟩ = some (.int .i64 f.1) := xN 0 _ rfl
                    have g1 : wg.cell? ⟨G, 1, none⟩ = some (.int .i64 f.2) := xN 1 _ rfl
                    obtain ⟨gb, gof, rfl, _, hfc, f0, f1⟩ := sN.fifo.front
                    have q0 := sN.ring.q0
                    have q1 := sN.ring.q1
                    have qh := sN.ring.qh
                    clear wr xN
                    have l1 : (((F'.length : Int) + 1) == 0) = false := by simp; omega
                    have l2 : (0 : Int) < ((F'.length : Int) + 1) := by omega
                    go_upto_region 43 with (go_at_call 12; refine (load64 (w.heap.size + 1) 131 t _ sN.ring.qt).mono ?_; rintro e w1 ⟨rfl, rfl⟩)
                    have cb : ((h' : Int) != (h' : Int)) = false := by simp
                    go_quiet (first | (go_at_call 12; refine Calls.quiet_of_same (load64 (w.heap.size + 1) 66 h' _ ?_); simpa using qh))
                    go_wp2_with fail
                    have sP := sN.later hn (Nat.le_refl _) (below_drewN (Below.refl w1.heap.size w1) nq)
                    have vP := vN.later sN.size (below_drewN (Below.refl w1.heap.size w1) nq)
                    clear sN vN q0 q1 qh g0 g1 f0 f1 cb
                    generalize w1.drewN nq = wq at *
                    clear w1
                    go_loopw [25] (fun i wr => ∃ m : Nat, m ≤ n ∧ i = .int .i64 m ∧ St w.heap.size n h' t (upd T c g') (upd JI c 0) (upd JV c 0) (.slice (some ⟨gb, gof, none⟩) (f :: F').length fc) (f :: F') w wr ∧ Sv w.heap.size n T JI JV wr) (fun i _ => n - (intOf i).toNat)
                    case atStart => exact ⟨0, Nat.zero_le _, rfl, sP, vP⟩
                    case round =>
                      obtain ⟨m, hm, rfl, sL, vL⟩ := hrel
                      clear sP vP
                      by_cases hmn : m < n
                      · have q0 := sL.ring.q0
                        have i0 : (0 : Int) ≤ (m : Int) := by omega
                        have i1 : (m : Int) < (n : Int) := by omega
                        by_cases hmc : m = c
                        · as_aux_lemma =>
                          have hb : ((m : Int) == (c : Int)) = true := by simp; omega
                          have hcl := sL.ring.cells m hmn
                          rw [hmc, upd_same, upd_same, upd_same, ← hmc] at hcl
                          have z0 : wr.cell? ⟨w.heap.size, m * 3, none⟩ = some (.int .u64 (g' : Int)) := hcl 0 _ rfl
                          have r1 : wr.cell? ⟨w.heap.size, m * 3 + 1, none⟩ = some (.int .i64 0) := hcl 1 _ rfl
                          have r2 : wr.cell? ⟨w.heap.size, m * 3 + 2, none⟩ = some (.int .i64 0) := hcl 2 _ rfl
                          clear hcl hmc
                          go_wp2_with (go_at_call 12; refine (load64 w.heap.size (m * 3) g' _ z0).mono ?_; rintro e w1 ⟨rfl, rfl⟩)
                          go_roundw
                          case rel => exact ⟨m + 1, by omega, by go_num, sL, vL⟩
                          case measure => simp [intOf]; omega
                        · as_aux_lemma =>
                          have hb : ((m : Int) == (c : Int)) = false := by simp; omega
                          have hcl := sL.ring.cells m hmn
                          rw [upd_other _ _ hmc, upd_other _ _ hmc, upd_other _ _ hmc] at hcl
                          have z0 : wr.cell? ⟨w.heap.size, m * 3, none⟩ = some (.int .u64 (T m : Int)) := hcl 0 _ rfl
                          have r1 : wr.cell? ⟨w.heap.size, m * 3 + 1, none⟩ = some (.int .i64 (JI m)) := hcl 1 _ rfl
                          have r2 : wr.cell? ⟨w.heap.size, m * 3 + 2, none⟩ = some (.int .i64 (JV m)) := hcl 2 _ rfl
                          have t0 := vL.turns m hmn
                          have u1 : wr.cell? ⟨w.heap.size + 2 + 1, m * 2, none⟩ = some (.int .i64 (JI m)) := vL.jobs m hmn 0 _ rfl
                          have u2 : wr.cell? ⟨w.heap.size + 2 + 1, m * 2 + 1, none⟩ = some (.int .i64 (JV m)) := vL.jobs m hmn 1 _ rfl
                          have cb : ((T m : Int) != (T m : Int)) = false := by simp
                          clear hcl hmc
                          go_upto_region 52 with fail
                          go_quiet (first | (go_at_call 12; refine Calls.quiet_of_same (load64 w.heap.size (m * 3) (T m) _ ?_); simpa using z0))
                          go_wp2_with fail
                          go_roundw
                          case rel => exact ⟨m + 1, by omega, by go_num, sL.later hn (Nat.le_refl _) (below_drewN (Below.refl _ _) _), vL.later sL.size (below_drewN (Below.refl _ _) _)⟩
                          case measure => simp [intOf]; omega
                      · have e : n = m := by omega
                        subst e
                        obtain ⟨v', hsl, hF'⟩ := sL.fifo.tail
                        go_wp2_with fail
                        go_roundw
                        case rel => exact ⟨k + 1, h', t, _, _, _, F', by omega, by go_num, sL.tail hF', hq2⟩
                        case measure => simp [intOf]; omega
        · have e : len = k := by omega
          subst e
          go_wp2_with fail
          go_ret
          exact ⟨rfl, sR.below⟩
end Go.Proofs.Ybulkdrqi
