import Derived.Test.YbulkdrrkK4
import Derived.Maps.RangeWalk
import Derived.Deep.CutBlock
namespace Go.Proofs.Ybulkdrrk
open Go.RowKit

set_option maxRecDepth 100000 in
set_option maxHeartbeats 4000000 in
theorem lawB (id : Int) (reason : ByteArray) (leaked : Bool) (a0 : Option Addr) (n cap b off : Nat) (Kd : Nat → Nat) (Nm Fl : Nat → ByteArray) (Ln : Nat → Int) (ck : Nat) (cn cf : ByteArray) (cl : Int) (w : World)
    (hn : n ≤ 1048576) (hnil : a0 = none → n = 0 ∧ cap = 0) (h0 : 0 < n → a0 = some ⟨b, off, none⟩) (hck : ck ≤ 255) (hcn : cn.size ≤ 140737488351232)
    (hkd : ∀ j, j < n → Kd j ≤ 255) (hnm : ∀ j, j < n → (Nm j).size ≤ 140737488351232)
    (hq : ∀ j, j < n → w.rangeAt b (off + j * 4) (zzL (Kd j) (Nm j) (Fl j) (Ln j))) :
    Calls Yba.prog 3 #[.int .u64 id, .string reason, .bool leaked, .slice a0 n cap, .agg #[.int .u8 (ck : Int), .string cn, .string cf, .int .i64 cl]] w fun e w' => e = .returned (.bool true) ∧ Below w.heap.size w w' := by
  have HN : Hid _ := hnil
  have HA : Hid _ := h0
  have HQ : Hid _ := hq
  have HK : Hid _ := hkd
  have HM : Hid _ := hnm
  clear h0 hq hnil hkd hnm
  have mk26 := run_make_any (P := Yba.prog) 26 29 _ 3 40 Yba.underlying26 Yba.info29 .i64 .i64 n (by omega) (by omega)
  have hdn : decide ((1048576 : Int) < (n : Int)) = false := decide_eq_false (by omega)
  go_enter Yba.func3, Yba.ntmps3
  go_upto_if 25 with fail
  go_cut [11] (fun s wx => ∃ sa SB, s = .slice sa n n ∧ St w.heap.size n 0 a0 sa SB ck cn cf cl (fun j => pfx (Kd j) ++ Nm j) Fl Ln w wx)
  case first =>
    cases a0 with
    | none =>
      obtain ⟨rfl, rfl⟩ := HN.out rfl
      go_wp2_with fail
      go_meet
      case rel => exact ⟨none, w.heap.size + 1, rfl, by go_grown, rangeAt_new w (zzL ck cn cf cl) 25, rfl, (fun h => absurd h (by omega)), by omega, (fun j h => absurd h (by omega)), (fun j h => absurd h (by omega))⟩
    | some ad =>
      clear HN
      go_wp2_with fail
      go_meet
      case rel =>
        refine ⟨some ⟨w.heap.size + 1, 0, none⟩, w.heap.size + 1, rfl, by go_grown, World.rangeAt_alloc (rangeAt_new w (zzL ck cn cf cl) 25) _, rfl, fun _ => rfl, by omega, ?_, (fun j h => absurd h (by omega))⟩
        have := there_made (w.alloc (.cells (zzL ck cn cf cl).toArray 25)) #[.string ByteArray.empty, .string ByteArray.empty, .int .i64 0] (n * 3) 29
        rw [World.size_alloc] at this
        exact this
  case rest =>
    obtain ⟨sa, SB, rfl, hS⟩ := hcut
    go_wp2_with fail
    go_loopw [12] (fun i wr => ∃ k : Nat, k ≤ n ∧ i = .int .i64 k ∧ St w.heap.size n k a0 sa SB ck cn cf cl (fun j => pfx (Kd j) ++ Nm j) Fl Ln w wr) (fun i _ => n - (intOf i).toNat)
    case atStart => exact ⟨0, Nat.zero_le _, rfl, hS⟩
    case round =>
      obtain ⟨k, hk, rfl, hR⟩ := hrel
      by_cases hlt : k < n
      · obtain rfl := HA.out (by omega)
        obtain rfl := hR.ad (by omega)
        have hr0 := HQ.out k hlt
        have c0 : wr.cell? ⟨b, off + k * 4, none⟩ = some (.int .u8 (Kd k : Int)) := cell_later hR.below (hr0 0 _ rfl)
        have c1 : wr.cell? ⟨b, off + k * 4 + 1, none⟩ = some (.string (Nm k)) := cell_later hR.below (hr0 1 _ rfl)
        have c2 : wr.cell? ⟨b, off + k * 4 + 2, none⟩ = some (.string (Fl k)) := cell_later hR.below (hr0 2 _ rfl)
        have c3 : wr.cell? ⟨b, off + k * 4 + 3, none⟩ = some (.int .i64 (Ln k)) := cell_later hR.below (hr0 3 _ rfl)
        have hbl : b < w.heap.size := block_lt_of_cell (hr0 0 _ rfl)
        have hne : b ≠ SB := by have := hR.lt; omega
        have hne' : SB ≠ b := fun e => hne e.symm
        have hkd := HK.out k hlt
        have hnm := HM.out k hlt
        have hps := pfx_size (Kd k)
        obtain ⟨u0, t0⟩ := Option.isSome_iff_exists.1 (hR.th (k * 3) (by omega)).1
        obtain ⟨u1, t1⟩ := Option.isSome_iff_exists.1 (hR.th (k * 3 + 1) (by omega)).1
        obtain ⟨u2, t2⟩ := Option.isSome_iff_exists.1 (hR.th (k * 3 + 2) (by omega)).1
        have s0 := (hR.th (k * 3) (by omega)).2
        have s1 := (hR.th (k * 3 + 1) (by omega)).2
        have s2 := (hR.th (k * 3 + 2) (by omega)).2
        simp only [Nat.zero_add, ← Nat.add_assoc] at t0 t1 t2 s0 s1 s2
        have hadd := fun w => run_string_add_sum (P := Yba.prog) w (pfx (Kd k)) (Nm k) (by omega)
        have i0 : (0 : Int) ≤ (k : Int) := by omega
        have i1 : (k : Int) < (n : Int) := by omega
        clear hr0
        go_wp2_with fail
        go_region_held3 (fun w' => w'.cell? ⟨b, off + k * 4, none⟩ = some (.int .u8 (Kd k : Int)) ∧ w'.cell? ⟨b, off + k * 4 + 1, none⟩ = some (.string (Nm k)) ∧ w'.cell? ⟨b, off + k * 4 + 2, none⟩ = some (.string (Fl k)) ∧ w'.cell? ⟨b, off + k * 4 + 3, none⟩ = some (.int .i64 (Ln k))) (go_keep)
          (first | (go_at_call 4; refine (prefix_any (Kd k) hkd _).mono ?_; rintro e w' ⟨rfl, rfl⟩))
        go_wp2_with fail
        go_roundw
        case rel => exact ⟨k + 1, by omega, by go_num, st_store hR hlt⟩
        case measure => simp [intOf]; omega
      · obtain rfl : k = n := by omega
        have hcp : ∀ o j v, (allL (fun j => pfx (Kd j) ++ Nm j) Fl Ln k)[j]? = some v → 0 < k → (wr.alloc o).cell? ((⟨SB, 0, none⟩ : Addr).add j) = some v := fun o j v hv _ => by
          obtain ⟨h1, h2⟩ := allL_get _ _ _ _ _ _ hv
          rw [Addr.add_mid, Nat.zero_add]
          have := hR.frs (j / 3) (by omega) (j % 3) v h2
          rw [show j / 3 * 3 + j % 3 = j from by omega] at this
          exact cell_later (by go_grown) this
        have HC : Hid _ := hcp
        clear hcp
        go_wp2_with (first
          | ((with_reducible refine wpList_copy_wide (.tmp 64) (.tmp 65) 26 26 29 3 Yba.underlying26 Yba.size29 (some ⟨wr.heap.size, 0, none⟩) sa k k k k wr.heap.size 0 (allL (fun j => pfx (Kd j) ++ Nm j) Fl Ln k) ?_ ?_ ?_ ?_ ?_ (allL_one _ _ _ _) ?_); go_must (simp [Act.eval]; simp [Act.eval]; simp [allL_len]; (intro hp; exact ⟨rfl, ⟨SB, 0, none⟩, hR.ad (by simpa using hp), fun j v hv => HC.out _ j v hv (by simpa using hp)⟩); (rw [allL_len]; exact there_made _ _ _ _); intro w5 hw5 hs5; have hs5' : w5.heap.size = wr.heap.size + 1 := hs5.trans (World.size_alloc _ _); obtain ⟨hS5, hsv, hb5⟩ := saved_made hR (Nat.le_refl _) _ hw5.out; clear hw5 HC hs5)))
        go_frame
        have q0 : w5.cell? ⟨w.heap.size, 0, none⟩ = some (.int .u8 (ck : Int)) := hS5.crt 0 _ rfl
        have q1 : w5.cell? ⟨w.heap.size, 1, none⟩ = some (.string cn) := hS5.crt 1 _ rfl
        have q2 : w5.cell? ⟨w.heap.size, 2, none⟩ = some (.string cf) := hS5.crt 2 _ rfl
        have q3 : w5.cell? ⟨w.heap.size, 3, none⟩ = some (.int .i64 cl) := hS5.crt 3 _ rfl
        have hps := pfx_size ck
        have hadd := fun w => run_string_add_sum (P := Yba.prog) w (pfx ck) cn (by omega)
        have hnn := World.new_ne w5 ⟨w.heap.size, 0, none⟩ q0
        go_cut [14] (fun s wx => ∃ CB, s = .pointer (some ⟨CB, 0, none⟩) ∧ T1 k a0 sa SB wr.heap.size CB ck cn cf cl (fun j => pfx (Kd j) ++ Nm j) Fl Ln (pfx ck ++ cn) w wx)
        case first =>
          go_region_held3 (fun w' => w'.cell? ⟨w.heap.size, 0, none⟩ = some (.int .u8 (ck : Int)) ∧ w'.cell? ⟨w.heap.size, 1, none⟩ = some (.string cn) ∧ w'.cell? ⟨w.heap.size, 2, none⟩ = some (.string cf) ∧ w'.cell? ⟨w.heap.size, 3, none⟩ = some (.int .i64 cl)) (go_keep)
            (first | (go_at_call 4; refine (prefix_any ck hck _).mono ?_; rintro e w' ⟨rfl, rfl⟩))
          all_goals
            go_wp2_with fail
            go_meet
            case rel =>
              refine ⟨_, rfl, hS5.later (Nat.le_refl _) (by go_grown), fun j hj => rangeAt_later (hsv j hj) (by go_grown), ?_⟩
              rw [World.rangeAt_drew, ← hs5']
              exact rangeAt_new w5 (frL (pfx ck ++ cn) cf cl) 29
        case rest =>
          obtain ⟨CB, rfl, hT⟩ := hcut
          generalize wr.heap.size = SV at hT ⊢
          clear q0 q1 q2 q3 hadd hnn hps hb5 hsv hS5 mk26
          have hfs : Hid (∀ j, j < k → (pfx (Kd j) ++ Nm j).size ≤ maxLen) := fun j hj => by
            have := HM.out j hj
            have h2 := pfx_size (Kd j)
            rw [ByteArray.size_append]; unfold maxLen; omega
          generalize hFn : (fun j => pfx (Kd j) ++ Nm j) = Fn at hT
          have hfs' : Hid (∀ j, j < k → (Fn j).size ≤ maxLen) := by rw [← hFn]; exact hfs
          clear hfs hFn
          obtain ⟨gf, gl, gn, hg⟩ := siteL_form Fn Fl Ln k
          have HG : Hid _ := hg
          clear hg
          generalize hfc : pfx ck ++ cn = fc at hT
          clear hfc
          have t0 : wc.cell? ⟨CB, 0, none⟩ = some (.string fc) := hT.cb 0 _ rfl
          have t1 : wc.cell? ⟨CB, 1, none⟩ = some (.string cf) := hT.cb 1 _ rfl
          have t2 : wc.cell? ⟨CB, 2, none⟩ = some (.int .i64 cl) := hT.cb 2 _ rfl
          go_upto_block 2 with (go_at_call 5; go_must (refine (blocking_any wc.heap.size SB k sa Fn Fl Ln _ hn hT.st.ad hfs'.out ?_ (hT.later (by go_grown)).st.frs).mono ?_; (simp); rw [HG.out]; rintro e w7 ⟨rfl, hb7⟩; simp only [frL]; have hT7 := (hT.later (wy := wc.alloc (.cells (gL id reason leaked sa k fc cf cl).toArray 32)) (by go_grown)).later hb7; have hg7 : w7.rangeAt wc.heap.size 0 (gL id reason leaked sa k fc cf cl) := rangeAt_later (rangeAt_new wc _ 32) hb7; clear hb7))
          generalize wc.heap.size = G at hg7 ⊢
          go_cut [17] (fun s wx => ∃ v : Int, s = .int .i64 v ∧ Sel Fn k v ∧ T2 k a0 sa SB SV CB G w7.heap.size ck cn cf cl Fn Fl Ln fc id reason leaked gf gl gn w wx)
          case first =>
            go_wp2_with fail
            go_loopw [17, 18] (fun x i wx => ∃ m : Nat, m ≤ k ∧ i = .int .i64 m ∧ x = .int .i64 (-1) ∧ Hid (∀ j, j < m → insB (Fn j) = true) ∧ T2 k a0 sa SB SV CB G w7.heap.size ck cn cf cl Fn Fl Ln fc id reason leaked gf gl gn w wx) (fun _ i _ => k - (intOf i).toNat)
            case atStart => exact ⟨0, Nat.zero_le _, rfl, rfl, (fun j h => absurd h (by omega)), hT7.later (by go_grown), World.rangeAt_alloc hg7 _, rangeAt_new w7 (frL gf gl gn) 29⟩
            case round =>
              obtain ⟨m, hm, rfl, rfl, HJ, h2⟩ := hrel
              by_cases hlt : m < k
              · have c0 : wr.cell? ⟨SV, m * 3, none⟩ = some (.string (Fn m)) := h2.t1.sv m hlt 0 _ rfl
                have hfm := hfs'.out m hlt
                have i1 : (m : Int) < (k : Int) := by omega
                have hins := fun w => inside_any (Fn m) w hfm
                generalize hib : insB (Fn m) = ib at hins
                have HI : Hid _ := hins
                have HB : Hid _ := hib
                clear hins hib
                go_wp2_with fail
                refine (HI.out _).mono ?_
                rintro e w8 ⟨rfl, nd, rfl⟩
                cases ib
                · go_wp2_with fail
                  go_meet
                  case rel => exact ⟨m, rfl, .inr ⟨m, hlt, rfl, site_hit hlt HJ.out HB.out⟩, h2.later (below_drewN (Below.refl _ _) _)⟩
                · go_wp2_with fail
                  go_roundw
                  case rel => exact ⟨m + 1, by omega, by go_num, rfl, (fun j hj => by by_cases e : j = m; (subst e; exact HB.out); exact HJ.out j (by omega)), h2.later (below_drewN (Below.refl _ _) _)⟩
                  case measure => simp [intOf]; omega
              · obtain rfl : m = k := by omega
                go_wp2_with fail
                go_meet
                case rel => exact ⟨-1, rfl, .inl ⟨rfl, HJ.out⟩, h2⟩
          case rest =>
            obtain ⟨v, rfl, hsel, h2⟩ := hcut
            clear hT7 hg7 hT t0 t1 t2
            obtain ⟨wd, rfl⟩ : ∃ wd : World, wd = wc := ⟨_, rfl⟩
            have HS : Hid _ := hsel
            clear hsel
            go_upto_region 21 with fail
            go_cut [107] (fun s wx => ∃ bb : Bool, s = .bool bb ∧ (bb = true → v = -1 ∧ 0 < k) ∧ (bb = false → v = -1 → k = 0) ∧ wd = wx)
            case first =>
              rcases HS.out with ⟨rfl, _⟩ | ⟨m, hm, rfl, _⟩
              · by_cases hk0 : 0 < k
                · have hd : decide ((0 : Int) < (k : Int)) = true := decide_eq_true (by omega)
                  go_wp2_with fail
                  go_meet
                  case rel => exact ⟨true, rfl, (fun _ => ⟨by trivial, hk0⟩), (fun h => by cases h), rfl⟩
                · have hd : decide ((0 : Int) < (k : Int)) = false := decide_eq_false (by omega)
                  go_wp2_with fail
                  go_meet
                  case rel => exact ⟨false, rfl, (fun h => by cases h), (fun _ _ => by omega), rfl⟩
              · have hd : decide ((m : Int) < (0 : Int)) = false := decide_eq_false (by omega)
                go_wp2_with fail
                go_meet
                case rel => exact ⟨false, rfl, (fun h => by cases h), (fun _ h => by omega), rfl⟩
            case rest =>
              obtain ⟨bb, rfl, hb1, hb2, rfl⟩ := hcut
              have H1 : Hid _ := hb1
              have H2 : Hid _ := hb2
              clear hb1 hb2
              go_upto_if 107 with fail
              go_cut [17] (fun s wx => ∃ v2 : Int, s = .int .i64 v2 ∧ Sel2 Fn k v2 ∧ wd = wx)
              case first =>
                cases bb
                · go_wp2_with fail
                  go_meet
                  case rel =>
                    refine ⟨v, rfl, ?_, rfl⟩
                    rcases HS.out with ⟨e, _⟩ | h
                    · exact .inl ⟨e, H2.out trivial e⟩
                    · exact .inr h
                · go_wp2_with fail
                  go_meet
                  case rel =>
                    obtain ⟨e, hk0⟩ := H1.out trivial
                    refine ⟨0, rfl, .inr ⟨0, hk0, rfl, ?_⟩, rfl⟩
                    rcases HS.out with ⟨_, hall⟩ | ⟨m, _, e2, _⟩
                    · exact site_zero hk0 hall
                    · omega
              case rest =>
                obtain ⟨v2, rfl, hsel2, rfl⟩ := hcut
                have HS2 : Hid _ := hsel2
                clear hsel2 HS H1 H2
                go_upto_if 110 with fail
                go_cut [] (fun wx => T2 k a0 sa SB SV CB G w7.heap.size ck cn cf cl Fn Fl Ln fc id reason leaked gf gl gn w wx ∧ wx.rangeAt wd.heap.size 0 (frL gf gl gn))
                case first =>
                  rcases HS2.out with ⟨rfl, hk0⟩ | ⟨m, hm, rfl, hst⟩
                  · subst hk0
                    have hz : frL gf gl gn = frL ⟨#[]⟩ ⟨#[]⟩ 0 := by rw [← HG.out]; simp [siteL, site_none]
                    have HZ : Hid _ := hz
                    clear hz
                    go_wp2_with fail
                    go_meet
                    case rel => exact ⟨h2.later (by go_grown), by rw [HZ.out]; exact rangeAt_new wd (frL ⟨#[]⟩ ⟨#[]⟩ 0) 29⟩
                  · have hz : frL gf gl gn = frL (Fn m) (Fl m) (Ln m) := by rw [← HG.out]; simp [siteL, hst]
                    have HZ : Hid _ := hz
                    clear hz hst
                    have v0 : wd.cell? ⟨SV, m * 3, none⟩ = some (.string (Fn m)) := h2.t1.sv m hm 0 _ rfl
                    have v1 : wd.cell? ⟨SV, m * 3 + 1, none⟩ = some (.string (Fl m)) := h2.t1.sv m hm 1 _ rfl
                    have v2 : wd.cell? ⟨SV, m * 3 + 2, none⟩ = some (.int .i64 (Ln m)) := h2.t1.sv m hm 2 _ rfl
                    have hsl : SV < wd.heap.size := block_lt_of_cell v0
                    have i0 : (0 : Int) ≤ (m : Int) := by omega
                    have i1 : (m : Int) < (k : Int) := by omega
                    go_wp2_with fail
                    go_meet
                    case rel => exact ⟨h2.later (by go_grown), by rw [HZ.out]; exact rangeAt_new wd (frL (Fn m) (Fl m) (Ln m)) 29⟩
                case rest =>
                  obtain ⟨h3, hw3⟩ := hcut
                  clear HS2 HG
                  generalize wd.heap.size = WT at hw3 ⊢
                  generalize w7.heap.size = GT at h3 ⊢
                  have hnf := neq_fr
                  have hes := fun (w : World) (a : Option Addr) (n c n' c' : Nat) => Lib.run_eql_slice_nil (P := Yba.prog) w 26 _ a n c n' c' Yba.underlying26
                  have hes2 := fun (w : World) (a : Option Addr) (n c n' c' : Nat) => Lib.run_eql_slice_nil (P := Yba.prog) w 23 _ a n c n' c' Yba.underlying23
                  have nO := h3.t1.st.nil
                  have x0 : wc.cell? ⟨GT, 0, none⟩ = some (.string gf) := h3.got 0 _ rfl
                  have x1 : wc.cell? ⟨GT, 1, none⟩ = some (.string gl) := h3.got 1 _ rfl
                  have x2 : wc.cell? ⟨GT, 2, none⟩ = some (.int .i64 gn) := h3.got 2 _ rfl
                  have y0 : wc.cell? ⟨WT, 0, none⟩ = some (.string gf) := hw3 0 _ rfl
                  have y1 : wc.cell? ⟨WT, 1, none⟩ = some (.string gl) := hw3 1 _ rfl
                  have y2 : wc.cell? ⟨WT, 2, none⟩ = some (.int .i64 gn) := hw3 2 _ rfl
                  have g0 : wc.cell? ⟨G, 0, none⟩ = some (.int .u64 id) := h3.g 0 _ rfl
                  have g1 : wc.cell? ⟨G, 1, none⟩ = some (.string reason) := h3.g 1 _ rfl
                  have g2 : wc.cell? ⟨G, 2, none⟩ = some (.bool leaked) := h3.g 2 _ rfl
                  have g3 : wc.cell? ⟨G, 3, none⟩ = some (.slice sa k k) := h3.g 3 _ rfl
                  have g4 : wc.cell? ⟨G, 4, none⟩ = some (.string fc) := h3.g 4 _ rfl
                  have g5 : wc.cell? ⟨G, 5, none⟩ = some (.string cf) := h3.g 5 _ rfl
                  have g6 : wc.cell? ⟨G, 6, none⟩ = some (.int .i64 cl) := h3.g 6 _ rfl
                  have t0 : wc.cell? ⟨CB, 0, none⟩ = some (.string fc) := h3.t1.cb 0 _ rfl
                  have t1 : wc.cell? ⟨CB, 1, none⟩ = some (.string cf) := h3.t1.cb 1 _ rfl
                  have t2 : wc.cell? ⟨CB, 2, none⟩ = some (.int .i64 cl) := h3.t1.cb 2 _ rfl
                  go_wp2_with fail
                  go_quiet (fail)
                  go_wp2_with fail
                  clear x0 x1 x2 y0 y1 y2 g0 g1 g2 g3 g4 g5 g6 t0 t1 t2 nO hes hes2 hw3
                  go_loopw [20] (fun i wx => ∃ m : Nat, m ≤ k ∧ i = .int .i64 m ∧ T2 k a0 sa SB SV CB G GT ck cn cf cl Fn Fl Ln fc id reason leaked gf gl gn w wx) (fun i _ => k - (intOf i).toNat)
                  case atStart => exact ⟨0, Nat.zero_le _, rfl, h3.later (below_drewN (Below.refl _ _) _)⟩
                  case round =>
                    obtain ⟨m, hm, rfl, h4⟩ := hrel
                    by_cases hlt : m < k
                    · obtain rfl := h4.t1.st.ad (by omega)
                      have g3 : wr.cell? ⟨G, 3, none⟩ = some (.slice (some ⟨SB, 0, none⟩) k k) := h4.g 3 _ rfl
                      have v0 : wr.cell? ⟨SV, m * 3, none⟩ = some (.string (Fn m)) := h4.t1.sv m hlt 0 _ rfl
                      have v1 : wr.cell? ⟨SV, m * 3 + 1, none⟩ = some (.string (Fl m)) := h4.t1.sv m hlt 1 _ rfl
                      have v2 : wr.cell? ⟨SV, m * 3 + 2, none⟩ = some (.int .i64 (Ln m)) := h4.t1.sv m hlt 2 _ rfl
                      have s0 : wr.cell? ⟨SB, m * 3, none⟩ = some (.string (Fn m)) := h4.t1.st.frs m hlt 0 _ rfl
                      have s1 : wr.cell? ⟨SB, m * 3 + 1, none⟩ = some (.string (Fl m)) := h4.t1.st.frs m hlt 1 _ rfl
                      have s2 : wr.cell? ⟨SB, m * 3 + 2, none⟩ = some (.int .i64 (Ln m)) := h4.t1.st.frs m hlt 2 _ rfl
                      have i0 : (0 : Int) ≤ (m : Int) := by omega
                      have i1 : (m : Int) < (k : Int) := by omega
                      go_wp2_with fail
                      go_quiet (fail)
                      go_wp2_with fail
                      go_roundw
                      case rel => exact ⟨m + 1, by omega, by go_num, h4.later (below_drewN (Below.refl _ _) _)⟩
                      case measure => simp [intOf]; omega
                    · go_wp2_with fail
                      go_ret
                      exact ⟨rfl, h4.t1.st.below⟩
end Go.Proofs.Ybulkdrrk
