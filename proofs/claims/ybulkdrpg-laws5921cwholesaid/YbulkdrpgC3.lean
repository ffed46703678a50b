import Derived.Test.YbulkdrpgCe
import Derived.Deep.DeepCutAuto
import Derived.Deep.DeepMust
namespace Go.Proofs.Ybulkdrpg
open Go.RowKit

set_option maxRecDepth 100000 in
set_option maxHeartbeats 4000000 in
theorem lawC (oc ot os : Int) (otr ogr : Bool) (a0 : Option Addr) (n cap b off : Nat) (tok sl la : Int) (C T S : Nat → Int) (Tr Gr : Nat → Bool) (w : World)
    (hn : n ≤ 1048576) (h0 : 0 < n → a0 = some ⟨b, off, none⟩)
    (hq : ∀ j, j < n → w.rangeAt b (off + j * 5) [.int .u64 (C j), .int .i64 (T j), .bool (Tr j), .bool (Gr j), .int .u64 (S j)]) :
    Calls Yba.prog 4 #[.int .u64 oc, .int .i64 ot, .bool otr, .bool ogr, .int .u64 os, .slice a0 n cap, .int .u64 tok, .int .i64 sl, .int .i64 la] w fun e w' => e = .returned (.bool true) ∧ Below w.heap.size w w' := by
  have HA : Hid (0 < n → a0 = some ⟨b, off, none⟩) := h0
  have HQ : Hid (∀ j, j < n → w.rangeAt b (off + j * 5) [.int .u64 (C j), .int .i64 (T j), .bool (Tr j), .bool (Gr j), .int .u64 (S j)]) := hq
  clear h0 hq
  have mk45 := run_make_any (P := Yba.prog) 45 63 (.pointer none) 1 8 Yba.underlying45 Yba.info63 .i64 .i64 n (by omega) (by omega)
  have mk44 := run_make_any (P := Yba.prog) 44 63 (.pointer none) 1 8 Yba.underlying44 Yba.info63 .i64 .i64 n (by omega) (by omega)
  have mk46 := run_make_any (P := Yba.prog) 46 62 (.agg ent0) 10 72 Yba.underlying46 Yba.info62 .i64 .i64 n (by omega) (by omega)
  have hdn : decide ((1048576 : Int) < (n : Int)) = false := decide_eq_false (by omega)
  go_enter Yba.func4, Yba.ntmps4
  go_wp2_with fail
  clear mk45 mk46
  go_loopw [22] (fun i wr => ∃ k : Nat, k ≤ n ∧ i = .int .i64 k ∧ Built w.heap.size b off n k C T S Tr Gr w wr) (fun i _ => n - (intOf i).toNat)
  case atStart => exact ⟨0, Nat.zero_le _, rfl, built_start w b off n C T S Tr Gr _ _⟩
  case round =>
    obtain ⟨k, hk, rfl, hB⟩ := hrel
    by_cases hlt : k < n
    · have ha := HA.out (by omega)
      subst ha
      have hr0 := HQ.out k hlt
      have c0 : wr.cell? ⟨b, off + k * 5, none⟩ = some (.int .u64 (C k)) := cell_later hB.below (hr0 0 _ rfl)
      have c1 : wr.cell? ⟨b, off + k * 5 + 1, none⟩ = some (.int .i64 (T k)) := cell_later hB.below (hr0 1 _ rfl)
      have c2 : wr.cell? ⟨b, off + k * 5 + 2, none⟩ = some (.bool (Tr k)) := cell_later hB.below (hr0 2 _ rfl)
      have c3 : wr.cell? ⟨b, off + k * 5 + 3, none⟩ = some (.bool (Gr k)) := cell_later hB.below (hr0 3 _ rfl)
      have c4 : wr.cell? ⟨b, off + k * 5 + 4, none⟩ = some (.int .u64 (S k)) := cell_later hB.below (hr0 4 _ rfl)
      clear hr0
      have hV2 : wr.there (w.heap.size + 1) (k * 10) 10 := fun j hj => by
        have := hB.thereV (k * 10 + j) (by omega)
        simpa using this
      go_wp2_with (first
        | ((with_reducible refine wpList_store_hid 62 (.tmp 68) (.tmp 67) (w.heap.size + 1) (k * 10) (entL (C k) (T k) (S k) (Tr k) (Gr k) k).toArray 10 ?_ ?_ ?_ Yba.size62 (entL_size _ _ _ _ _ _) (entL_one _ _ _ _ _ _) ?_); simp [Act.eval]; simp [Act.eval, entL]; exact World.there_alloc (World.there_alloc hV2 _) _; intro w2 hw2 hs2; obtain ⟨hE2, ⟨u2, hp2⟩, hf2⟩ := after_store hB hlt _ _ hw2.out)
        | ((with_reducible refine wpList_load_lit 62 (.tmp 24) (wr.heap.size + 1) 0 [.int .u64 (C k), .int .i64 (T k), .int .u64 0, .int .u64 0, .pointer none, .int .u16 0, .int .u64 (S k), .bool (Tr k), .bool (Gr k), .int .i64 k] _ 10 ?_ ?_ Yba.underlying62 rfl Yba.size62 rfl ?_); simp [Act.eval]; exact World.rangeAt_alloc hE2 _))
      go_roundw
      case rel => exact ⟨k + 1, by omega, by go_num, built_step hB hlt _ hw2.out⟩
      case measure => simp [intOf]; omega
    · obtain rfl : k = n := by omega
      have hbel := hB.below
      have hsz := hB.size
      have hwr : Hid (wr.heap.size = w.heap.size + 2 + 3 * k) := hsz
      clear hsz
      have hcp : ∀ j v, (ptrL w.heap.size k)[j]? = some v → ∀ o, (wr.alloc o).cell? ((⟨w.heap.size, 0, none⟩ : Addr).add j) = some v := fun j v hv o => by
        have hj : j < k := by have := (List.getElem?_eq_some_iff.1 hv).1; rwa [ptrL_len] at this
        rw [ptrL_get _ _ _ hj] at hv
        rw [Addr.add_mid, Nat.zero_add, ← hv]
        exact cell_later (by go_grown) (hB.ptr j hj)
      have HC := (show Hid _ from hcp)
      clear hcp
      go_upto_if 100 with (first
        | ((with_reducible refine wpList_copy_lit (.tmp 79) (.tmp 80) 44 45 63 Yba.underlying44 Yba.size63 (some ⟨wr.heap.size, 0, none⟩) (some ⟨w.heap.size, 0, none⟩) k k k k ?_ ?_ wr.heap.size 0 (madeCells #[.pointer none] k).toList 63 ?_ (ptrL w.heap.size k) ?_ ?_ ?_ (ptrL_one _ _) wr.heap.size wr ?_ (Nat.le_refl _) ?_); go_must (simp [Act.eval]; simp [Act.eval]; simpa using heap_alloc_new wr _; simp [ptrL_len]; exact fun _ => ⟨rfl, _, rfl, fun j v hv => HC.out j v hv _⟩; simp [ptrL_len, size_madeCells]; go_grown; intro w5 hg5 hb5))
        | (go_at_call 10; go_must (have hR5 := ready_made oc ot os otr ogr tok sl la hB _ (by simp [size_madeCells]) hg5.out hb5; refine (watcher_ready hR5).mono ?_; rintro e w6 ⟨rfl, hb6⟩; have hR6 := hR5.later (Nat.le_refl _) hb6; clear hR5 hb6 HC mk44)))
      go_cut [30] (fun s wx => s = .pointer (wantA ogr k (C 0) (T 0) oc ot (Tr 0) (w5.heap.size + 1) (w.heap.size + 4)) ∧ Ready w.heap.size k wr.heap.size w5.heap.size (w5.heap.size + 1) C T S Tr Gr oc ot os otr ogr tok sl la w wx)
      case first =>
        cases ogr
        · by_cases hk0 : k = 0
          · subst hk0
            have hw1 : wantA false 0 (C 0) (T 0) oc ot (Tr 0) (w5.heap.size + 1) (w.heap.size + 4) = some ⟨w5.heap.size + 1, 0, none⟩ := by simp [wantA]
            have Hw : Hid _ := hw1
            clear hw1
            go_wp2
            go_meet
            case rel => exact ⟨by rw [Hw.out], hR6⟩
          · obtain rfl := HA.out (by omega)
            have hr0 := HQ.out 0 (by omega)
            have hbw := hR6.below
            have c0 : w6.cell? ⟨b, off, none⟩ = some (.int .u64 (C 0)) := cell_later hbw (by simpa using hr0 0 _ rfl)
            have c1 : w6.cell? ⟨b, off + 1, none⟩ = some (.int .i64 (T 0)) := cell_later hbw (by simpa using hr0 1 _ rfl)
            have c2 : w6.cell? ⟨b, off + 2, none⟩ = some (.bool (Tr 0)) := cell_later hbw (by simpa using hr0 2 _ rfl)
            have c3 : w6.cell? ⟨b, off + 3, none⟩ = some (.bool (Gr 0)) := cell_later hbw (by simpa using hr0 3 _ rfl)
            have c4 : w6.cell? ⟨b, off + 4, none⟩ = some (.int .u64 (S 0)) := cell_later hbw (by simpa using hr0 4 _ rfl)
            have hblt : b < w6.heap.size := block_lt_of_cell c0
            have hkp : (0 : Int) < (k : Int) := by omega
            have pt0 : w6.cell? ⟨wr.heap.size, 0, none⟩ = some (.pointer (some ⟨w.heap.size + 4, 0, none⟩)) := hR6.ptr 0 (by omega)
            have hptlt : wr.heap.size < w6.heap.size := block_lt_of_cell pt0
            clear hr0 hbw
            by_cases hc : cmpR (C 0) (T 0) oc ot < 0
            · have hcc := (cmpR_lt (C 0) (T 0) oc ot).1 hc
              have hw1 : wantA false k (C 0) (T 0) oc ot (Tr 0) (w5.heap.size + 1) (w.heap.size + 4) = if Tr 0 then some ⟨w.heap.size + 4, 0, none⟩ else none := by simp [wantA, hk0, hc]
              have Hw : Hid _ := hw1
              clear hw1 hc
              by_cases h1 : T 0 < ot
              · have d1 : decide (T 0 < ot) = true := decide_eq_true h1
                clear hcc h1
                rcases Bool.eq_false_or_eq_true (Tr 0) with hT | hT
                all_goals
                  rw [hT] at c2 Hw
                  have HT : Hid (Tr 0 = _) := hT
                  clear hT
                  go_wp2
                  go_meet
                  case rel => exact ⟨by rw [HT.out, Hw.out]; rfl, hR6.later (Nat.le_refl _) (by go_grown)⟩
              · have d1 : decide (T 0 < ot) = false := decide_eq_false h1
                obtain ⟨h2, h3⟩ : T 0 = ot ∧ C 0 < oc := by rcases hcc with h | h; exact absurd h h1; exact h
                have b2 : (T 0 == ot) = true := by simpa using h2
                have d3 : decide (C 0 < oc) = true := decide_eq_true h3
                clear hcc h1 h2 h3
                rcases Bool.eq_false_or_eq_true (Tr 0) with hT | hT
                all_goals
                  rw [hT] at c2 Hw
                  have HT : Hid (Tr 0 = _) := hT
                  clear hT
                  go_wp2
                  go_meet
                  case rel => exact ⟨by rw [HT.out, Hw.out]; rfl, hR6.later (Nat.le_refl _) (by go_grown)⟩
            · have hcc := fun h => hc ((cmpR_lt (C 0) (T 0) oc ot).2 h)
              have hw1 : wantA false k (C 0) (T 0) oc ot (Tr 0) (w5.heap.size + 1) (w.heap.size + 4) = some ⟨w5.heap.size + 1, 0, none⟩ := by simp [wantA, hc]
              have Hw : Hid _ := hw1
              clear hw1 hc
              have h1 : ¬ T 0 < ot := fun h => hcc (.inl h)
              have d1 : decide (T 0 < ot) = false := decide_eq_false h1
              by_cases h2 : T 0 = ot
              · have h3 : ¬ C 0 < oc := fun h => hcc (.inr ⟨h2, h⟩)
                have b2 : (T 0 == ot) = true := by simpa using h2
                have d3 : decide (C 0 < oc) = false := decide_eq_false h3
                clear hcc h1 h2 h3
                go_wp2
                go_meet
                case rel => exact ⟨by rw [Hw.out], hR6.later (Nat.le_refl _) (by go_grown)⟩
              · have b2 : (T 0 == ot) = false := by simpa using h2
                clear hcc h1 h2
                go_wp2
                go_meet
                case rel => exact ⟨by rw [Hw.out], hR6.later (Nat.le_refl _) (by go_grown)⟩
        · have hw1 : wantA true k (C 0) (T 0) oc ot (Tr 0) (w5.heap.size + 1) (w.heap.size + 4) = none := by simp [wantA]
          have Hw : Hid _ := hw1
          clear hw1
          go_wp2
          go_meet
          case rel => exact ⟨by rw [Hw.out], hR6⟩
      case rest =>
        obtain ⟨rfl, hRc⟩ := hcut
        have hnp := neq_ptr63
        have hne := neq_ent
        have hnm : ∀ w, (binOp .neq 65 (.map none) (.map none)).run Yba.prog w = .ok (.bool false) w := fun w => run_neq_map_nil (P := Yba.prog) w 65 _ _ none Yba.underlying65
        have l0 := hRc.lock 0 _ rfl
        have l1 := hRc.lock 1 _ rfl
        have l2 := hRc.lock 2 _ rfl
        have l3 := hRc.lock 3 _ rfl
        have l4 := hRc.lock 4 _ rfl
        have l5 := hRc.lock 5 _ rfl
        have l6 := hRc.lock 6 _ rfl
        have l7 := hRc.lock 7 _ rfl
        have l8 := hRc.lock 8 _ rfl
        have l9 := hRc.lock 9 _ rfl
        have l10 := hRc.lock 10 _ rfl
        have l11 := hRc.lock 11 _ rfl
        have l12 := hRc.lock 12 _ rfl
        have l13 := hRc.lock 13 _ rfl
        have l14 := hRc.lock 14 _ rfl
        have o0 := hRc.own 0 _ rfl
        have o1 := hRc.own 1 _ rfl
        have o2 := hRc.own 2 _ rfl
        have o3 := hRc.own 3 _ rfl
        have o4 := hRc.own 4 _ rfl
        have o5 := hRc.own 5 _ rfl
        have o6 := hRc.own 6 _ rfl
        have o7 := hRc.own 7 _ rfl
        have o8 := hRc.own 8 _ rfl
        have o9 := hRc.own 9 _ rfl
        simp only [Nat.zero_add] at l0 l1 l2 l3 l4 l5 l6 l7 l8 l9 l10 l11 l12 l13 l14 o0 o1 o2 o3 o4 o5 o6 o7 o8 o9
        go_wp2_with fail
        go_quiet (fail)
        go_wp2_with fail
        clear hnm l0 l1 l2 l3 l4 l5 l6 l7 l8 l9 l10 l12 l13 l14 l11 o0 o1 o2 o3 o4 o5 o6 o7 o8 o9
        go_loopw [33] (fun i wx => ∃ m : Nat, m ≤ k ∧ i = .int .i64 m ∧ Ready w.heap.size k wr.heap.size w5.heap.size (w5.heap.size + 1) C T S Tr Gr oc ot os otr ogr tok sl la w wx) (fun i _ => k - (intOf i).toNat)
        case atStart => exact ⟨0, Nat.zero_le _, rfl, hRc.later (Nat.le_refl _) (below_drewN (Below.refl _ _) _)⟩
        case round =>
          obtain ⟨m, hm, rfl, hR⟩ := hrel
          rename_i wy
          by_cases hlt : m < k
          · have q0 := hR.ptr m hlt
            have q1 := hR.hp m hlt
            have l11 := hR.lock 11 _ rfl
            have v0 := hR.val m hlt 0 _ rfl
            have v1 := hR.val m hlt 1 _ rfl
            have v2 := hR.val m hlt 2 _ rfl
            have v3 := hR.val m hlt 3 _ rfl
            have v4 := hR.val m hlt 4 _ rfl
            have v5 := hR.val m hlt 5 _ rfl
            have v6 := hR.val m hlt 6 _ rfl
            have v7 := hR.val m hlt 7 _ rfl
            have v8 := hR.val m hlt 8 _ rfl
            have v9 := hR.val m hlt 9 _ rfl
            have e0 := hR.ent m hlt 0 _ rfl
            have e1 := hR.ent m hlt 1 _ rfl
            have e2 := hR.ent m hlt 2 _ rfl
            have e3 := hR.ent m hlt 3 _ rfl
            have e4 := hR.ent m hlt 4 _ rfl
            have e5 := hR.ent m hlt 5 _ rfl
            have e6 := hR.ent m hlt 6 _ rfl
            have e7 := hR.ent m hlt 7 _ rfl
            have e8 := hR.ent m hlt 8 _ rfl
            have e9 := hR.ent m hlt 9 _ rfl
            simp only [Nat.zero_add, Nat.add_zero] at l11 v0 e0 e1 e2 e3 e4 e5 e6 e7 e8 e9
            have i0 : (0 : Int) ≤ (m : Int) := by omega
            have i1 : (m : Int) < (k : Int) := by omega
            go_wp2_with fail
            go_quiet (fail)
            go_wp2_with fail
            go_roundw
            case rel => exact ⟨m + 1, by omega, by go_num, hR.later (Nat.le_refl _) (below_drewN (Below.refl _ _) _)⟩
            case measure => simp [intOf]; omega
          · go_wp2
            go_ret
            exact ⟨rfl, hR.below⟩
end Go.Proofs.Ybulkdrpg
