import Derived.Test.YbulkdrtaB1
namespace Go.Proofs.Ybulkdrta
open Go.RowKit Go.Maps Go.WideMaps Go.WideElems

theorem bytes_ne {a b : ByteArray} (h : a ≠ b) : (a.toList == b.toList) = false := by
  rw [← beq_toListBytes]
  obtain ⟨x⟩ := a
  obtain ⟨y⟩ := b
  show (x == y) = false
  simpa using h

/-- Strings that came in: the slice's address where it has an element, its cells, their sizes. -/
structure Strs (a : Option Addr) (n b off : Nat) (K : Nat → ByteArray) (w : World) : Prop where
  ad : 0 < n → a = some ⟨b, off, none⟩
  cell : ∀ j, j < n → w.cell? ⟨b, off + j, none⟩ = some (.string (K j))
  size : ∀ j, j < n → (K j).size ≤ maxLen

set_option maxRecDepth 100000 in
set_option maxHeartbeats 2000000 in
theorem lawB (ka va : Option Addr) (nk ck nv cv kb ko vb vo : Nat) (pick : Int) (key value : ByteArray) (K V : Nat → ByteArray) (w : World) (hn : nk ≤ 1048576) (hnv : nv ≤ maxLen) (hp0 : 0 ≤ pick) (hp1 : pick ≤ 255)
    (hk : key.size ≤ maxLen) (hv : value.size ≤ maxLen) (SK : Strs ka nk kb ko K w) (SV : Strs va nv vb vo V w) (hVe : ∀ j, nv ≤ j → V j = ⟨#[]⟩) :
    Calls Yba.prog 4 #[.slice ka nk ck, .slice va nv cv, .int .u8 pick, .string key, .string value] w fun e w' => e = .returned (.bool true) ∧ Below w.heap.size w w' := by
  unfold maxLen at hnv
  have HE : Hid _ := hVe
  clear hVe
  have mkm := run_makeMap_hint nk
  have hdn : decide ((1048576 : Int) < (nk : Int)) = false := decide_eq_false (by omega)
  obtain ⟨p, rfl⟩ := Int.eq_ofNat_of_zero_le hp0
  go_enter Yba.func4, Yba.ntmps4
  go_upto_region 3 with fail
  go_cut [33] (fun s wx => ∃ bb : Bool, s = .bool bb ∧ (bb = true → 0 < nk) ∧ w = wx)
  case first =>
    by_cases h1 : ((p : Int) % 2 == 1) = true
    · by_cases h2 : 0 < nk
      · have hd : decide ((0 : Int) < (nk : Int)) = true := decide_eq_true (by omega)
        go_wp2_with fail
        go_meet
        case rel => exact ⟨true, rfl, fun _ => h2, rfl⟩
      · have hd : decide ((0 : Int) < (nk : Int)) = false := decide_eq_false (by omega)
        go_wp2_with fail
        go_meet
        case rel => exact ⟨false, rfl, (fun h => by cases h), rfl⟩
    · have h1' : ((p : Int) % 2 == 1) = false := by simpa using h1
      go_wp2_with fail
      go_meet
      case rel => exact ⟨false, rfl, (fun h => by cases h), rfl⟩
  case rest =>
    obtain ⟨bb, rfl, hbb, rfl⟩ := hcut
    go_upto_if 33 with fail
    go_cut [3] (fun s wx => ∃ ky : ByteArray, s = .string ky ∧ ky.size ≤ maxLen ∧ w = wx)
    case first =>
      cases bb
      · go_wp2_with fail
        go_meet
        case rel => exact ⟨key, rfl, hk, rfl⟩
      · have hpos := hbb rfl
        clear hbb
        obtain rfl := SK.ad hpos
        have hlt : p / 2 % nk < nk := Nat.mod_lt _ hpos
        have c := SK.cell _ hlt
        have hc := SK.size _ hlt
        have hz : ((nk : Int) == 0) = false := by simp; omega
        have hi1 : (p : Int) / 2 % (nk : Int) < (nk : Int) := Int.emod_lt_of_pos _ (by omega)
        have hi0 : 0 ≤ (p : Int) / 2 % (nk : Int) := Int.emod_nonneg _ (by omega)
        go_wp2_with fail
        go_meet
        case rel => exact ⟨_, rfl, hc, rfl⟩
    case rest =>
      obtain ⟨ky, rfl, hky, rfl⟩ := hcut
      clear hk hbb
      go_wp2_with fail
      clear mkm
      go_loopw [51] (fun i wr => ∃ k : Nat, k ≤ nk ∧ i = .int .i64 k ∧ OM wr w.heap.size k (Dm K V k) ∧ OM wr (w.heap.size + 1) k (Dm K V k) ∧ Below w.heap.size w wr) (fun i _ => nk - (intOf i).toNat)
      case atStart =>
        refine ⟨0, Nat.zero_le _, rfl, (World.ownsMap_made w _ _ _).alloc _, ?_, by go_grown⟩
        have := World.ownsMap_made (w.alloc (.map #[] 0)) Yba.prog 9 (plainElem (H := Unit) Yba.prog 9)
        rwa [World.size_alloc] at this
      case round =>
        obtain ⟨k, hk, rfl, o1, o2, hB⟩ := hrel
        by_cases hlt : k < nk
        · obtain rfl := SK.ad (by omega)
          have c := cell_later hB (SK.cell k hlt)
          have hc := SK.size k hlt
          have hkm : k < maxLen := by unfold maxLen; omega
          by_cases hv1 : k < nv
          · obtain rfl := SV.ad (by omega)
            have cv' := cell_later hB (SV.cell k hv1)
            have hcv := SV.size k hv1
            go_wp2_with (first
              | ((with_reducible refine wpList_put_lit (.tmp 64) (.tmp 65) (.tmp 66) w.heap.size k (Dm K V k) (K k) (V k) ?_ ?_ ?_ o1 hkm hc hcv ?_); simp [Act.eval]; simp [Act.eval]; simp [Act.eval]; intro w1 o1' g1; have o2' := o2.kept g1 (by simp))
              | ((with_reducible refine wpList_put_lit (.tmp 67) (.tmp 68) (.tmp 69) (w.heap.size + 1) k (Dm K V k) (K k) (V k) ?_ ?_ ?_ o2' hkm hc hcv ?_); simp [Act.eval]; simp [Act.eval]; simp [Act.eval]; intro w2 o2'' g2; have o1'' := o1'.kept g2 (by simp)))
            go_roundw
            case rel => exact ⟨k + 1, by omega, by go_num, o1'', o2'', (hB.grown g1 hB.size (fun j hj => by cases hj; exact Nat.le_refl _)).grown g2 (Nat.le_trans hB.size g1.size) (fun j hj => by cases hj; exact Nat.le_succ _)⟩
            case measure => simp [intOf]; omega
          · have hve := HE.out k (by omega)
            have hem : (⟨#[]⟩ : ByteArray).size ≤ maxLen := by decide
            have HV : Hid _ := hve
            clear hve
            go_wp2_with (first
              | ((with_reducible refine wpList_put_lit (.tmp 64) (.tmp 65) (.tmp 66) w.heap.size k (Dm K V k) (K k) ⟨#[]⟩ ?_ ?_ ?_ o1 hkm hc hem ?_); simp [Act.eval]; simp [Act.eval]; simp [Act.eval]; intro w1 o1' g1; have o2' := o2.kept g1 (by simp))
              | ((with_reducible refine wpList_put_lit (.tmp 67) (.tmp 68) (.tmp 69) (w.heap.size + 1) k (Dm K V k) (K k) ⟨#[]⟩ ?_ ?_ ?_ o2' hkm hc hem ?_); simp [Act.eval]; simp [Act.eval]; simp [Act.eval]; intro w2 o2'' g2; have o1'' := o1'.kept g2 (by simp)))
            go_roundw
            case rel => exact ⟨k + 1, by omega, by go_num, by rw [Dm, HV.out]; exact o1'', by rw [Dm, HV.out]; exact o2'', (hB.grown g1 hB.size (fun j hj => by cases hj; exact Nat.le_refl _)).grown g2 (Nat.le_trans hB.size g1.size) (fun j hj => by cases hj; exact Nat.le_succ _)⟩
            case measure => simp [intOf]; omega
        · obtain rfl : k = nk := by omega
          have Hhas := Dm_has K V k
          have Htid := Dm_tidy K V k
          have Hmap := Dm_isMap K V k
          generalize hD : Dm K V k = D at o1 o2 Hhas Htid Hmap
          have HH : Hid _ := Hhas
          clear Hhas hD
          obtain ⟨sb, hsb, eb, run1⟩ := lookOk o2 hky
          have EB : Hid _ := eb
          clear eb
          go_upto_if 83 with (first
            | ((with_reducible refine wpList_len_lit (.tmp 77) (w.heap.size + 1) k D ?_ o2 ?_); simp [Act.eval])
            | (go_at_call 6; refine (addFirst_any ky value _ o1 hky hv (by unfold maxLen; omega)).mono ?_; rintro e w7 ⟨rfl, o1', g1⟩; have o2' := o2.kept g1 (by simp); have hB7 := hB.grown g1 hB.size (fun j hj => by cases hj; exact Nat.le_refl _)))
          clear run1
          go_cut [16, 17, 18] (fun _ _ _ wx => w7 = wx)
          case first =>
            obtain ⟨s1, hs1, e1, run2⟩ := lookS o1' hky
            have E1 : Hid _ := e1
            clear e1
            rcases Bool.eq_false_or_eq_true (Maps.has D (kS ky)) with hh | hh <;> rw [hh]
            · have hsz : Maps.size (addD D ky value) = Maps.size D := by simp [addD, hh]
              have he : s1 = sb := dS_inj (by rw [E1.out, EB.out]; simp [addD, hh])
              rw [he] at run2
              clear he
              go_wp2_with (first
                | ((with_reducible refine wpList_len_lit (.tmp 84) w.heap.size (k + 1) (addD D ky value) ?_ o1' ?_); simp [Act.eval]; rw [hsz]))
              go_meet
              case rel => rfl
            · have hsz : Maps.size (addD D ky value) = Maps.size D + 1 := by simp [addD, hh, size_put Htid]
              have he : s1 = value := dS_inj (by rw [E1.out]; simp only [addD, hh]; exact atKey_put_same Hmap (isKey9 _) _ _)
              rw [he] at run2
              clear he
              have hle := o2'.size_le
              go_wp2_with (first
                | ((with_reducible refine wpList_len_lit (.tmp 95) w.heap.size (k + 1) (addD D ky value) ?_ o1' ?_); simp [Act.eval]; rw [hsz]))
              go_meet
              case rel => rfl
          case rest =>
            obtain rfl := hcut
            clear EB
            go_wp2_with fail
            go_loopw [109] (fun i wx => ∃ m : Nat, m ≤ k ∧ i = .int .i64 m ∧ w7 = wx) (fun i _ => k - (intOf i).toNat)
            case atStart => exact ⟨0, Nat.zero_le _, rfl, rfl⟩
            case round =>
              obtain ⟨m, hm, rfl, rfl⟩ := hrel
              by_cases hlt : m < k
              · obtain rfl := SK.ad (by omega)
                have c := cell_later hB7 (SK.cell m hlt)
                by_cases hke : K m = ky
                · have hbq : ((K m).toList == ky.toList) = true := by simp [hke]
                  have HK : Hid _ := hke
                  clear hke
                  go_wp2_with fail
                  go_roundw
                  case rel => exact ⟨m + 1, by omega, by go_num, by trivial⟩
                  case measure => simp [intOf]; omega
                · have hbq : ((K m).toList == ky.toList) = false := bytes_ne hke
                  obtain ⟨s1, hs1, e1, run1⟩ := lookOk o1' (SK.size m hlt)
                  obtain ⟨s2, hs2, e2, run2⟩ := lookS o2' (SK.size m hlt)
                  have he : s1 = s2 := dS_inj (by rw [e1, e2]; exact addD_other hke _)
                  rw [he, addD_has hke, HH.out m hlt] at run1
                  clear e1 e2 he hke
                  go_wp2_with fail
                  go_roundw
                  case rel => exact ⟨m + 1, by omega, by go_num, by trivial⟩
                  case measure => simp [intOf]; omega
              · go_wp2_with fail
                go_ret
                exact ⟨rfl, hB7⟩
end Go.Proofs.Ybulkdrta
