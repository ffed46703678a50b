import Derived.Test.YbulkdrrkK2
namespace Go.Proofs.Ybulkdrrk
open Go.RowKit

/-- A frame's cells. -/
def frL (f l : ByteArray) (n : Int) : List Value := [.string f, .string l, .int .i64 n]
theorem frL_len (f l : ByteArray) (n : Int) : (frL f l n).length = 3 := rfl
theorem frL_size (f l : ByteArray) (n : Int) : (frL f l n).toArray.size = 3 := rfl
theorem frL_one (f l : ByteArray) (n : Int) : (frL f l n).toArray.all (·.oneCell') = true := by simp [frL, Value.oneCell']

/-- The frame that is chosen: the first one outside; else the first; else none. -/
def site (Fn : Nat → ByteArray) (n : Nat) : Option Nat :=
  match (List.range n).find? (fun j => !insB (Fn j)) with
  | some j => some j
  | none => if 0 < n then some 0 else none
theorem find_hit {F : Nat → Bool} {n k : Nat} (hk : k < n) (h : ∀ j, j < k → F j = false) (hF : F k = true) : (List.range n).find? F = some k := by
  rw [List.find?_eq_some_iff_append]
  refine ⟨hF, List.range k, (List.range' (k + 1) (n - k - 1)), ?_, ?_⟩
  · rw [show k :: List.range' (k + 1) (n - k - 1) = List.range' k (n - k) from by
      rw [show n - k = (n - k - 1) + 1 from by omega, List.range'_succ]; rfl]
    rw [List.range_eq_range', List.range_eq_range']
    have := List.range'_append_1 (s := 0) (m := k) (n := n - k)
    rw [Nat.zero_add] at this
    rw [this]
    congr 1; omega
  · intro a ha
    rw [h a (by simpa using ha)]; rfl
theorem find_miss {F : Nat → Bool} {n : Nat} (h : ∀ j, j < n → F j = false) : (List.range n).find? F = none := by
  rw [List.find?_eq_none]
  intro j hj
  rw [h j (by simpa using hj)]; simp
theorem site_hit {Fn : Nat → ByteArray} {n k : Nat} (hk : k < n) (h : ∀ j, j < k → insB (Fn j) = true) (hF : insB (Fn k) = false) : site Fn n = some k := by
  unfold site; rw [find_hit hk (fun j hj => by simp [h j hj]) (by simp [hF])]
theorem site_zero {Fn : Nat → ByteArray} {n : Nat} (h0 : 0 < n) (h : ∀ j, j < n → insB (Fn j) = true) : site Fn n = some 0 := by
  unfold site; rw [find_miss (fun j hj => by simp [h j hj])]; simp [h0]
theorem site_none {Fn : Nat → ByteArray} : site Fn 0 = none := by simp [site]

/-- Its cells. -/
def siteL (Fn Fl : Nat → ByteArray) (Ln : Nat → Int) (n : Nat) : List Value :=
  match site Fn n with
  | some j => frL (Fn j) (Fl j) (Ln j)
  | none => frL ⟨#[]⟩ ⟨#[]⟩ 0

theorem Yba.size29 : (Yba.prog.info? 29).map (·.size) = some 3 := by kernel_rfl

/-- Behind the store into the result's variable. -/
theorem after_res {w wr wx w2 : World} {f l : ByteArray} {n : Int} (hB : Below w.heap.size w wr) (ht : wx.there w.heap.size 0 3) (hx : Below wr.heap.size wr wx) (h : w2 = wx.setCells w.heap.size 0 (frL f l n)) :
    w2.cell? ⟨w.heap.size, 0, none⟩ = some (.string f) ∧ w2.cell? ⟨w.heap.size, 1, none⟩ = some (.string l) ∧ w2.cell? ⟨w.heap.size, 2, none⟩ = some (.int .i64 n) ∧ Below w.heap.size w w2 := by
  have hr : w2.rangeAt w.heap.size 0 (frL f l n) := by rw [h]; exact World.rangeAt_setCells_same _ _ _ _ ht
  refine ⟨hr 0 _ rfl, hr 1 _ rfl, hr 2 _ rfl, ?_⟩
  rw [h]
  exact below_setCells (hB.trans (hx.mono hB.size)) (Nat.le_refl _) _

set_option maxHeartbeats 1000000 in
theorem blocking_any (G SB n : Nat) (sa : Option Addr) (Fn Fl : Nat → ByteArray) (Ln : Nat → Int) (w : World) (hn : n ≤ 1048576) (h0 : 0 < n → sa = some ⟨SB, 0, none⟩) (hfs : ∀ j, j < n → (Fn j).size ≤ maxLen)
    (hl : w.cell? ⟨G, 3, none⟩ = some (.slice sa n n)) (hr : ∀ j, j < n → w.rangeAt SB (j * 3) (frL (Fn j) (Fl j) (Ln j))) :
    Calls Yba.prog 5 #[.pointer (some ⟨G, 0, none⟩)] w fun e w' => e = .returned (.agg (siteL Fn Fl Ln n).toArray) ∧ Below w.heap.size w w' := by
  have HA : Hid _ := h0
  have HR : Hid _ := hr
  have HF : Hid _ := hfs
  clear h0 hr hfs
  have hglt : G < w.heap.size := block_lt_of_cell hl
  go_enter Yba.func5, Yba.ntmps5
  go_wp2_with fail
  go_loopw [10] (fun i wr => ∃ k : Nat, k ≤ n ∧ i = .int .i64 k ∧ Hid (∀ j, j < k → insB (Fn j) = true) ∧ Below w.heap.size w wr ∧ w.heap.size < wr.heap.size ∧ wr.rangeAt w.heap.size 0 (frL ⟨#[]⟩ ⟨#[]⟩ 0) ∧ wr.there w.heap.size 0 3) (fun i _ => n - (intOf i).toNat)
  case atStart =>
    refine ⟨0, Nat.zero_le _, rfl, fun j h => absurd h (by omega), by go_grown, by simp, ?_, ?_⟩
    · exact rangeAt_new w (frL ⟨#[]⟩ ⟨#[]⟩ 0) 29
    · intro j hj
      match j, hj with
      | 0, _ => simp
      | 1, _ => simp
      | 2, _ => simp
  case round =>
    obtain ⟨k, hk, rfl, HJ, hB, hlt0, hz, ht⟩ := hrel
    by_cases hlt : k < n
    · obtain rfl := HA.out (by omega)
      have hr0 := HR.out k hlt
      have c0 : wr.cell? ⟨SB, k * 3, none⟩ = some (.string (Fn k)) := cell_later hB (hr0 0 _ rfl)
      have c1 : wr.cell? ⟨SB, k * 3 + 1, none⟩ = some (.string (Fl k)) := cell_later hB (hr0 1 _ rfl)
      have c2 : wr.cell? ⟨SB, k * 3 + 2, none⟩ = some (.int .i64 (Ln k)) := cell_later hB (hr0 2 _ rfl)
      clear hr0
      have p1 := fun w => hasPrefix_any (Fn k) ⟨#[114, 117, 110, 116, 105, 109, 101, 46]⟩ w (HF.out k hlt) (by decide)
      have p2 := fun w => hasPrefix_any (Fn k) ⟨#[115, 121, 110, 99, 46]⟩ w (HF.out k hlt) (by decide)
      have p3 := fun w => hasPrefix_any (Fn k) ⟨#[105, 110, 116, 101, 114, 110, 97, 108, 47]⟩ w (HF.out k hlt) (by decide)
      have hins : insB (Fn k) = (hasB (Fn k) ⟨#[114, 117, 110, 116, 105, 109, 101, 46]⟩ || (hasB (Fn k) ⟨#[115, 121, 110, 99, 46]⟩ || hasB (Fn k) ⟨#[105, 110, 116, 101, 114, 110, 97, 108, 47]⟩)) := rfl
      generalize hasB (Fn k) ⟨#[114, 117, 110, 116, 105, 109, 101, 46]⟩ = b1 at p1 hins
      generalize hasB (Fn k) ⟨#[115, 121, 110, 99, 46]⟩ = b2 at p2 hins
      generalize hasB (Fn k) ⟨#[105, 110, 116, 101, 114, 110, 97, 108, 47]⟩ = b3 at p3 hins
      have P1 : Hid _ := p1
      have P2 : Hid _ := p2
      have P3 : Hid _ := p3
      have HI : Hid _ := hins
      clear p1 p2 p3 hins
      go_wp2_with fail
      refine (P1.out _).mono ?_
      rintro e w1 ⟨rfl, rfl⟩
      cases b1
      · go_wp2_with fail
        refine (P2.out _).mono ?_
        rintro e w1 ⟨rfl, rfl⟩
        cases b2
        · go_wp2_with fail
          refine (P3.out _).mono ?_
          rintro e w1 ⟨rfl, rfl⟩
          cases b3
          · go_wp2_with ((with_reducible refine wpList_store_hid 29 (.tmp 2) (.tmp 30) w.heap.size 0 (frL (Fn k) (Fl k) (Ln k)).toArray 3 ?_ ?_ ?_ Yba.size29 (frL_size _ _ _) (frL_one _ _ _) ?_); simp [Act.eval]; simp [Act.eval, frL]; exact World.there_alloc ht _; intro w2 hw2 hs2; obtain ⟨r0, r1, r2, hb2⟩ := after_res hB (World.there_alloc ht _) (by go_grown) hw2.out)
            refine bodyPost_ret (v := .agg #[.string (Fn k), .string (Fl k), .int .i64 (Ln k)]) (by simp [results, Yba.results5, go_sem, r0, r1, r2]) rfl ⟨?_, hb2⟩
            have hsk : site Fn n = some k := site_hit hlt HJ.out (by rw [HI.out]; rfl)
            simp [siteL, hsk, frL]
          · go_wp2_with fail
            go_roundw
            case rel => exact ⟨k + 1, by omega, by go_num, (fun j hj => by by_cases e : j = k; (subst e; rw [HI.out]; simp); exact HJ.out j (by omega)), hB.alloc hB.size _, by simp; omega, World.rangeAt_alloc hz _, World.there_alloc ht _⟩
            case measure => simp [intOf]; omega
        · go_wp2_with fail
          go_roundw
          case rel => exact ⟨k + 1, by omega, by go_num, (fun j hj => by by_cases e : j = k; (subst e; rw [HI.out]; simp); exact HJ.out j (by omega)), hB.alloc hB.size _, by simp; omega, World.rangeAt_alloc hz _, World.there_alloc ht _⟩
          case measure => simp [intOf]; omega
      · go_wp2_with fail
        go_roundw
        case rel => exact ⟨k + 1, by omega, by go_num, (fun j hj => by by_cases e : j = k; (subst e; rw [HI.out]; simp); exact HJ.out j (by omega)), hB.alloc hB.size _, by simp; omega, World.rangeAt_alloc hz _, World.there_alloc ht _⟩
        case measure => simp [intOf]; omega
    · obtain rfl : k = n := by omega
      have g3 := cell_later hB hl
      by_cases hk0 : 0 < k
      · obtain rfl := HA.out hk0
        have hr0 := HR.out 0 hk0
        have c0 : wr.cell? ⟨SB, 0, none⟩ = some (.string (Fn 0)) := cell_later hB (by simpa using hr0 0 _ rfl)
        have c1 : wr.cell? ⟨SB, 1, none⟩ = some (.string (Fl 0)) := cell_later hB (by simpa using hr0 1 _ rfl)
        have c2 : wr.cell? ⟨SB, 2, none⟩ = some (.int .i64 (Ln 0)) := cell_later hB (by simpa using hr0 2 _ rfl)
        have hd : decide ((0 : Int) < (k : Int)) = true := decide_eq_true (by omega)
        have hi : (0 : Int) < (k : Int) := by omega
        clear hr0
        go_wp2_with ((with_reducible refine wpList_store_hid 29 (.tmp 2) (.tmp 43) w.heap.size 0 (frL (Fn 0) (Fl 0) (Ln 0)).toArray 3 ?_ ?_ ?_ Yba.size29 (frL_size _ _ _) (frL_one _ _ _) ?_); simp [Act.eval]; simp [Act.eval, frL]; exact ht; intro w2 hw2 hs2; obtain ⟨r0, r1, r2, hb2⟩ := after_res hB ht (Below.refl _ _) hw2.out)
        refine bodyPost_ret (v := .agg #[.string (Fn 0), .string (Fl 0), .int .i64 (Ln 0)]) (by simp [results, Yba.results5, go_sem, r0, r1, r2]) rfl ⟨?_, hb2⟩
        have hsk : site Fn k = some 0 := site_zero hk0 HJ.out
        simp [siteL, hsk, frL]
      · obtain rfl : k = 0 := by omega
        go_wp2_with ((with_reducible refine wpList_store_hid 29 (.tmp 2) (.tmp 44) w.heap.size 0 (frL ⟨#[]⟩ ⟨#[]⟩ 0).toArray 3 ?_ ?_ ?_ Yba.size29 (frL_size _ _ _) (frL_one _ _ _) ?_); simp [Act.eval]; simp [Act.eval, frL]; exact ht; intro w2 hw2 hs2; obtain ⟨r0, r1, r2, hb2⟩ := after_res hB ht (Below.refl _ _) hw2.out)
        refine bodyPost_ret (v := .agg #[.string ⟨#[]⟩, .string ⟨#[]⟩, .int .i64 0]) (by simp [results, Yba.results5, go_sem, r0, r1, r2]) rfl ⟨?_, hb2⟩
        simp [siteL, site_none, frL]
end Go.Proofs.Ybulkdrrk
