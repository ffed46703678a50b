import Derived.Test.YbulkdrtaBase
namespace Go.Proofs.Ybulkdrta
open Go.RowKit

/-- A region's cells. -/
def regL (c t : ByteArray) (i l : Int) : List Value := [.string c, .string t, .int .i64 i, .int .i64 l]
theorem regL_len (c t : ByteArray) (i l : Int) : (regL c t i l).length = 4 := rfl
theorem regL_size (c t : ByteArray) (i l : Int) : (regL c t i l).toArray.size = 4 := rfl
theorem regL_one (c t : ByteArray) (i l : Int) : (regL c t i l).toArray.all (·.oneCell') = true := by simp [regL, Value.oneCell']
theorem Yba.size27 : (Yba.prog.info? 27).map (·.size) = some 4 := by kernel_rfl
def reg0 : Array Value := #[.string ByteArray.empty, .string ByteArray.empty, .int .i64 0, .int .i64 0]
theorem Yba.info27 : (Yba.prog.info? 27).map (fun i => (i.zero, i.size, i.bytes)) = some (some (.agg reg0), 4, 48) := by kernel_rfl

/-- The indents of the first k regions added up as int does. -/
def isum (I : Nat → Int) : Nat → Int
  | 0 => 0
  | k + 1 => wrap64 (isum I k + I k)
/-- .. as whole numbers. -/
def tsum (I : Nat → Int) : Nat → Int
  | 0 => 0
  | k + 1 => tsum I k + I k

theorem isum_tsum (I : Nat → Int) (k : Nat) : isum I k = wrap64 (tsum I k) := by
  induction k with
  | zero => simp [isum, tsum, wrap64]
  | succ k ih => simp only [isum, tsum, ih]; unfold wrap64; omega

set_option maxHeartbeats 400000 in
theorem indent_any (L OB n : Nat) (oa : Option Addr) (Cm Tg : Nat → ByteArray) (I Ln : Nat → Int) (w : World) (hn : n ≤ 1048576) (h0 : 0 < n → oa = some ⟨OB, 0, none⟩)
    (hl : w.cell? ⟨L, 0, none⟩ = some (.slice oa n n)) (hr : ∀ j, j < n → w.rangeAt OB (j * 4) (regL (Cm j) (Tg j) (I j) (Ln j))) :
    Calls Yba.prog 5 #[.pointer (some ⟨L, 0, none⟩)] w fun e w' => e = .returned (.int .i64 (isum I n)) ∧ Below w.heap.size w w' := by
  have HA : Hid _ := h0
  have HR : Hid _ := hr
  clear h0 hr
  go_enter Yba.func5, Yba.ntmps5
  go_wp2_with fail
  go_loopw [3, 11] (fun s i wr => ∃ k : Nat, k ≤ n ∧ i = .int .i64 k ∧ s = .int .i64 (isum I k) ∧ Below w.heap.size w wr) (fun _ i _ => n - (intOf i).toNat)
  case atStart => exact ⟨0, Nat.zero_le _, rfl, rfl, by go_grown⟩
  case round =>
    obtain ⟨k, hk, rfl, rfl, hB⟩ := hrel
    by_cases hlt : k < n
    · obtain rfl := HA.out (by omega)
      have hr0 := HR.out k hlt
      have c0 : wr.cell? ⟨OB, k * 4, none⟩ = some (.string (Cm k)) := cell_later hB (hr0 0 _ rfl)
      have c1 : wr.cell? ⟨OB, k * 4 + 1, none⟩ = some (.string (Tg k)) := cell_later hB (hr0 1 _ rfl)
      have c2 : wr.cell? ⟨OB, k * 4 + 2, none⟩ = some (.int .i64 (I k)) := cell_later hB (hr0 2 _ rfl)
      have c3 : wr.cell? ⟨OB, k * 4 + 3, none⟩ = some (.int .i64 (Ln k)) := cell_later hB (hr0 3 _ rfl)
      clear hr0
      go_wp2_with fail
      go_roundw
      case rel => exact ⟨k + 1, by omega, by go_num, rfl, hB.alloc hB.size _⟩
      case measure => simp [intOf]; omega
    · obtain rfl : k = n := by omega
      go_wp2_with fail
      go_ret
      exact ⟨rfl, hB⟩
/-- What the first loop has made after k rounds: open in block B, keep in block B + 1. -/
structure Built (B n k : Nat) (Cm Tg : Nat → ByteArray) (I Ln : Nat → Int) (w wr : World) : Prop where
  below : Below B w wr
  size : B + 2 ≤ wr.heap.size
  thereO : wr.there B 0 (n * 4)
  thereK : wr.there (B + 1) 0 (n * 4)
  opn : ∀ j, j < k → wr.rangeAt B (j * 4) (regL (Cm j) (Tg j) (I j) (Ln j))
  keep : ∀ j, j < k → wr.rangeAt (B + 1) (j * 4) (regL (Cm j) (Tg j) (I j) (Ln j))

theorem built_start (w : World) (n : Nat) (Cm Tg : Nat → ByteArray) (I Ln : Nat → Int) (z1 z2 : Array Value) :
    Built w.heap.size n 0 Cm Tg I Ln w ((w.alloc (.cells (madeCells z1 (n * 4)) 27)).alloc (.cells (madeCells z2 (n * 4)) 27)) := by
  constructor
  · go_grown
  · rw [World.size_alloc, World.size_alloc]; omega
  · exact World.there_alloc (there_made w z1 (n * 4) 27) _
  · have := there_made (w.alloc (.cells (madeCells z1 (n * 4)) 27)) z2 (n * 4) 27
    rw [World.size_alloc] at this
    exact this
  · intro j hj; omega
  · intro j hj; omega

/-- One round: the variable r in a new block, then the two stores. -/
theorem built_step {B n k : Nat} {Cm Tg : Nat → ByteArray} {I Ln : Nat → Int} {w wr w1 w2 w3 : World} (hB : Built B n k Cm Tg I Ln w wr) (hk : k < n) (h1 : Below wr.heap.size wr w1)
    (h2 : w2 = w1.setCells B (k * 4) (regL (Cm k) (Tg k) (I k) (Ln k))) (h3 : w3 = w2.setCells (B + 1) (k * 4) (regL (Cm k) (Tg k) (I k) (Ln k))) :
    Built B n (k + 1) Cm Tg I Ln w w3 := by
  have hs := hB.size
  have s1 := h1.size
  generalize hE : regL (Cm k) (Tg k) (I k) (Ln k) = E at h2 h3
  have hEl : E.length = 4 := by rw [← hE]; rfl
  have t1O : w1.there B 0 (n * 4) := there_block hB.thereO (h1.block _ (by omega))
  have t1K : w1.there (B + 1) 0 (n * 4) := there_block hB.thereK (h1.block _ (by omega))
  have t2O : w2.there B 0 (n * 4) := by rw [h2]; exact World.there_setCells t1O _ _ _
  have t2K : w2.there (B + 1) 0 (n * 4) := by rw [h2]; exact World.there_setCells t1K _ _ _
  have e2 : w2.rangeAt B (k * 4) E := by
    rw [h2]
    refine World.rangeAt_setCells_same _ _ _ _ ?_
    intro j hj
    have := t1O (k * 4 + j) (by omega)
    simpa using this
  constructor
  · rw [h3, h2]
    exact below_setCells (below_setCells (hB.below.trans (h1.mono (by omega))) (Nat.le_refl _) _) (by omega) _
  · rw [h3, size_setCells, h2, size_setCells]; omega
  · rw [h3]; exact World.there_setCells t2O _ _ _
  · rw [h3]; exact World.there_setCells t2K _ _ _
  · intro j hj
    rw [h3]
    refine World.rangeAt_setCells_apart ?_ _ _ _ (.inl (by omega))
    by_cases e : j = k
    · subst e; rw [hE]; exact e2
    · rw [h2]
      exact World.rangeAt_setCells_apart (rangeAt_block (hB.opn j (by omega)) (h1.block _ (by omega))) _ _ _ (.inr (.inl (by rw [regL_len]; omega)))
  · intro j hj
    rw [h3]
    by_cases e : j = k
    · subst e; rw [hE]
      refine World.rangeAt_setCells_same _ _ _ _ ?_
      intro i hi
      have := t2K (j * 4 + i) (by omega)
      simpa using this
    · refine World.rangeAt_setCells_apart ?_ _ _ _ (.inr (.inl (by rw [regL_len]; omega)))
      rw [h2]
      exact World.rangeAt_setCells_apart (rangeAt_block (hB.keep j (by omega)) (h1.block _ (by omega))) _ _ _ (.inl (by omega))

/-- Behind the first 'if': what the rest reads. -/
structure Made (n : Nat) (a0 oa ka : Option Addr) (OB KB : Nat) (Cm Tg : Nat → ByteArray) (I Ln : Nat → Int) (w wx : World) : Prop where
  below : Below w.heap.size w wx
  nilO : oa.isNone = a0.isNone
  nilK : ka.isNone = a0.isNone
  adO : 0 < n → oa = some ⟨OB, 0, none⟩
  adK : 0 < n → ka = some ⟨KB, 0, none⟩
  opn : ∀ j, j < n → wx.rangeAt OB (j * 4) (regL (Cm j) (Tg j) (I j) (Ln j))
  keep : ∀ j, j < n → wx.rangeAt KB (j * 4) (regL (Cm j) (Tg j) (I j) (Ln j))

theorem Made.later {n : Nat} {a0 oa ka : Option Addr} {OB KB : Nat} {Cm Tg : Nat → ByteArray} {I Ln : Nat → Int} {w wx wy : World} (h : Made n a0 oa ka OB KB Cm Tg I Ln w wx) (hb : Below wx.heap.size wx wy) : Made n a0 oa ka OB KB Cm Tg I Ln w wy :=
  ⟨h.below.trans (hb.mono h.below.size), h.nilO, h.nilK, h.adO, h.adK, fun j hj => rangeAt_later (h.opn j hj) hb, fun j hj => rangeAt_later (h.keep j hj) hb⟩

set_option maxHeartbeats 1000000 in
theorem neq_reg (c t : ByteArray) (i l : Int) (w : World) :
    (binOp .neq 27 (.agg #[.string c, .string t, .int .i64 i, .int .i64 l]) (.agg #[.string c, .string t, .int .i64 i, .int .i64 l])).run Yba.prog w = .ok (.bool false) w := by
  rw [run_neq_struct]
  simp [go_sem]

end Go.Proofs.Ybulkdrta
