import Derived.Test.YbulkdrqiY9
namespace Go.Proofs.Ybulkdrqi
open Go.RowKit Go.Conc

/-! ### the plain side -/
def vals (ln : Nat → Nat) (V : Nat → Nat → Int) (i : Nat) : List Int := (List.range (ln i)).map (V i)
def pre (ln : Nat → Nat) (V : Nat → Nat → Int) : Nat → List Int
  | 0 => []
  | i + 1 => pre ln V i ++ vals ln V i
def sm (ln : Nat → Nat) : Nat → Nat
  | 0 => 0
  | i + 1 => sm ln i + ln i
def lg (ln : Nat → Nat) (V : Nat → Nat → Int) (i q : Nat) : List Int := pre ln V i ++ (vals ln V i).take q
theorem pre_len (ln : Nat → Nat) (V : Nat → Nat → Int) : ∀ i, (pre ln V i).length = sm ln i
  | 0 => rfl
  | i + 1 => by simp [pre, sm, pre_len ln V i, vals]
theorem lg_len {ln : Nat → Nat} {V : Nat → Nat → Int} {i q : Nat} (h : q ≤ ln i) : (lg ln V i q).length = sm ln i + q := by
  simp [lg, pre_len, vals]; omega
theorem lg_succ {ln : Nat → Nat} {V : Nat → Nat → Int} {i q : Nat} (h : q < ln i) : lg ln V i (q + 1) = lg ln V i q ++ [V i q] := by
  have : (vals ln V i).take (q + 1) = (vals ln V i).take q ++ [V i q] := by
    rw [List.take_add_one]
    simp [vals, h]
  simp [lg, this]
theorem lg_next (ln : Nat → Nat) (V : Nat → Nat → Int) (i : Nat) : lg ln V i (ln i) = lg ln V (i + 1) 0 := by
  have : (vals ln V i).take (ln i) = vals ln V i := List.take_of_length_le (by simp [vals])
  simp [lg, this, pre]
theorem sm_mono (ln : Nat → Nat) {i j : Nat} (h : i ≤ j) : sm ln i ≤ sm ln j := by
  induction j with
  | zero => obtain rfl : i = 0 := by omega
            exact Nat.le_refl _
  | succ j ih =>
    by_cases e : i = j + 1
    · subst e; exact Nat.le_refl _
    · have := ih (by omega); simp only [sm]; omega

def hdF (ln : Nat → Nat) (i q j : Nat) : Nat := if j < i then ln j else if j = i then q else 0
theorem hdF_at (ln : Nat → Nat) (i q : Nat) : hdF ln i q i = q := by simp [hdF]
theorem hdF_next (ln : Nat → Nat) (i j : Nat) : hdF ln i (ln i) j = hdF ln (i + 1) 0 j := by
  simp only [hdF]
  by_cases h1 : j < i
  · rw [if_pos h1, if_pos (by omega)]
  · by_cases h2 : j = i
    · subst h2; simp
    · rw [if_neg h1, if_neg h2, if_neg (by omega)]; split <;> rfl
theorem hdF_succ (ln : Nat → Nat) (i q j : Nat) : hdF ln i (q + 1) j = if j = i then q + 1 else hdF ln i q j := by
  simp only [hdF]
  by_cases h2 : j = i
  · subst h2; simp
  · simp [h2]

/-- Where the collecting ends: the worker, how many of its results were popped, and why (0: all taken, 1: the body broke out, 2: a fault). -/
def fin (st : Nat) (ln : Nat → Nat) (fl : Nat → Bool) : Nat → Nat → Nat → Nat × Nat × Nat
  | 0, i, _ => (i, 0, 0)
  | f + 1, i, c => if 0 < st ∧ c < st ∧ st ≤ c + ln i then (i, st - c, 1) else if fl i = true then (i, ln i, 2) else fin st ln fl f (i + 1) (c + ln i)
theorem fin_stop {st : Nat} {ln : Nat → Nat} {fl : Nat → Bool} {f i c q : Nat} (h1 : q < ln i) (h2 : st = c + q + 1) : fin st ln fl (f + 1) i c = (i, q + 1, 1) := by
  simp only [fin]
  rw [if_pos (by omega)]
  simp; omega
theorem fin_fault {st : Nat} {ln : Nat → Nat} {fl : Nat → Bool} {f i c : Nat} (h : st = 0 ∨ c + ln i < st) (hf : fl i = true) : fin st ln fl (f + 1) i c = (i, ln i, 2) := by
  simp only [fin]
  rw [if_neg (by omega), if_pos hf]
theorem fin_next {st : Nat} {ln : Nat → Nat} {fl : Nat → Bool} {f i c : Nat} (h : st = 0 ∨ c + ln i < st) (hf : fl i = false) : fin st ln fl (f + 1) i c = fin st ln fl f (i + 1) (c + ln i) := by
  simp only [fin]
  rw [if_neg (by omega), if_neg (by simp [hf])]

def cI (hd ln : Nat) (j : Nat) : Int := if hd ≤ j ∧ j < ln then (j : Int) else 0
def cX (V : Nat → Int) (hd ln : Nat) (j : Nat) : Int := if hd ≤ j ∧ j < ln then V j else 0
theorem cI_pop {hd ln : Nat} (j : Nat) : upd (cI hd ln) hd 0 j = cI (hd + 1) ln j := by
  simp only [upd, cI]
  by_cases e : j = hd
  · subst e; rw [if_pos rfl, if_neg (by omega)]
  · rw [if_neg e]; by_cases h : hd ≤ j ∧ j < ln
    · rw [if_pos h, if_pos (by omega)]
    · rw [if_neg h, if_neg (by omega)]
theorem cX_pop {V : Nat → Int} {hd ln : Nat} (j : Nat) : upd (cX V hd ln) hd 0 j = cX V (hd + 1) ln j := by
  simp only [upd, cX]
  by_cases e : j = hd
  · subst e; rw [if_pos rfl, if_neg (by omega)]
  · rw [if_neg e]; by_cases h : hd ≤ j ∧ j < ln
    · rw [if_pos h, if_pos (by omega)]
    · rw [if_neg h, if_neg (by omega)]

theorem and_low {n : Nat} (e : Nat) (he : n = 2 ^ e) (hn : n ≤ 131072) (x : Nat) (hx : x < n) : bits .and .u64 (x : Int) ((n : Int) - 1) = (x : Int) := by
  have h := bits_and_u64_nat x (n - 1) (by omega) (by omega)
  have e1 : ((n - 1 : Nat) : Int) = (n : Int) - 1 := by omega
  rw [e1] at h
  rw [h, he, Nat.and_two_pow_sub_one_eq_mod, Nat.mod_eq_of_lt (by omega)]

theorem cell_at {w w' : World} {b o : Nat} {x : Value} (e : w'.heap[b]? = w.heap[b]?) (h : w.cell? ⟨b, o, none⟩ = some x) : w'.cell? ⟨b, o, none⟩ = some x := (World.cell?_of_block (a := ⟨b, o, none⟩) e).trans h

/-! ### the crew -/
structure Cr (w : World) (B n K Fa : Nat) (sz ln hd : Nat → Nat) (V : Nat → Nat → Int) (fl : Nat → Bool) : Prop where
  k : ∀ i, i < n → w.cell? ⟨K, i, none⟩ = some (.pointer (some ⟨B + 4 * i + 3, 0, none⟩))
  f : ∀ i, i < n → w.cell? ⟨Fa, i, none⟩ = some (.pointer (some ⟨B + 4 * i, 0, none⟩))
  w1 : ∀ i, i < n → w.cell? ⟨B + 4 * i + 3, 1, none⟩ = some (.pointer (some ⟨B + 4 * i + 2, 0, none⟩))
  w6 : ∀ i, i < n → w.cell? ⟨B + 4 * i + 3, 6, none⟩ = some (.int .u32 (u1 (fl i)))
  w7 : ∀ i, i < n → w.cell? ⟨B + 4 * i + 3, 7, none⟩ = some (.pointer (some ⟨B + 4 * i, 0, none⟩))
  rr : ∀ i, i < n → Rr (B + 4 * i + 2) (B + 4 * i + 1) (sz i) (hd i) (ln i) (cI (hd i) (ln i)) (cX (V i) (hd i) (ln i)) w
  pw : ∀ i, i < n → ∃ e, sz i = 2 ^ e
  le : ∀ i, i < n → hd i ≤ ln i ∧ ln i ≤ sz i ∧ sz i ≤ 131072 ∧ 0 < sz i

variable {w w' : World} {B n K Fa : Nat} {sz ln hd : Nat → Nat} {V : Nat → Nat → Int} {fl : Nat → Bool}

theorem Cr.same (h : Cr w B n K Fa sz ln hd V fl) (eK : w'.heap[K]? = w.heap[K]?) (eF : w'.heap[Fa]? = w.heap[Fa]?) (e : ∀ k, B ≤ k → k < B + 4 * n → w'.heap[k]? = w.heap[k]?) : Cr w' B n K Fa sz ln hd V fl :=
  ⟨fun i hi => cell_at eK (h.k i hi), fun i hi => cell_at eF (h.f i hi),
    fun i hi => cell_at (e (B + 4 * i + 3) (by omega) (by omega)) (h.w1 i hi), fun i hi => cell_at (e (B + 4 * i + 3) (by omega) (by omega)) (h.w6 i hi),
    fun i hi => cell_at (e (B + 4 * i + 3) (by omega) (by omega)) (h.w7 i hi), fun i hi => (h.rr i hi).same (e _ (by omega) (by omega)) (e _ (by omega) (by omega)), h.pw, h.le⟩
theorem Cr.congr {hd' : Nat → Nat} (h : Cr w B n K Fa sz ln hd V fl) (e : ∀ j, hd j = hd' j) : Cr w B n K Fa sz ln hd' V fl := by
  have : hd = hd' := funext e
  rw [← this]; exact h
/-- One result of worker i is popped. -/
theorem Cr.pop {i : Nat} (h : Cr w B n K Fa sz ln hd V fl) (hi : i < n) (hK : K < B) (hF : Fa < B) (hlt : hd i < ln i) (hR : Rr (B + 4 * i + 2) (B + 4 * i + 1) (sz i) (hd i + 1) (ln i) (upd (cI (hd i) (ln i)) (hd i) 0) (upd (cX (V i) (hd i) (ln i)) (hd i) 0) w')
    (ht : Touch (B + 4 * i + 2) (B + 4 * i + 1) w w') (hsz : B + 4 * n ≤ w.heap.size) : Cr w' B n K Fa sz ln (fun j => if j = i then hd i + 1 else hd j) V fl := by
  have eb : ∀ k, k < w.heap.size → k ≠ B + 4 * i + 2 → k ≠ B + 4 * i + 1 → w'.heap[k]? = w.heap[k]? := ht.block
  refine ⟨fun j hj => cell_at (eb K (by omega) (by omega) (by omega)) (h.k j hj), fun j hj => cell_at (eb Fa (by omega) (by omega) (by omega)) (h.f j hj),
    fun j hj => cell_at (eb (B + 4 * j + 3) (by omega) (by omega) (by omega)) (h.w1 j hj), fun j hj => cell_at (eb (B + 4 * j + 3) (by omega) (by omega) (by omega)) (h.w6 j hj),
    fun j hj => cell_at (eb (B + 4 * j + 3) (by omega) (by omega) (by omega)) (h.w7 j hj), fun j hj => ?_, h.pw, fun j hj => ?_⟩
  · by_cases e : j = i
    · subst e
      simp only [if_true]
      exact hR.congr (fun k _ => cI_pop k) (fun k _ => cX_pop k)
    · simp only [if_neg e]
      exact (h.rr j hj).same (eb _ (by omega) (by omega) (by omega)) (eb _ (by omega) (by omega) (by omega))
  · by_cases e : j = i
    · subst e
      simp only [if_true]
      have := h.le j hj
      omega
    · simp only [if_neg e]; exact h.le j hj
end Go.Proofs.Ybulkdrqi
