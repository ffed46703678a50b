import Derived.Test.YbulkdrqiP4
namespace Go.Proofs.Ybulkdrqi
open Go.RowKit

/-- The law's memory in the midst of the script. -/
structure St (B n h t : Nat) (T : Nat → Nat) (JI JV : Nat → Int) (v : Value) (F : List (Int × Int)) (w0 w : World) : Prop where
  ring : Ring (B + 1) B n h t T JI JV w
  below : Below B w0 w
  tT : w.there (B + 2) 0 n
  tJ : w.there (B + 3) 0 (n * 2)
  fifo : Fifo w (B + 4) v F
  size : B + 4 ≤ w.heap.size

/-- The copies of the turns and of the jobs, m of them. -/
structure Sv (B m : Nat) (T : Nat → Nat) (JI JV : Nat → Int) (w : World) : Prop where
  turns : ∀ i, i < m → w.cell? ⟨B + 2, i, none⟩ = some (.int .u64 (T i : Int))
  jobs : ∀ i, i < m → w.rangeAt (B + 3) (i * 2) [.int .i64 (JI i), .int .i64 (JV i)]

variable {B n h t m : Nat} {T : Nat → Nat} {JI JV : Nat → Int} {v : Value} {F : List (Int × Int)} {w0 w w' : World}

theorem St.later (s : St B n h t T JI JV v F w0 w) (hn : 0 < n) (hB0 : B ≤ w0.heap.size) (hb : Below w.heap.size w w') : St B n h t T JI JV v F w0 w' :=
  ⟨s.ring.later hn hb, s.below.trans (hb.mono (Nat.le_trans hB0 s.below.size)), there_block s.tT (hb.block _ (by have := s.size; omega)), there_block s.tJ (hb.block _ (by have := s.size; omega)),
    s.fifo.same hb.size (fun k _ hk => hb.block k hk), Nat.le_trans s.size hb.size⟩
theorem Sv.later (s : Sv B m T JI JV w) (hs : B + 4 ≤ w.heap.size) (hb : Below w.heap.size w w') : Sv B m T JI JV w' :=
  ⟨fun i hi => by rw [World.cell?_of_block (w := w) (hb.block _ (by show B + 2 < _; omega))]; exact s.turns i hi, fun i hi => rangeAt_block (s.jobs i hi) (hb.block _ (by omega))⟩

/-- A call on the ring. -/
theorem St.touch {h' t' : Nat} {T' : Nat → Nat} {JI' JV' : Nat → Int} (s : St B n h t T JI JV v F w0 w) (hB0 : B ≤ w0.heap.size) (k : Touch (B + 1) B w w') (r : Ring (B + 1) B n h' t' T' JI' JV' w') : St B n h' t' T' JI' JV' v F w0 w' :=
  have hs := s.size
  ⟨r, k.below s.below hB0 (by omega) (Nat.le_refl _), there_block s.tT (k.block _ (by omega) (by omega) (by omega)), there_block s.tJ (k.block _ (by omega) (by omega) (by omega)),
    s.fifo.same k.size (fun j hj hk => k.block j hk (by omega) (by omega)), Nat.le_trans hs k.size⟩
theorem Sv.touch (s : Sv B m T JI JV w) (hs : B + 4 ≤ w.heap.size) (k : Touch (B + 1) B w w') : Sv B m T JI JV w' :=
  ⟨fun i hi => by rw [World.cell?_of_block (w := w) (k.block _ (by show B + 2 < _; omega) (by show B + 2 ≠ _; omega) (by show B + 2 ≠ _; omega))]; exact s.turns i hi, fun i hi => rangeAt_block (s.jobs i hi) (k.block _ (by omega) (by omega) (by omega))⟩

/-- An append to the queue's slice. -/
theorem St.queue {v' : Value} {F' : List (Int × Int)} (s : St B n h t T JI JV v F w0 w) (k : Below (B + 4) w w') (f : Fifo w' (B + 4) v' F') : St B n h t T JI JV v' F' w0 w' :=
  ⟨s.ring.same (k.block _ (by omega)) (k.block _ (by omega)), s.below.trans (k.mono (by omega)), there_block s.tT (k.block _ (by omega)), there_block s.tJ (k.block _ (by omega)), f, Nat.le_trans s.size k.size⟩

/-- A store into a copy. -/
theorem St.save {b o : Nat} (s : St B n h t T JI JV v F w0 w) (hb : b = B + 2 ∨ b = B + 3) (vs : List Value) : St B n h t T JI JV v F w0 (w.setCells b o vs) :=
  ⟨s.ring.same (block_setCells _ _ (by omega) _ _ _) (block_setCells _ _ (by omega) _ _ _), below_setCells s.below (by omega) _, World.there_setCells s.tT _ _ _, World.there_setCells s.tJ _ _ _,
    s.fifo.same (by rw [size_setCells]; exact Nat.le_refl _) (fun k hk _ => block_setCells _ _ (by omega) _ _ _), by rw [size_setCells]; exact s.size⟩

theorem Sv.turn (s : Sv B m T JI JV w) (ht : w.there (B + 2) 0 n) (hm : m < n) : (w.setCells (B + 2) m [.int .u64 (T m : Int)]).cell? ⟨B + 2, m, none⟩ = some (.int .u64 (T m : Int)) ∧ Sv B m T JI JV (w.setCells (B + 2) m [.int .u64 (T m : Int)]) := by
  refine ⟨?_, ⟨fun i hi => ?_, fun i hi => rangeAt_block (s.jobs i hi) (block_setCells _ _ (by omega) _ _ _)⟩⟩
  · exact World.rangeAt_setCells_same w (B + 2) m [.int .u64 (T m : Int)] (fun j hj => by have := ht (m + j) (by simp at hj; omega); rw [Nat.zero_add] at this; exact this) 0 _ rfl
  · rw [World.cell?_setCells_out _ _ _ _ _ (fun _ _ => Or.inl hi)]; exact s.turns i hi

theorem Sv.job (s : Sv B m T JI JV w) (htn : w.cell? ⟨B + 2, m, none⟩ = some (.int .u64 (T m : Int))) (ht : w.there (B + 3) 0 (n * 2)) (hm : m < n) : Sv B (m + 1) T JI JV (w.setCells (B + 3) (m * 2) [.int .i64 (JI m), .int .i64 (JV m)]) := by
  have e : ∀ i, (w.setCells (B + 3) (m * 2) [.int .i64 (JI m), .int .i64 (JV m)]).cell? ⟨B + 2, i, none⟩ = w.cell? ⟨B + 2, i, none⟩ := fun i => World.cell?_of_block (block_setCells _ _ (by show B + 2 ≠ _; omega) _ _ _)
  refine ⟨fun i hi => ?_, fun i hi => ?_⟩
  · rw [e]
    by_cases h : i = m
    · rw [h]; exact htn
    · exact s.turns i (by omega)
  · by_cases h : i = m
    · subst h
      exact World.rangeAt_setCells_same w (B + 3) (i * 2) _ (fun j hj => by have := ht (i * 2 + j) (by simp at hj; omega); rw [Nat.zero_add] at this; exact this)
    · exact World.rangeAt_setCells_apart (s.jobs i (by omega)) _ _ _ (Or.inr (Or.inl (by simp; omega)))

theorem Fifo.form {L : Nat} (f : Fifo w L v F) : ∃ a c, v = .slice a F.length c := by
  rcases f with ⟨rfl, rfl⟩ | ⟨g, o, c, rfl, _⟩
  · exact ⟨_, _, rfl⟩
  · exact ⟨_, _, rfl⟩

def Inv (B n len : Nat) (w0 : World) (i v : Value) (wr : World) : Prop :=
  ∃ (k h t : Nat) (T : Nat → Nat) (JI JV : Nat → Int) (F : List (Int × Int)), k ≤ len ∧ i = .int .i64 (k : Int) ∧ St B n h t T JI JV v F w0 wr ∧ Q n h t T JI JV F

def stepL (o ix vl : Int) : List Value := [.int .u8 o, .int .i64 ix, .int .i64 vl]


theorem Yba.info32 : (Yba.prog.info? 32).map (fun i => (i.zero, i.size, i.bytes)) = some (some (.int .u64 0), 1, 8) := by kernel_rfl
theorem Yba.info90m : (Yba.prog.info? 90).map (fun i => (i.zero, i.size, i.bytes)) = some (some (.agg #[.int .i64 0, .int .i64 0]), 2, 16) := by kernel_rfl

theorem Ring.headed {QB CB n hd tl : Nat} {T : Nat → Nat} {JI JV : Nat → Int} {w w1 : World} {x : Nat} (h : Ring QB CB n hd tl T JI JV w) (hw : w1 = w.setCell ⟨QB, 66, none⟩ (.int .u64 (x : Int))) : Ring QB CB n x tl T JI JV w1 := by
  rw [hw]; exact h.setH x
theorem Ring.tailed {QB CB n hd tl : Nat} {T : Nat → Nat} {JI JV : Nat → Int} {w w1 : World} {x : Nat} (h : Ring QB CB n hd tl T JI JV w) (hw : w1 = w.setCell ⟨QB, 131, none⟩ (.int .u64 (x : Int))) : Ring QB CB n hd x T JI JV w1 := by
  rw [hw]; exact h.setT x

/-- The turn that cell i begins with. -/
def tg (n start i : Nat) : Nat := (start + (i + (n - start % n)) % n) % 18446744073709551616

theorem tg_eq {n start i : Nat} (hn : 0 < n) (hdv : n ∣ 18446744073709551616) (hs : start < 18446744073709551616) : ((i + 18446744073709551616 - start) % 18446744073709551616) % n = (i + (n - start % n)) % n := by
  rw [mod_n hdv]
  obtain ⟨c, hc⟩ := hdv
  have h1 : start = n * (start / n) + start % n := (Nat.div_add_mod start n).symm
  have hr : start % n < n := Nat.mod_lt _ hn
  have hq : start / n < c := by
    rw [Nat.div_lt_iff_lt_mul hn, Nat.mul_comm]
    omega
  obtain ⟨d, hd⟩ : ∃ d, c = start / n + 1 + d := ⟨c - start / n - 1, by omega⟩
  have h2 : n * c = n * (start / n) + n + n * d := by rw [hd, Nat.mul_add, Nat.mul_add, Nat.mul_one]
  have h3 : i + 18446744073709551616 - start = i + (n - start % n) + n * d := by rw [hc]; omega
  rw [h3, Nat.add_mul_mod_self_left]

theorem st_start {n start : Nat} {w w1 : World} (hR : Ring (w.heap.size + 1) w.heap.size n start start (tg n start) (fun _ => 0) (fun _ => 0) w1) (hn : 0 < n) (hB : Below w.heap.size w w1) (hS : w1.heap.size = w.heap.size + 2) :
    St w.heap.size n start start (tg n start) (fun _ => 0) (fun _ => 0) (.slice none 0 0) [] w ((w1.alloc (.cells (madeCells #[.int .u64 0] n) 32)).alloc (.cells (madeCells #[.int .i64 0, .int .i64 0] (n * 2)) 90)) := by
  have hs1 : (w1.alloc (.cells (madeCells #[.int .u64 0] n) 32)).heap.size = w.heap.size + 3 := by simp [hS]
  refine ⟨hR.later hn (by go_grown), hB.trans ((show Below w1.heap.size w1 _ by go_grown).mono (by omega)), ?_, ?_, Or.inl ⟨rfl, rfl⟩, by simp [hS]⟩
  · have := there_made w1 #[.int .u64 0] n 32
    rw [hS] at this
    exact World.there_alloc this _
  · have := there_made (w1.alloc (.cells (madeCells #[.int .u64 0] n) 32)) #[.int .i64 0, .int .i64 0] (n * 2) 90
    rw [hs1] at this
    exact this

theorem St.saved {b o : Nat} {vs : List Value} (s : St B n h t T JI JV v F w0 w) (hb : b = B + 2 ∨ b = B + 3) (hw : w' = w.setCells b o vs) : St B n h t T JI JV v F w0 w' := by
  rw [hw]; exact s.save hb vs
theorem Sv.jobbed {b : Nat} (s : Sv B m T JI JV w) (htn : w.cell? ⟨B + 2, m, none⟩ = some (.int .u64 (T m : Int))) (ht : w.there (B + 3) 0 (n * 2)) (hm : m < n) (hb : b = B + 3) (hw : w' = w.setCells b (m * 2) [.int .i64 (JI m), .int .i64 (JV m)]) : Sv B (m + 1) T JI JV w' := by
  subst hb; rw [hw]; exact s.job htn ht hm

theorem Fifo.front {L : Nat} {f : Int × Int} {fa : Option Addr} {fc : Nat} {l : Nat} (q : Fifo w L (.slice fa l fc) (f :: F)) : ∃ g off, fa = some ⟨g, off, none⟩ ∧ l = F.length + 1 ∧ F.length + 1 ≤ fc ∧ w.cell? ⟨g, off, none⟩ = some (.int .i64 f.1) ∧ w.cell? ⟨g, off + 1, none⟩ = some (.int .i64 f.2) := by
  rcases q with ⟨_, h⟩ | ⟨g, o, c, e, _, _, h3, h4, _⟩
  · cases h
  · cases e
    exact ⟨g, o, rfl, rfl, h3, h4 0 _ rfl, h4 1 _ rfl⟩

theorem Yba.cells90 : ∀ w, (sizeOf 90).run Yba.prog w = .ok 2 w := fun w => by
  obtain ⟨i, hi, _, hs, _⟩ := Yba.info90
  simp [sizeOf, typeInfo, hi, hs]

/-- 'fifo = fifo[1:]'. -/
theorem Fifo.tail {L : Nat} {f : Int × Int} {g off fc : Nat} (q : Fifo w L (.slice (some ⟨g, off, none⟩) (F.length + 1) fc) (f :: F)) :
    ∃ v', (∀ W, (Instr.slice 93 (.slice (some ⟨g, off, none⟩) (F.length + 1) fc) (some (.int .i64 1)) none none).run Yba.prog W = .ok v' W) ∧ Fifo w L v' F := by
  rcases q with ⟨_, h⟩ | ⟨g', o, c, e, h1, h2, h3, h4, h5⟩
  · cases h
  · cases e
    simp only [List.length_cons] at h3
    refine ⟨.slice (some ⟨g, if fc = 1 then off else off + 2, none⟩) F.length (fc - 1), fun W => ?_, Or.inr ⟨g, _, fc - 1, rfl, h1, h2, by omega, ?_, ?_⟩⟩
    · rw [run_slice_any W 93 _ _ _ (by simp [Program.elem, Yba.underlying93])]
      have he : Yba.prog.elem 93 = 90 := by simp [Program.elem, Yba.underlying93]
      rw [he]
      simp only [Yba.cells90]
      have hb : (Instr.sliceBounds true (F.length + 1) fc (some (.int .i64 1)) none none).run Yba.prog W = .ok (1, F.length + 1, fc) W := by
        simp [Instr.sliceBounds, Instr.sliceBound, asIntOf]
        omega
      rw [hb]
      simp only [Result.andThen, sliced]
      by_cases e1 : fc = 1
      · simp [e1]
      · simp [e1, Addr.add]
    · by_cases e1 : fc = 1
      · obtain rfl : F = [] := List.length_eq_zero_iff.1 (by omega)
        intro j u hu; simp [flat] at hu
      · rw [if_neg e1]
        intro j u hu
        have := h4 (j + 2) u (by simpa [flat] using hu)
        rw [show off + 2 + j = off + (j + 2) by omega]; exact this
    · intro j hj
      by_cases e1 : fc = 1
      · omega
      · rw [if_neg e1]
        have := h5 (j + 2) (by omega)
        rw [show off + 2 + j = off + (j + 2) by omega]; exact this

theorem St.tail {f : Int × Int} {v' : Value} (s : St B n h t T JI JV v (f :: F) w0 w) (hf : Fifo w (B + 4) v' F) : St B n h t T JI JV v' F w0 w :=
  ⟨s.ring, s.below, s.tT, s.tJ, hf, s.size⟩
theorem St.thJ (s : St B n h t T JI JV v F w0 w) (i : Nat) (hi : i < n) : w.there (B + 2 + 1) (i * 2) 2 := fun j hj => by
  have := s.tJ (i * 2 + j) (by omega)
  rw [Nat.zero_add] at this
  exact this
end Go.Proofs.Ybulkdrqi
