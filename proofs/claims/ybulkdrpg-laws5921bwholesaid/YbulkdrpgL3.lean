import Derived.Test.YbulkdrpgL2
namespace Go.Proofs.Ybulkdrpg
open Go.RowKit

/-! ### the list as a list -/
def nx (C : Nat) (es : List (Nat × Value)) (j : Nat) : Value := match es[j + 1]? with
  | some e => pt e.1
  | none => rt C
def pv (C : Nat) (es : List (Nat × Value)) : Nat → Value
  | 0 => rt C
  | i + 1 => match es[i]? with
    | some e => pt e.1
    | none => rt C

def fst0 (C : Nat) (es : List (Nat × Value)) : Value := match es[0]? with
  | some e => pt e.1
  | none => rt C
def lst0 (C : Nat) (es : List (Nat × Value)) : Value := pv C es es.length

/-- The list at block C holds these elements, in this order: their blocks and their values; m lies in the cell ahead of it. -/
structure Ls (w : World) (C : Nat) (m : Value) (es : List (Nat × Value)) : Prop where
  head : Bk w C #[m, fst0 C es, lst0 C es, np, .nilIface, .int .i64 (es.length : Int)] 32 ∨ (es = [] ∧ Bk w C #[m, np, np, np, .nilIface, .int .i64 0] 32)
  elem : ∀ j (h : j < es.length), Bk w es[j].1 #[nx C es j, pv C es j, rt C, es[j].2] 28
  nodup : (C :: es.map (·.1)).Nodup
  room : es.length < 1000000000000
  val : ∀ e ∈ es, ∃ t x, e.2 = Value.iface t x

def inL (C : Nat) (es : List (Nat × Value)) (b : Nat) : Prop := b = C ∨ b ∈ es.map (·.1)

variable {w : World} {C : Nat} {m : Value} {es : List (Nat × Value)}

theorem Ls.lt (h : Ls w C m es) : ∀ b, inL C es b → b < w.heap.size := by
  intro b hb
  rcases hb with rfl | hb
  · rcases h.head with h | ⟨_, h⟩ <;> exact h.lt
  · obtain ⟨e, he, rfl⟩ := List.mem_map.1 hb
    obtain ⟨j, hj, rfl⟩ := List.mem_iff_getElem.1 he
    exact (h.elem j hj).lt

theorem Ls.same {w' : World} (h : Ls w C m es) (e : ∀ b, inL C es b → w'.heap[b]? = w.heap[b]?) : Ls w' C m es := by
  refine ⟨?_, fun j hj => ?_, h.nodup, h.room, h.val⟩
  · rcases h.head with k | ⟨k0, k⟩
    · exact Or.inl ((e C (Or.inl rfl)).trans k)
    · exact Or.inr ⟨k0, (e C (Or.inl rfl)).trans k⟩
  · exact (e _ (Or.inr (List.mem_map.2 ⟨_, List.getElem_mem hj, rfl⟩))).trans (h.elem j hj)

theorem nodup_inj (h : (C :: es.map (·.1)).Nodup) {i j : Nat} (hi : i < es.length) (hj : j < es.length) (e : es[i].1 = es[j].1) : i = j := by
  have hn := (List.nodup_cons.1 h).2
  have := List.getElem_inj (xs := es.map (·.1)) (i := i) (j := j) (h₀ := by simpa using hi) (h₁ := by simpa using hj) hn
  exact this.1 (by simpa using e)
theorem nodup_neC (h : (C :: es.map (·.1)).Nodup) {i : Nat} (hi : i < es.length) : es[i].1 ≠ C := fun e =>
  (List.nodup_cons.1 h).1 (e ▸ List.mem_map.2 ⟨_, List.getElem_mem hi, rfl⟩)

theorem nx_append (e : Nat × Value) {j : Nat} (hj : j + 1 < es.length) : nx C (es ++ [e]) j = nx C es j := by
  simp [nx, List.getElem?_append_left hj]
theorem pv_append (e : Nat × Value) {j : Nat} (hj : j ≤ es.length) : pv C (es ++ [e]) j = pv C es j := by
  cases j with
  | zero => rfl
  | succ i => simp only [pv]; rw [List.getElem?_append_left (by omega)]

/-- PushBack. -/
theorem push_any (v : Value) (hv : ∃ t x, v = .iface t x) (h : Ls w C m es) (hr : es.length + 1 < 1000000000000) :
    Calls Yba.prog 16 #[.pointer (some ⟨C, 1, none⟩), v] w fun e w' => e = .returned (pt w.heap.size) ∧ w'.heap.size = w.heap.size + 1 ∧ Only (inL C es) w w' ∧ Ls w' C m (es ++ [(w.heap.size, v)]) := by
  have hlt := h.lt
  have hnd : (C :: (es ++ [(w.heap.size, v)]).map (·.1)).Nodup := by
    have h1 : ∀ b ∈ C :: es.map (·.1), b ≠ w.heap.size := fun b hb => by
      have := hlt b (by rcases List.mem_cons.1 hb with rfl | hb; exact Or.inl rfl; exact Or.inr hb)
      omega
    rw [List.map_append, ← List.cons_append]
    exact List.nodup_append.2 ⟨h.nodup, by simp, fun a ha b hb => by simp at hb; subst hb; exact h1 a ha⟩
  have hval : ∀ e ∈ es ++ [(w.heap.size, v)], ∃ t x, e.2 = Value.iface t x := fun e he => by
    rcases List.mem_append.1 he with he | he
    · exact h.val e he
    · simp at he; subst he; exact hv
  by_cases hnil : es = []
  · subst hnil
    have fin : ∀ w', w'.heap.size = w.heap.size + 1 → Only (fun b => b = C) w w' → Bk w' C #[m, pt w.heap.size, pt w.heap.size, np, .nilIface, .int .i64 1] 32 → Bk w' w.heap.size #[rt C, rt C, rt C, v] 28 → Only (inL C []) w w' ∧ Ls w' C m ([] ++ [(w.heap.size, v)]) := fun w' _ g2 g3 g4 => by
      refine ⟨g2.mono (fun k _ e => Or.inl e), ⟨Or.inl g3, fun j hj => ?_, hnd, by simp, hval⟩⟩
      simp at hj
      subst hj
      exact g4
    rcases h.head with hC | ⟨_, hC⟩
    · refine (push_empty C m v hv w hC).mono ?_
      rintro e w' ⟨rfl, g1, g2, g3, g4⟩
      exact ⟨rfl, g1, fin w' g1 g2 g3 g4⟩
    · refine (push_zero C m v hv w hC).mono ?_
      rintro e w' ⟨rfl, g1, g2, g3, g4⟩
      exact ⟨rfl, g1, fin w' g1 g2 g3 g4⟩
  · have hpos : 0 < es.length := List.length_pos_iff.2 hnil
    have hC : Bk w C #[m, pt es[0].1, pt es[es.length - 1].1, np, .nilIface, .int .i64 (es.length : Int)] 32 := by
      rcases h.head with hC | ⟨e, _⟩
      · have e1 : fst0 C es = pt es[0].1 := by simp [fst0, List.getElem?_eq_getElem hpos]
        have e2 : lst0 C es = pt es[es.length - 1].1 := by
          obtain ⟨k, hk⟩ : ∃ k, es.length = k + 1 := ⟨es.length - 1, by omega⟩
          simp only [lst0, hk, pv, Nat.add_sub_cancel]
          rw [List.getElem?_eq_getElem (by omega)]
        rw [e1, e2] at hC; exact hC
      · exact absurd e hnil
    have hlast : es.length - 1 < es.length := by omega
    have hL := h.elem (es.length - 1) hlast
    have en : nx C es (es.length - 1) = rt C := by
      simp only [nx]; rw [List.getElem?_eq_none (by omega)]
    rw [en] at hL
    refine (push_more C es[es.length - 1].1 ⟨es[0].1, 0, none⟩ m v (pv C es (es.length - 1)) es[es.length - 1].2 (es.length : Int) (by rw [IntKind.wrap_i64]; omega) hv w (nodup_neC h.nodup hlast) hC hL).mono ?_
    rintro e w' ⟨rfl, g1, g2, g3, g4, g5⟩
    refine ⟨rfl, g1, g2.mono (fun k _ e => e.elim Or.inl (fun e => Or.inr (e ▸ List.mem_map.2 ⟨_, List.getElem_mem hlast, rfl⟩))), ⟨Or.inl ?_, fun j hj => ?_, hnd, by simp; omega, hval⟩⟩
    · have e1 : fst0 C (es ++ [(w.heap.size, v)]) = pt es[0].1 := by simp only [fst0]; rw [List.getElem?_append_left hpos, List.getElem?_eq_getElem hpos]
      have e2 : lst0 C (es ++ [(w.heap.size, v)]) = pt w.heap.size := by
        simp only [lst0, List.length_append, List.length_cons, List.length_nil, Nat.zero_add, pv]
        simp
      rw [e1, e2]
      simpa using g3
    · simp at hj
      by_cases e1 : j = es.length
      · subst e1
        have q1 : nx C (es ++ [(w.heap.size, v)]) es.length = rt C := by simp [nx]
        have q2 : pv C (es ++ [(w.heap.size, v)]) es.length = pt es[es.length - 1].1 := by
          rw [pv_append _ (Nat.le_refl _)]
          obtain ⟨k, hk⟩ : ∃ k, es.length = k + 1 := ⟨es.length - 1, by omega⟩
          simp only [hk, pv, Nat.add_sub_cancel]
          rw [List.getElem?_eq_getElem (by omega)]
        rw [q1, q2]
        simpa using g5
      · have hj' : j < es.length := by omega
        rw [pv_append _ (by omega)]
        by_cases e2 : j = es.length - 1
        · subst e2
          have q1 : nx C (es ++ [(w.heap.size, v)]) (es.length - 1) = pt w.heap.size := by
            simp only [nx, show es.length - 1 + 1 = es.length by omega]; simp
          rw [q1]
          simpa [List.getElem_append_left hj'] using g4
        · rw [nx_append _ (by omega)]
          have hb := g2.block es[j].1 (hlt _ (Or.inr (List.mem_map.2 ⟨_, List.getElem_mem hj', rfl⟩))) (fun e => by
            rcases e with e | e
            · exact nodup_neC h.nodup hj' e
            · exact e2 (nodup_inj h.nodup hj' hlast e))
          rw [List.getElem_append_left hj']
          exact hb.trans (h.elem j hj')


/-- Remove, out of remove. -/
theorem remove_of {E : Nat} {nx pv v : Value} {Pq : World → Prop} (hE : Bk w E #[nx, pv, rt C, v] 28) (hv : ∃ t x, v = .iface t x)
    (h : Calls Yba.prog 30 #[.pointer (some ⟨C, 1, none⟩), pt E] w fun e w' => e = .returned (.tuple #[]) ∧ Pq w') (hP : ∀ w', Pq w' → Bk w' E #[np, np, np, v] 28) :
    Calls Yba.prog 24 #[.pointer (some ⟨C, 1, none⟩), pt E] w fun e w' => e = .returned v ∧ Pq w' := by
  obtain ⟨t, x, rfl⟩ := hv
  have c2 := hE.cell 2
  simp at c2
  obtain ⟨j, hj, _⟩ := Yba.info30
  have hq := run_eql_ptr_same (P := Yba.prog) w (tp := 26) (te := 30) ⟨C, 1, none⟩ Yba.underlying26 hj
  go_enter Yba.func24, Yba.ntmps24
  go_wp2_with (go_at_call 30; refine h.mono ?_; rintro e w1 ⟨rfl, hP1⟩; have c3 := (hP w1 hP1).cell 3; simp at c3)
  go_ret
  exact ⟨rfl, hP1⟩

theorem nx_erase_lt {i j : Nat} (h : i + 1 < j) : nx C (es.eraseIdx j) i = nx C es i := by
  simp only [nx]; rw [List.getElem?_eraseIdx_of_lt h]
theorem nx_erase_at {i : Nat} : nx C (es.eraseIdx (i + 1)) i = nx C es (i + 1) := by
  simp only [nx]; rw [List.getElem?_eraseIdx_of_ge (Nat.le_refl _)]
theorem nx_erase_ge {i j : Nat} (h : j ≤ i) : nx C (es.eraseIdx j) i = nx C es (i + 1) := by
  simp only [nx]; rw [List.getElem?_eraseIdx_of_ge (by omega)]
theorem pv_erase_le {i j : Nat} (h : i ≤ j) : pv C (es.eraseIdx j) i = pv C es i := by
  cases i with
  | zero => rfl
  | succ i => simp only [pv]; rw [List.getElem?_eraseIdx_of_lt (by omega)]
theorem pv_erase_gt {i j : Nat} (h : j < i) : pv C (es.eraseIdx j) i = pv C es (i + 1) := by
  cases i with
  | zero => omega
  | succ i => simp only [pv]; rw [List.getElem?_eraseIdx_of_ge (by omega)]
end Go.Proofs.Ybulkdrpg
