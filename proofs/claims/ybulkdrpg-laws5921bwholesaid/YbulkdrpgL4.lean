import Derived.Test.YbulkdrpgL3
namespace Go.Proofs.Ybulkdrpg
open Go.RowKit
variable {w : World} {C : Nat} {m : Value} {es : List (Nat × Value)}

theorem fst0_nil : fst0 C [] = rt C := rfl
theorem len_erase {j : Nat} (hj : j < es.length) : (es.eraseIdx j).length = es.length - 1 := List.length_eraseIdx_of_lt hj

theorem Ls.erased {w' : World} {j : Nat} (h : Ls w C m es) (hj : j < es.length)
    (hC : Bk w' C #[m, fst0 C (es.eraseIdx j), lst0 C (es.eraseIdx j), np, .nilIface, .int .i64 ((es.length : Int) - 1)] 32)
    (hel : ∀ i (hi : i < es.length), i ≠ j → Bk w' es[i].1 #[if i + 1 = j then nx C es j else nx C es i, if i = j + 1 then pv C es j else pv C es i, rt C, es[i].2] 28) :
    Ls w' C m (es.eraseIdx j) := by
  have hlen := len_erase hj
  refine ⟨Or.inl ?_, fun i hi => ?_, ?_, by have := h.room; omega, fun e he => h.val e (List.mem_of_mem_eraseIdx he)⟩
  · rw [hlen, show ((es.length - 1 : Nat) : Int) = (es.length : Int) - 1 by omega]; exact hC
  · rw [hlen] at hi
    by_cases hij : i < j
    · have := hel i (by omega) (by omega)
      rw [List.getElem_eraseIdx_of_lt (by omega) hij, pv_erase_le (by omega)]
      rw [if_neg (by omega : ¬ i = j + 1)] at this
      by_cases e : i + 1 = j
      · rw [if_pos e] at this
        subst e
        rw [nx_erase_at]; exact this
      · rw [if_neg e] at this
        rw [nx_erase_lt (by omega)]; exact this
    · have := hel (i + 1) (by omega) (by omega)
      rw [List.getElem_eraseIdx_of_ge (by omega) (by omega), nx_erase_ge (by omega)]
      rw [if_neg (by omega : ¬ i + 1 + 1 = j)] at this
      by_cases e : i = j
      · subst e
        rw [if_pos rfl] at this
        rw [pv_erase_le (Nat.le_refl _)]; exact this
      · rw [if_neg (by omega)] at this
        rw [pv_erase_gt (by omega)]; exact this
  · have : ((es.eraseIdx j).map (·.1)).Sublist (es.map (·.1)) := (List.eraseIdx_sublist es j).map _
    exact (this.cons_cons C).nodup h.nodup

theorem Ls.block (h : Ls w C m es) (hpos : 0 < es.length) : Bk w C #[m, fst0 C es, lst0 C es, np, .nilIface, .int .i64 (es.length : Int)] 32 := by
  rcases h.head with k | ⟨k, _⟩
  · exact k
  · rw [k] at hpos; simp at hpos

theorem nx_some {j : Nat} (h : j + 1 < es.length) : nx C es j = pt es[j + 1].1 := by
  simp only [nx]; rw [List.getElem?_eq_getElem h]
theorem nx_none {j : Nat} (h : es.length ≤ j + 1) : nx C es j = rt C := by
  simp only [nx]; rw [List.getElem?_eq_none h]
theorem pv_some {j : Nat} (h : j < es.length) : pv C es (j + 1) = pt es[j].1 := by
  simp only [pv]; rw [List.getElem?_eq_getElem h]
theorem fst0_some (h : 0 < es.length) : fst0 C es = pt es[0].1 := by
  simp only [fst0]; rw [List.getElem?_eq_getElem h]

/-- Remove. -/
theorem remove_any {j : Nat} (h : Ls w C m es) (hj : j < es.length) :
    Calls Yba.prog 24 #[.pointer (some ⟨C, 1, none⟩), pt es[j].1] w fun e w' => e = .returned es[j].2 ∧ (w'.heap.size = w.heap.size ∧ Only (inL C es) w w' ∧ Ls w' C m (es.eraseIdx j)) := by
  have hlt := h.lt
  have hmem : ∀ i (hi : i < es.length), inL C es es[i].1 := fun i hi => Or.inr (List.mem_map.2 ⟨_, List.getElem_mem hi, rfl⟩)
  have hC := h.block (by omega)
  have hE := h.elem j hj
  have hnC := nodup_neC h.nodup hj
  have hk : IntKind.i64.wrap ((es.length : Int) - 1) = (es.length : Int) - 1 := by have := h.room; rw [IntKind.wrap_i64]; omega
  have hv := h.val es[j] (List.getElem_mem hj)
  have hlen := len_erase hj
  have apart : ∀ {i i' : Nat} (hi : i < es.length) (hi' : i' < es.length), i ≠ i' → es[i].1 ≠ es[i'].1 := fun hi hi' e e' => e (nodup_inj h.nodup hi hi' e')
  suffices hs : Calls Yba.prog 30 #[.pointer (some ⟨C, 1, none⟩), pt es[j].1] w fun e w' => e = .returned (.tuple #[]) ∧ ((w'.heap.size = w.heap.size ∧ Only (inL C es) w w' ∧ Ls w' C m (es.eraseIdx j)) ∧ Bk w' es[j].1 #[np, np, np, es[j].2] 28) from
    (remove_of hE hv hs (fun w' k => k.2)).mono fun e w' ⟨k1, k2⟩ => ⟨k1, k2.1⟩
  by_cases h0 : j = 0
  · by_cases h1 : es.length = 1
    · -- the only one
      rw [nx_none (by omega), show pv C es j = rt C by rw [h0]; rfl] at hE
      have e1 : fst0 C es = pt es[j].1 := by rw [fst0_some (by omega)]; simp [h0]
      have e2 : lst0 C es = pt es[j].1 := by simp only [lst0, h1]; rw [pv_some (by omega)]; simp [h0]
      rw [e1, e2] at hC
      refine (rem_only C es[j].1 m es[j].2 _ hk w hnC hC hE).mono ?_
      rintro e w' ⟨rfl, g1, g2, g3, g4⟩
      refine ⟨rfl, ⟨g1, g2.mono (fun k _ s => s.elim Or.inl (fun s => s ▸ hmem j hj)), h.erased hj ?_ (fun i hi hne => by omega)⟩, g4⟩
      have e3 : es.eraseIdx j = [] := List.length_eq_zero_iff.1 (by omega)
      rw [e3]; exact g3
    · -- the first of several
      have h2 : j + 1 < es.length := by omega
      have hN := h.elem (j + 1) h2
      rw [nx_some h2, show pv C es j = rt C by rw [h0]; rfl] at hE
      rw [pv_some hj] at hN
      have e1 : fst0 C es = pt es[j].1 := by rw [fst0_some (by omega)]; simp [h0]
      rw [e1] at hC
      refine (rem_first C es[j].1 es[j + 1].1 m (lst0 C es) (nx C es (j + 1)) es[j + 1].2 es[j].2 _ hk w hnC (apart hj h2 (by omega)) (nodup_neC h.nodup h2) hC hN hE).mono ?_
      rintro e w' ⟨rfl, g1, g2, g3, g4, g5⟩
      refine ⟨rfl, ⟨g1, g2.mono (fun k _ s => s.elim Or.inl (fun s => s.elim (fun s => s ▸ hmem j hj) (fun s => s ▸ hmem (j + 1) h2))), h.erased hj ?_ (fun i hi hne => ?_)⟩, g5⟩
      · have e2 : fst0 C (es.eraseIdx j) = pt es[j + 1].1 := by
          simp only [fst0]; rw [List.getElem?_eraseIdx_of_ge (by omega), List.getElem?_eq_getElem (by omega)]; simp [h0]
        have e3 : lst0 C (es.eraseIdx j) = lst0 C es := by
          simp only [lst0]; rw [hlen, pv_erase_gt (by omega), show es.length - 1 + 1 = es.length by omega]
        rw [e2, e3]; exact g3
      · rw [if_neg (by omega : ¬ i + 1 = j)]
        by_cases e : i = j + 1
        · subst e
          rw [if_pos rfl, show pv C es j = rt C by rw [h0]; rfl]; exact g4
        · rw [if_neg e]
          exact (g2.block _ (hlt _ (hmem i hi)) (fun s => by
            rcases s with s | s | s
            · exact nodup_neC h.nodup hi s
            · exact apart hi hj hne s
            · exact apart hi h2 e s)).trans (h.elem i hi)
  · obtain ⟨i0, hi0⟩ : ∃ i0, j = i0 + 1 := ⟨j - 1, by omega⟩
    have hp0 : i0 < es.length := by omega
    have hP := h.elem i0 hp0
    have ep : pv C es j = pt es[i0].1 := by rw [hi0]; exact pv_some hp0
    have en : nx C es i0 = pt es[j].1 := by rw [nx_some (by omega)]; simp [hi0]
    rw [en] at hP
    rw [ep] at hE
    have ef : fst0 C (es.eraseIdx j) = fst0 C es := by
      simp only [fst0]; rw [List.getElem?_eraseIdx_of_lt (by omega)]
    by_cases h1 : j + 1 = es.length
    · -- the last of several
      rw [nx_none (by omega)] at hE
      have e2 : lst0 C es = pt es[j].1 := by simp only [lst0, ← h1]; rw [pv_some hj]
      rw [e2] at hC
      refine (rem_last C es[j].1 es[i0].1 m (fst0 C es) (pv C es i0) es[i0].2 es[j].2 _ hk w hnC (apart hj hp0 (by omega)) (nodup_neC h.nodup hp0) hC hP hE).mono ?_
      rintro e w' ⟨rfl, g1, g2, g3, g4, g5⟩
      refine ⟨rfl, ⟨g1, g2.mono (fun k _ s => s.elim Or.inl (fun s => s.elim (fun s => s ▸ hmem j hj) (fun s => s ▸ hmem i0 hp0))), h.erased hj ?_ (fun i hi hne => ?_)⟩, g5⟩
      · have e3 : lst0 C (es.eraseIdx j) = pt es[i0].1 := by
          simp only [lst0]; rw [hlen, pv_erase_le (by omega), show es.length - 1 = j by omega, ep]
        rw [ef, e3]; exact g3
      · rw [if_neg (by omega : ¬ i = j + 1)]
        by_cases e : i + 1 = j
        · obtain rfl : i = i0 := by omega
          rw [if_pos e, nx_none (by omega)]; exact g4
        · rw [if_neg e]
          exact (g2.block _ (hlt _ (hmem i hi)) (fun s => by
            rcases s with s | s | s
            · exact nodup_neC h.nodup hi s
            · exact apart hi hj hne s
            · exact apart hi hp0 (by omega) s)).trans (h.elem i hi)
    · -- in the midst
      have h2 : j + 1 < es.length := by omega
      have hN := h.elem (j + 1) h2
      rw [nx_some h2] at hE
      rw [pv_some hj] at hN
      refine (rem_mid C es[j].1 es[i0].1 es[j + 1].1 m (fst0 C es) (lst0 C es) (pv C es i0) es[i0].2 (nx C es (j + 1)) es[j + 1].2 es[j].2 _ hk w hnC (apart hj hp0 (by omega)) (apart hj h2 (by omega)) (nodup_neC h.nodup hp0) (nodup_neC h.nodup h2) (apart hp0 h2 (by omega)) hC hP hN hE).mono ?_
      rintro e w' ⟨rfl, g1, g2, g3, g4, g5, g6⟩
      refine ⟨rfl, ⟨g1, g2.mono (fun k _ s => s.elim Or.inl (fun s => s.elim (fun s => s ▸ hmem j hj) (fun s => s.elim (fun s => s ▸ hmem i0 hp0) (fun s => s ▸ hmem (j + 1) h2)))), h.erased hj ?_ (fun i hi hne => ?_)⟩, g6⟩
      · have e3 : lst0 C (es.eraseIdx j) = lst0 C es := by
          simp only [lst0]; rw [hlen, pv_erase_gt (by omega), show es.length - 1 + 1 = es.length by omega]
        rw [ef, e3]; exact g3
      · by_cases e : i + 1 = j
        · obtain rfl : i = i0 := by omega
          rw [if_pos e, if_neg (by omega : ¬ i = j + 1), nx_some h2]; exact g4
        · rw [if_neg e]
          by_cases e' : i = j + 1
          · subst e'
            rw [if_pos rfl, ep]; exact g5
          · rw [if_neg e']
            exact (g2.block _ (hlt _ (hmem i hi)) (fun s => by
              rcases s with s | s | s | s
              · exact nodup_neC h.nodup hi s
              · exact apart hi hj hne s
              · exact apart hi hp0 (by omega) s
              · exact apart hi h2 e' s)).trans (h.elem i hi)
end Go.Proofs.Ybulkdrpg
