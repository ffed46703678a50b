import Derived.Test.YbulkdrpgO2
namespace Go.Proofs.Ybulkdrpg
open Go.RowKit
variable {w w' w2 : World} {L : Nat} {v : Value} {ns : List Value} {A : List Say}

theorem index_sl_at (l : List ByteArray) (x : ByteArray) (u : Value) (i : Nat) (h : Sl w L 1 u l.length (strs l)) (hlen : l.length ≤ 1000000000) (hi : i < l.length) (hx : l[i] = x) (hb : ∀ k (hk : k < l.length), k < i → l[k] ≠ x) :
    Calls Yba.prog 13 #[u, .string x] w fun e w' => e = .returned (.int .i64 (i : Int)) ∧ w' = w := by
  obtain ⟨_, ⟨rfl, h0⟩ | ⟨g, cap, rfl, h1, h2, h3, h4, h5⟩⟩ := h
  · omega
  · refine (Yba.slices_Index_string g 0 l.length cap l x w (Nat.le_refl _) (by omega) (fun j hj => ?_)).mono ?_
    · exact h4 j _ (by simp [strs, hj, List.getD])
    · rintro e w' ⟨rfl, rfl⟩
      refine ⟨?_, rfl⟩
      rw [Lib.idxOfS_hit l l.length i x hi (Nat.le_refl _) (by simp [List.getD, hi, hx]) (fun j hj => by
        have hjl : j < l.length := by omega
        simpa [List.getD, hjl] using hb j hjl hj)]

theorem index_sl_none (l : List ByteArray) (x : ByteArray) (u : Value) (h : Sl w L 1 u l.length (strs l)) (hlen : l.length ≤ 1000000000) (hx : x ∉ l) :
    Calls Yba.prog 13 #[u, .string x] w fun e w' => e = .returned (.int .i64 (-1)) ∧ w' = w := by
  obtain ⟨_, ⟨rfl, h0⟩ | ⟨g, cap, rfl, h1, h2, h3, h4, h5⟩⟩ := h
  · obtain rfl : l = [] := List.length_eq_zero_iff.1 h0
    exact Yba.slices_Index_string_empty none 0 x w
  · refine (Yba.slices_Index_string g 0 l.length cap l x w (Nat.le_refl _) (by omega) (fun j hj => ?_)).mono ?_
    · exact h4 j _ (by simp [strs, hj, List.getD])
    · rintro e w' ⟨rfl, rfl⟩
      refine ⟨?_, rfl⟩
      rw [Lib.idxOfS_miss l l.length x (fun j hj => by
        simp only [List.getD, hj, List.getElem?_eq_getElem, Option.getD_some]
        exact fun e => hx (e ▸ List.getElem_mem hj))]

theorem strsOf_list (l : List ByteArray) : Lib.strsOf (fun i => l.getD i ByteArray.empty) l.length = l.map (fun s => s.data.toList) := by
  apply List.ext_getElem
  · simp [Lib.strsOf]
  · intro i h1 h2
    have hi : i < l.length := by simpa [Lib.strsOf] using h1
    simp [Lib.strsOf, List.getD, hi]

theorem encStr_data : (encStr ∘ fun s : ByteArray => s.data.toList) = Value.string := by
  funext s
  simp [encStr]

theorem del_sl (l : List ByteArray) (u : Value) (i : Nat) (h : Sl w L 1 u l.length (strs l)) (hi : i < l.length) :
    Calls Yba.prog 14 #[u, .int .i64 (i : Int), .int .i64 ((i : Int) + 1)] w fun e w' => ∃ u', e = .returned u' ∧ Sl w' L 1 u' (l.eraseIdx i).length (strs (l.eraseIdx i)) ∧ Only (fun k => u.ownBlock = some k) w w' ∧ u'.ownBlock = u.ownBlock := by
  obtain ⟨_, ⟨rfl, h0⟩ | ⟨g, cap, rfl, h1, h2, h3, h4, h5⟩⟩ := h
  · omega
  · have hm : maxLen = 9223372036854775807 := by unfold maxLen; decide
    have hth : w.there g 0 l.length := fun j hj => h5 j (by omega)
    have key := Yba.slices_Delete_string_cells g 0 l.length cap i (i + 1) (fun i => l.getD i ByteArray.empty) w h3.1 (by omega) (by omega) (by omega) (fun j hj => h4 j _ (by simp [strs, hj, List.getD])) (fun j hj => (hth j hj).2)
    rw [strsOf_list] at key
    refine Calls.mono key ?_
    rintro e w' ⟨rfl, q, rfl⟩
    have hel : (l.eraseIdx i).length = l.length - 1 := List.length_eraseIdx_of_lt hi
    have hcells : (((l.map (fun s : ByteArray => s.data.toList)).take i ++ (l.map (fun s : ByteArray => s.data.toList)).drop (i + 1) ++ List.replicate (i + 1 - i) []).map encStr) = strs (l.eraseIdx i) ++ [.string ⟨#[]⟩] := by
      rw [List.eraseIdx_eq_take_drop_succ]
      simp [strs, encStr_data]
    rw [hcells]
    have hln : (strs (l.eraseIdx i) ++ [Value.string ⟨#[]⟩]).length = l.length := by simp [strs, hel]; omega
    refine ⟨_, rfl, ⟨by simp [strs], Or.inr ⟨g, cap, ?_, h1, by rw [size_setCells]; exact h2, ⟨by omega, h3.2⟩, ?_, ?_⟩⟩, ?_, rfl⟩
    · rw [hel]
      have : i + 1 - i = 1 := by omega
      rw [this]
    · have hr := World.rangeAt_setCells_same (w.drewN q) g 0 (strs (l.eraseIdx i) ++ [Value.string ⟨#[]⟩]) (by rw [hln]; exact there_block hth rfl)
      intro j x hx
      exact hr j x (by rw [List.getElem?_append_left (List.getElem?_eq_some_iff.1 hx).1]; exact hx)
    · exact World.there_setCells (there_block (w := w) (w' := w.drewN q) h5 rfl) _ _ _
    · have ho := os_setCells g (strs (l.eraseIdx i) ++ [Value.string ⟨#[]⟩]) 0 (w.drewN q)
      exact ⟨ho.1, ho.2.1, ho.2.2, by rw [size_setCells]; exact Nat.le_refl _, fun k hk hn => (block_setCells g k (fun e => hn (by rw [e]; rfl)) _ _ _)⟩

theorem flatM_erase : ∀ (A : List Say) (ns : List Value), ns.length = A.length → ∀ (j : Nat), j < A.length → flatM (A.eraseIdx j) (ns.eraseIdx j) = (flatM A ns).take (j * 3) ++ (flatM A ns).drop ((j + 1) * 3)
  | a :: A, v :: ns, h, 0, _ => by simp [flatM]
  | a :: A, v :: ns, h, j + 1, hj => by
    have := flatM_erase A ns (by simpa using h) j (by simpa using hj)
    have e0 : (j + 1) * 3 = j * 3 + 3 := by omega
    have e1 : (j + 1 + 1) * 3 = (j + 1) * 3 + 3 := by omega
    rw [e0, e1]
    simp only [flatM, List.eraseIdx_cons_succ, List.take_succ_cons, List.drop_succ_cons, this, List.cons_append]
  | [], _, _, j, hj => by simp at hj
  | a :: A, [], h, j, _ => by simp at h

/-- A record is gone. -/
theorem Mo.erase {g cap j : Nat} (h : Mo w L v ns A) (hv : v = .slice (some ⟨g, 0, none⟩) A.length cap) (hj : j < A.length) (hr : w'.rangeAt g 0 ((flatM A ns).take (j * 3) ++ (flatM A ns).drop ((j + 1) * 3))) (ht : w'.there g 0 (cap * 3)) (hO : Only (· = g) w w') :
    Mo w' L (.slice (some ⟨g, 0, none⟩) (A.length - 1) cap) (ns.eraseIdx j) (A.eraseIdx j) ∧ Only (moB v ns) w w' ∧ ∀ k, moB (.slice (some ⟨g, 0, none⟩) (A.length - 1) cap) (ns.eraseIdx j) k → moB v ns k := by
  have hns : j < ns.length := by rw [h.len]; exact hj
  have hvb : v.ownBlock = some g := by rw [hv]; rfl
  have hAl : (A.eraseIdx j).length = A.length - 1 := List.length_eraseIdx_of_lt hj
  have hnl : (ns.eraseIdx j).length = ns.length - 1 := List.length_eraseIdx_of_lt hns
  have hlen := h.len
  have hge : ∀ i (hi : i < (ns.eraseIdx j).length), ∃ (k : Nat) (hk : k < ns.length) (hk2 : k < A.length) (hi2 : i < (A.eraseIdx j).length), (ns.eraseIdx j)[i] = ns[k] ∧ (A.eraseIdx j)[i] = A[k] ∧ k = if i < j then i else i + 1 := fun i hi => by
    by_cases e : i < j
    · exact ⟨i, by omega, by omega, by omega, List.getElem_eraseIdx_of_lt hi e, List.getElem_eraseIdx_of_lt (by omega) e, by rw [if_pos e]⟩
    · exact ⟨i + 1, by omega, by omega, by omega, List.getElem_eraseIdx_of_ge hi (by omega), List.getElem_eraseIdx_of_ge (by omega) (by omega), by rw [if_neg e]⟩
  have hrow := h.row
  obtain ⟨hl, ⟨e, _⟩ | ⟨g', cap', e, h1, h2, h3, h4, h5⟩⟩ := hrow
  · rw [hv] at e; cases e
  rw [hv] at e
  cases e
  refine ⟨⟨by omega, ?_, fun i hi => ?_, fun i k hi hk hne b hb => ?_, fun i hi b hb => ?_⟩, hO.mono (fun k _ e => Or.inl (by rw [hvb, e])), fun k hk => ?_⟩
  · rw [flatM_erase A ns h.len j hj]
    refine ⟨by simp [flatM_len A ns h.len]; omega, Or.inr ⟨g, cap, by rw [hAl], h1, by have := hO.size; omega, ⟨by omega, h3.2⟩, hr, ht⟩⟩
  · obtain ⟨k, hk, hk2, _, e1, e2, _⟩ := hge i (by omega)
    rw [e1, e2]
    exact (h.nam k hk2).same hO.size (fun b hb => hO.block b ((h.nam k hk2).lt hb).1 (fun e => h.off k hk b hb (by rw [hvb, e])))
  · obtain ⟨i', hi', _, _, e1, _, f1⟩ := hge i hi
    obtain ⟨k', hk', _, _, e2, _, f2⟩ := hge k hk
    rw [e1] at hb
    rw [e2]
    refine h.apart i' k' hi' hk' (fun e => hne ?_) b hb
    rw [f1, f2] at e
    split at e <;> split at e <;> omega
  · obtain ⟨i', hi', _, _, e1, _, _⟩ := hge i hi
    rw [e1] at hb
    have := h.off i' hi' b hb
    rw [hvb] at this
    exact this
  · rcases hk with hk | ⟨i, hi, hk⟩
    · exact Or.inl (hvb.trans hk)
    · obtain ⟨i', hi', _, _, e1, _, _⟩ := hge i hi
      rw [e1] at hk
      exact Or.inr ⟨i', hi', hk⟩
end Go.Proofs.Ybulkdrpg
