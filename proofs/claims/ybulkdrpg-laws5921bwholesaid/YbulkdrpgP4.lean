import Derived.Test.YbulkdrpgP3
namespace Go.Proofs.Ybulkdrpg
open Go.RowKit Go.Maps Go.WideMaps Go.WideElems
variable {w w' : World} {C L N : Nat} {mb : Option Nat} {DM : DataW Nat} {rs : List Rc} {v : Value} {ns : List Value} {A B : List Say} {F : Nat → Prop}

/-! ### the plain list -/
def fi (c : Int) (A : List Say) : Nat := A.findIdx (fun a => decide (a.1 = c))
def lessOf (l : List ByteArray) (name : ByteArray) : List ByteArray := l.eraseIdx (l.findIdx (fun x => decide (x = name)))
def moreOf (l : List ByteArray) (name : ByteArray) : List ByteArray := if l.any (fun x => decide (x = name)) = true then l else l ++ [name]
theorem moreOf_in {l : List ByteArray} {name : ByteArray} (h : name ∈ l) : moreOf l name = l := by
  unfold moreOf
  rw [if_pos (List.any_eq_true.2 ⟨name, h, by simp⟩)]
theorem moreOf_out {l : List ByteArray} {name : ByteArray} (h : name ∉ l) : moreOf l name = l ++ [name] := by
  unfold moreOf
  rw [if_neg (fun e => ?_)]
  obtain ⟨x, hx, e⟩ := List.any_eq_true.1 e
  have : x = name := by simpa using e
  exact h (this ▸ hx)
def addS (c s : Int) (name : ByteArray) (A : List Say) : List Say :=
  if h : fi c A < A.length then A.set (fi c A) (A[fi c A].1, A[fi c A].2.1, moreOf A[fi c A].2.2 name) else A ++ [(c, s, [name])]
def rmS (c : Int) (name : ByteArray) (A : List Say) : List Say :=
  if h : fi c A < A.length then (if lessOf A[fi c A].2.2 name = [] then A.eraseIdx (fi c A) else A.set (fi c A) (A[fi c A].1, A[fi c A].2.1, lessOf A[fi c A].2.2 name)) else A

theorem fi_hit {c : Int} (h : fi c A < A.length) : A[fi c A].1 = c := by
  have := List.findIdx_getElem (xs := A) (p := fun a : Say => decide (a.1 = c)) (w := h)
  exact of_decide_eq_true this
theorem fi_before {c : Int} : ∀ i (hi : i < A.length), i < fi c A → A[i].1 ≠ c := fun i hi hlt => by
  have := List.not_of_lt_findIdx (p := fun a : Say => decide (a.1 = c)) (xs := A) hlt
  simpa using this
theorem fi_miss {c : Int} (h : ¬ fi c A < A.length) : ∀ i (hi : i < A.length), A[i].1 ≠ c := fun i hi => fi_before i hi (by omega)

theorem lessOf_first (l : List ByteArray) (name : ByteArray) : (name ∉ l ∧ lessOf l name = l) ∨ ∃ (i : Nat) (hi : i < l.length), l[i] = name ∧ (∀ k (hk : k < l.length), k < i → l[k] ≠ name) ∧ lessOf l name = l.eraseIdx i := by
  have hb : ∀ k (hk : k < l.length), k < l.findIdx (fun x => decide (x = name)) → l[k] ≠ name := fun k hk hlt => by
    have := List.not_of_lt_findIdx (p := fun x : ByteArray => decide (x = name)) (xs := l) hlt
    simpa using this
  by_cases h : l.findIdx (fun x => decide (x = name)) < l.length
  · refine Or.inr ⟨_, h, ?_, hb, rfl⟩
    have := List.findIdx_getElem (xs := l) (p := fun x => decide (x = name)) (w := h)
    simpa using this
  · refine Or.inl ⟨fun hm => ?_, List.eraseIdx_of_length_le (by omega)⟩
    obtain ⟨k, hk, e⟩ := List.mem_iff_getElem.1 hm
    exact hb k hk (by omega) e
theorem lessOf_less (l : List ByteArray) (name : ByteArray) : Less l name (lessOf l name) := by
  rcases lessOf_first l name with h | ⟨i, hi, h1, _, h2⟩
  · exact Or.inl h
  · exact Or.inr ⟨i, hi, h1, h2⟩
theorem lessOf_len (l : List ByteArray) (name : ByteArray) : (lessOf l name).length ≤ l.length := List.length_eraseIdx_le _ _

/-- The plain list within bounds. -/
def Gd (N : Nat) (A : List Say) : Prop := A.length ≤ N ∧ ∀ a ∈ A, a.2.2.length ≤ N ∧ a.2.2 ≠ []

theorem Gd.add (h : Gd N A) (c s : Int) (name : ByteArray) : Gd (N + 1) (addS c s name A) := by
  unfold addS
  split
  · rename_i hf
    refine ⟨by simpa using Nat.le_succ_of_le h.1, fun a ha => ?_⟩
    rcases List.mem_or_eq_of_mem_set ha with ha | rfl
    · exact ⟨Nat.le_succ_of_le (h.2 a ha).1, (h.2 a ha).2⟩
    · have := h.2 _ (List.getElem_mem hf)
      by_cases hin : name ∈ A[fi c A].2.2
      · rw [moreOf_in hin]; exact ⟨Nat.le_succ_of_le this.1, this.2⟩
      · rw [moreOf_out hin]; exact ⟨by simpa using this.1, by simp⟩
  · refine ⟨by simpa using h.1, fun a ha => ?_⟩
    rcases List.mem_append.1 ha with ha | ha
    · exact ⟨Nat.le_succ_of_le (h.2 a ha).1, (h.2 a ha).2⟩
    · simp at ha; subst ha
      exact ⟨by simp, by simp⟩
theorem Gd.rm (h : Gd N A) (c : Int) (name : ByteArray) : Gd N (rmS c name A) := by
  unfold rmS
  split
  · rename_i hf
    split
    · exact ⟨Nat.le_trans (List.length_eraseIdx_le _ _) h.1, fun a ha => h.2 a (List.mem_of_mem_eraseIdx ha)⟩
    · rename_i hne
      refine ⟨by simpa using h.1, fun a ha => ?_⟩
      rcases List.mem_or_eq_of_mem_set ha with ha | rfl
      · exact h.2 a ha
      · exact ⟨Nat.le_trans (lessOf_len _ _) (h.2 _ (List.getElem_mem hf)).1, hne⟩
  · exact h
theorem Gd.mono {M : Nat} (h : Gd N A) (hm : N ≤ M) : Gd M A := ⟨Nat.le_trans h.1 hm, fun a ha => ⟨Nat.le_trans (h.2 a ha).1 hm, (h.2 a ha).2⟩⟩

/-! ### both halves -/
/-- F: blocks that are neither half's. -/
def St (w : World) (C L : Nat) (F : Nat → Prop) (v : Value) (A B : List Say) : Prop :=
  ∃ mb DM rs ns, Cs w C mb DM rs ∧ rs.map say = A ∧ Mo w L v ns B ∧ (∀ k, moB v ns k → k ∉ blocks C mb rs ∧ ¬ F k) ∧ (∀ k ∈ blocks C mb rs, L ≤ k ∧ ¬ F k) ∧ (L ≤ w.heap.size ∧ ∀ k, F k → k < w.heap.size)

/-- The clients' half went on. -/
theorem st_cs {mb' : Option Nat} {DM' : DataW Nat} {rs' : List Rc} (hM : Mo w L v ns B) (hd : ∀ k, moB v ns k → k ∉ blocks C mb rs ∧ ¬ F k) (hl : ∀ k ∈ blocks C mb rs, L ≤ k ∧ ¬ F k) (hL : L ≤ w.heap.size ∧ ∀ k, F k → k < w.heap.size)
    (hC' : Cs w' C mb' DM' rs') (hb : ∀ x ∈ blocks C mb' rs', x ∈ blocks C mb rs ∨ w.heap.size ≤ x) (hO : Only (· ∈ blocks C mb rs) w w') : St w' C L F v (rs'.map say) B ∧ Only (fun k => L ≤ k ∧ ¬ F k) w w' := by
  have hs := hO.size
  refine ⟨⟨mb', DM', rs', ns, hC', rfl, hM.same hO.size (fun k hk => hO.block k (hM.lt hk).1 (hd k hk).1), fun k hk => ⟨fun hin => ?_, (hd k hk).2⟩, fun k hk => ?_, Nat.le_trans hL.1 hO.size, fun k hk => Nat.lt_of_lt_of_le (hL.2 k hk) hs⟩, hO.mono (fun k _ hk => hl k hk)⟩
  · rcases hb k hin with h | h
    · exact (hd k hk).1 h
    · have := (hM.lt hk).1; omega
  · rcases hb k hk with h | h
    · exact hl k h
    · exact ⟨by omega, fun hf => by have := hL.2 k hf; omega⟩
/-- The model's half went on. -/
theorem st_mo {v' : Value} {ns' : List Value} {B' : List Say} (hC : Cs w C mb DM rs) (hM : Mo w L v ns B) (hd : ∀ k, moB v ns k → k ∉ blocks C mb rs ∧ ¬ F k) (hl : ∀ k ∈ blocks C mb rs, L ≤ k ∧ ¬ F k) (hL : L ≤ w.heap.size ∧ ∀ k, F k → k < w.heap.size)
    (hM' : Mo w' L v' ns' B') (hb : ∀ k, moB v' ns' k → moB v ns k ∨ w.heap.size ≤ k) (hO : Only (moB v ns) w w') : St w' C L F v' (rs.map say) B' ∧ Only (fun k => L ≤ k ∧ ¬ F k) w w' := by
  have hs := hO.size
  refine ⟨⟨mb, DM, rs, ns', hC.same (fun k hk => hO.block k (hC.lt k hk) (fun h => (hd k h).1 hk)), rfl, hM', fun k hk => ?_, hl, Nat.le_trans hL.1 hO.size, fun k hk => Nat.lt_of_lt_of_le (hL.2 k hk) hs⟩, hO.mono (fun k _ hk => ⟨(hM.lt hk).2, (hd k hk).2⟩)⟩
  rcases hb k hk with h | h
  · exact hd k h
  · exact ⟨fun hin => by have := hC.lt k hin; omega, fun hf => by have := hL.2 k hf; omega⟩

theorem st_add (h : St w C L F v A B) (hg : Gd N A) (hN : N ≤ 100000) (c s : Int) (name : ByteArray) (hwf : (Lit.int .u64 c).wf = true) (hk : name.size ≤ maxLen) :
    Calls Yba.prog 7 #[.pointer (some ⟨C, 0, none⟩), .int .u64 c, .string name, .int .u64 s] w fun e w' => e = .returned (.tuple #[]) ∧ St w' C L F v (addS c s name A) B ∧ Only (fun k => L ≤ k ∧ ¬ F k) w w' := by
  obtain ⟨mb, DM, rs, ns, hC, rfl, hM, hd, hl, hL⟩ := h
  have hlen : rs.length ≤ N := by simpa using hg.1
  unfold addS
  split
  · rename_i hf
    have hj : fi c (rs.map say) < rs.length := by simpa using hf
    have hc := fi_hit hf
    have hnl := (hg.2 _ (List.getElem_mem hf)).1
    have hA : (rs.map say)[fi c (rs.map say)] = say rs[fi c (rs.map say)] := by simp
    rw [hA] at hc hnl ⊢
    refine (cs_add_known (j := fi c (rs.map say)) c s name (moreOf rs[fi c (rs.map say)].names name) hC hj hc hk ?_ (by simp only [say] at hnl; omega)).mono ?_
    · by_cases hin : name ∈ rs[fi c (rs.map say)].names
      · exact Or.inl ⟨hin, moreOf_in hin⟩
      · exact Or.inr ⟨hin, moreOf_out hin⟩
    · rintro e w' ⟨rfl, rs', hC', hs, hb, hO⟩
      obtain ⟨h1, h2⟩ := st_cs hM hd hl hL hC' (fun x hx => Or.inl (hb ▸ hx)) hO
      rw [hs] at h1
      exact ⟨rfl, h1, h2⟩
  · rename_i hf
    refine (cs_add_new c s name hC (fun r hr => ?_) hwf hk (by omega)).mono ?_
    · obtain ⟨i, hi, rfl⟩ := List.mem_iff_getElem.1 hr
      have := fi_miss hf i (by simpa using hi)
      simpa [say] using this
    · rintro e w' ⟨rfl, mb', DM', rs', hC', hs, hb, hO⟩
      obtain ⟨h1, h2⟩ := st_cs hM hd hl hL hC' hb hO
      rw [hs] at h1
      exact ⟨rfl, h1, h2⟩

theorem st_apply (h : St w C L F v A B) (hg : Gd N B) (hN : N ≤ 100000) (c s : Int) (name : ByteArray) :
    Calls Yba.prog 8 #[v, .int .u64 c, .string name, .int .u64 s] w fun e w' => ∃ v', e = .returned v' ∧ St w' C L F v' A (addS c s name B) ∧ Only (fun k => L ≤ k ∧ ¬ F k) w w' := by
  obtain ⟨mb, DM, rs, ns, hC, rfl, hM, hd, hl, hL⟩ := h
  have hlen : B.length ≤ N := hg.1
  unfold addS
  split
  · rename_i hf
    have hc := fi_hit hf
    have hnl := (hg.2 _ (List.getElem_mem hf)).1
    by_cases hin : name ∈ B[fi c B].2.2
    · refine (apply_there (fi c B) c s name hM (by omega) hf hc fi_before hin (by omega)).mono ?_
      rintro e w' ⟨rfl, hw⟩
      obtain rfl := hw.symm
      have e1 : B.set (fi c B) (B[fi c B].1, B[fi c B].2.1, moreOf B[fi c B].2.2 name) = B := by
        rw [moreOf_in hin]
        exact List.set_getElem_self hf
      rw [e1]
      exact ⟨v, rfl, ⟨mb, DM, rs, ns, hC, rfl, hM, hd, hl, hL⟩, Only.refl _ _⟩
    · refine (apply_name (fi c B) c s name hM hL.1 (by omega) hf hc fi_before hin (by omega)).mono ?_
      rintro e w' ⟨rfl, ns', hM', hO, hb⟩
      have e1 : moreOf B[fi c B].2.2 name = B[fi c B].2.2 ++ [name] := moreOf_out hin
      rw [e1]
      exact ⟨v, rfl, st_mo hC hM hd hl hL hM' hb hO⟩
  · rename_i hf
    refine (apply_new c s name hM hL.1 (by omega) (fi_miss hf)).mono ?_
    rintro e w' ⟨v', ns', rfl, hM', hO, hb⟩
    exact ⟨v', rfl, st_mo hC hM hd hl hL hM' hb hO⟩

theorem st_rm (h : St w C L F v A B) (c : Int) (name : ByteArray) (hwf : (Lit.int .u64 c).wf = true) (hk : name.size ≤ maxLen) :
    Calls Yba.prog 5 #[.pointer (some ⟨C, 0, none⟩), .int .u64 c, .string name] w fun e w' => e = .returned (.tuple #[]) ∧ St w' C L F v (rmS c name A) B ∧ Only (fun k => L ≤ k ∧ ¬ F k) w w' := by
  obtain ⟨mb, DM, rs, ns, hC, rfl, hM, hd, hl, hL⟩ := h
  unfold rmS
  split
  · rename_i hf
    have hj : fi c (rs.map say) < rs.length := by simpa using hf
    have hc := fi_hit hf
    have hA : (rs.map say)[fi c (rs.map say)] = say rs[fi c (rs.map say)] := by simp
    rw [hA] at hc ⊢
    have hless := lessOf_less rs[fi c (rs.map say)].names name
    split
    · rename_i he
      have he' : lessOf rs[fi c (rs.map say)].names name = [] := he
      rw [he'] at hless
      refine (cs_rm_drop (j := fi c (rs.map say)) c name hC hj hc hk hless).mono ?_
      rintro e w' ⟨rfl, DM', rs', hC', hs, hb, hO⟩
      obtain ⟨h1, h2⟩ := st_cs hM hd hl hL hC' (fun x hx => Or.inl (hb x hx)) hO
      rw [hs] at h1
      exact ⟨rfl, h1, h2⟩
    · rename_i he
      refine (cs_rm_keep (j := fi c (rs.map say)) c name _ hC hj hc hk hless he).mono ?_
      rintro e w' ⟨rfl, rs', hC', hs, hb, hO⟩
      obtain ⟨h1, h2⟩ := st_cs hM hd hl hL hC' (fun x hx => Or.inl (hb ▸ hx)) hO
      rw [hs] at h1
      exact ⟨rfl, h1, h2⟩
  · rename_i hf
    refine (cs_rm_unknown c name hC (fun r hr => ?_) hwf).mono ?_
    · obtain ⟨i, hi, rfl⟩ := List.mem_iff_getElem.1 hr
      have := fi_miss hf i (by simpa using hi)
      simpa [say] using this
    · rintro e w' ⟨rfl, hw⟩
      obtain rfl := hw.symm
      exact ⟨rfl, ⟨mb, DM, rs, ns, hC, rfl, hM, hd, hl, hL⟩, Only.refl _ _⟩

theorem st_zrm (h : St w C L F v A B) (hg : Gd N B) (hN : N ≤ 100000) (c : Int) (name : ByteArray) :
    Calls Yba.prog 6 #[v, .int .u64 c, .string name] w fun e w' => ∃ v', e = .returned v' ∧ St w' C L F v' A (rmS c name B) ∧ Only (fun k => L ≤ k ∧ ¬ F k) w w' := by
  obtain ⟨mb, DM, rs, ns, hC, rfl, hM, hd, hl, hL⟩ := h
  have hlen : B.length ≤ N := hg.1
  unfold rmS
  split
  · rename_i hf
    have hc := fi_hit hf
    have hnl := hg.2 _ (List.getElem_mem hf)
    refine (mo_rm_known hM (by omega) c name hf hc fi_before (by omega) hnl.2 _ (lessOf_first B[fi c B].2.2 name)).mono ?_
    rintro e w' ⟨v', ns', rfl, hM', hO, hb⟩
    exact ⟨v', rfl, st_mo hC hM hd hl hL hM' hb hO⟩
  · rename_i hf
    refine (mo_rm_unknown hM (by omega) c name (fi_miss hf)).mono ?_
    rintro e w' ⟨rfl, hw⟩
    obtain rfl := hw.symm
    exact ⟨v, rfl, ⟨mb, DM, rs, ns, hC, rfl, hM, hd, hl, hL⟩, Only.refl _ _⟩

theorem st_same (h : St w C L F v A A) (hg : Gd N A) (hN : N ≤ 100000) :
    Calls Yba.prog 9 #[.pointer (some ⟨C, 0, none⟩), v] w fun e w' => e = .returned (.bool true) ∧ St w' C L F v A A ∧ Only (fun k => L ≤ k ∧ ¬ F k) w w' := by
  obtain ⟨mb, DM, rs, ns, hC, rfl, hM, hd, hl, hL⟩ := h
  have hlen : rs.length ≤ N := by simpa using hg.1
  refine (same_true hC hM (by omega) (fun r hr => ?_)).mono ?_
  · have := (hg.2 (say r) (List.mem_map.2 ⟨r, hr, rfl⟩)).1
    simp only [say] at this
    omega
  · rintro e w' ⟨rfl, hO⟩
    exact ⟨rfl, ⟨mb, DM, rs, ns, hC.later hO, rfl, hM.later hO, hd, hl, Nat.le_trans hL.1 hO.size, fun k hk => Nat.lt_of_lt_of_le (hL.2 k hk) hO.size⟩, hO.mono (fun _ _ e => e.elim)⟩

theorem St.later (h : St w C L F v A B) (hO : Only (fun _ => False) w w') : St w' C L F v A B := by
  obtain ⟨mb, DM, rs, ns, hC, rfl, hM, hd, hl, hL⟩ := h
  exact ⟨mb, DM, rs, ns, hC.later hO, rfl, hM.later hO, hd, hl, Nat.le_trans hL.1 hO.size, fun k hk => Nat.lt_of_lt_of_le (hL.2 k hk) hO.size⟩
/-- A new block is neither half's. -/
theorem St.fence (h : St w C L F v A B) (hO : Only (fun _ => False) w w') (hs : w.heap.size < w'.heap.size) : St w' C L (· = w.heap.size) v A B := by
  obtain ⟨mb, DM, rs, ns, hC, rfl, hM, hd, hl, hL⟩ := h
  exact ⟨mb, DM, rs, ns, hC.later hO, rfl, hM.later hO, fun k hk => ⟨(hd k hk).1, fun e => by have := (hM.lt hk).1; omega⟩, fun k hk => ⟨(hl k hk).1, fun e => by have := hC.lt k hk; omega⟩, Nat.le_trans hL.1 hO.size, fun k hk => by omega⟩
theorem St.free (h : St w C L F v A B) : St w C L (fun _ => False) v A B := by
  obtain ⟨mb, DM, rs, ns, hC, rfl, hM, hd, hl, hL⟩ := h
  exact ⟨mb, DM, rs, ns, hC, rfl, hM, fun k hk => ⟨(hd k hk).1, fun e => e⟩, fun k hk => ⟨(hl k hk).1, fun e => e⟩, hL.1, fun _ e => e.elim⟩
/-- The zero clients, the nil model. -/
theorem st_zero (h : Bk w C #[.map none, np, np, np, .nilIface, .int .i64 0] 32) (hL : L ≤ C) : St w C L (fun _ => False) (.slice none 0 0) [] [] := by
  have hlt := h.lt
  refine ⟨none, .map [], [], [], ⟨⟨Or.inr ⟨rfl, h⟩, fun j hj => by simp [els] at hj, by simp [els], by simp [els], fun e he => by simp [els] at he⟩, fun i hi => by simp at hi, fun _ => rfl, (fun b hb => by cases hb), by simp, by simp [blocks]⟩, rfl,
    ⟨rfl, ⟨rfl, Or.inl ⟨rfl, rfl⟩⟩, fun j hj => by simp at hj, fun i j hi => by simp at hi, fun j hj => by simp at hj⟩, fun k hk => ?_, fun k hk => ?_, by omega, fun _ e => e.elim⟩
  · rcases hk with hk | ⟨j, hj, _⟩
    · cases hk
    · simp at hj
  · simp [blocks] at hk
    subst hk
    exact ⟨hL, fun e => e⟩
end Go.Proofs.Ybulkdrpg
