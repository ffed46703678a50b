import Derived.Test.YbulkdrpgN8
namespace Go.Proofs.Ybulkdrpg
open Go.RowKit
variable {w w' w2 : World} {L : Nat} {v : Value} {ns : List Value} {A : List Say}

theorem Sl.lt {n size : Nat} {cs : List Value} (h : Sl w L size v n cs) {b : Nat} (hb : v.ownBlock = some b) : b < w.heap.size ∧ L ≤ b := by
  obtain ⟨_, ⟨rfl, _⟩ | ⟨g, cap, rfl, h1, h2, _⟩⟩ := h
  · cases hb
  · cases hb; exact ⟨h2, h1⟩

theorem Mo.lt (h : Mo w L v ns A) {k : Nat} (hk : moB v ns k) : k < w.heap.size ∧ L ≤ k := by
  rcases hk with hk | ⟨j, hj, hk⟩
  · exact h.row.lt hk
  · exact (h.nam j (by rw [← h.len]; exact hj)).lt hk

theorem Mo.same (h : Mo w L v ns A) (hs : w.heap.size ≤ w'.heap.size) (hb : ∀ k, moB v ns k → w'.heap[k]? = w.heap[k]?) : Mo w' L v ns A :=
  ⟨h.len, h.row.same hs (fun k e => hb k (Or.inl e)), fun j hj => (h.nam j hj).same hs (fun k e => hb k (Or.inr ⟨j, by rw [h.len]; exact hj, e⟩)), h.apart, h.off⟩

theorem rangeAt_set {g o : Nat} {cs : List Value} (h : w.rangeAt g 0 cs) (ht : w.there g 0 cs.length) (u : Value) : (w.setCell ⟨g, o, none⟩ u).rangeAt g 0 (cs.set o u) := by
  intro j x hx
  have hj : j < cs.length := by
    have := (List.getElem?_eq_some_iff.1 hx).1
    simpa using this
  by_cases e : o = j
  · subst e
    rw [List.getElem?_set_self hj] at hx
    cases hx
    have := (ht o hj).1
    rw [Nat.zero_add] at this ⊢
    exact World.cell?_setCell_same' w _ _ this
  · rw [List.getElem?_set_ne e] at hx
    have hne : (⟨g, o, none⟩ : Addr) ≠ ⟨g, 0 + j, none⟩ := by intro h2; injection h2 with _ h3; omega
    exact (World.cell?_setCell_other w _ _ _ hne).trans (h j x hx)
theorem there_set {g o k : Nat} (ht : w.there g 0 k) (u : Value) : (w.setCell ⟨g, o, none⟩ u).there g 0 k := World.there_setCells ht g o [u]

/-- The names' slice of record j is written anew. -/
theorem Mo.put {g cap j : Nat} (h : Mo w L v ns A) (hv : v = .slice (some ⟨g, 0, none⟩) A.length cap) (hj : j < A.length) (u : Value) (l : List ByteArray)
    (hO : Only (fun k => (ns[j]'(by rw [h.len]; exact hj)).ownBlock = some k) w w2) (hu : Sl w2 L 1 u l.length (strs l)) (hub : ∀ b, u.ownBlock = some b → (ns[j]'(by rw [h.len]; exact hj)).ownBlock = some b ∨ w.heap.size ≤ b) :
    Mo (w2.setCell ⟨g, j * 3 + 2, none⟩ u) L v (ns.set j u) (A.set j (A[j].1, A[j].2.1, l)) ∧ Only (moB v ns) w (w2.setCell ⟨g, j * 3 + 2, none⟩ u) ∧ ∀ k, moB v (ns.set j u) k → moB v ns k ∨ w.heap.size ≤ k := by
  have hns : j < ns.length := by rw [h.len]; exact hj
  have hvb : v.ownBlock = some g := by rw [hv]; rfl
  have hgl := h.row.lt hvb
  have hgj : ns[j].ownBlock ≠ some g := fun e => h.off j hns g e hvb
  have hg2 : w2.heap[g]? = w.heap[g]? := hO.block g hgl.1 hgj
  have hug : u.ownBlock ≠ some g := fun e => by rcases hub g e with e | e; exact hgj e; omega
  have hblk : ∀ k, k < w.heap.size → ns[j].ownBlock ≠ some k → k ≠ g → (w2.setCell ⟨g, j * 3 + 2, none⟩ u).heap[k]? = w.heap[k]? := fun k hk h1 h2 => (Below.heap_setCell _ _ _ _ h2).trans (hO.block k hk h1)
  have hsz : (w2.setCell ⟨g, j * 3 + 2, none⟩ u).heap.size = w2.heap.size := by simp [World.setCell]
  have hO2 : Only (moB v ns) w (w2.setCell ⟨g, j * 3 + 2, none⟩ u) := by
    have h1 : Only (moB v ns) w w2 := hO.mono (fun k _ e => Or.inr ⟨j, hns, e⟩)
    exact h1.set (Or.inl (Or.inl hvb)) _ _
  refine ⟨⟨by simp [h.len], ?_, fun i hi => ?_, fun i k hi hk hne b hb => ?_, fun i hi b hb => ?_⟩, hO2, fun k hk => ?_⟩
  · rw [flatM_set_name A ns h.len j hj]
    obtain ⟨hl, ⟨e, _⟩ | ⟨g', cap', e, h1, h2, h3, h4, h5⟩⟩ := h.row
    · rw [hv] at e; cases e
    · rw [hv] at e
      cases e
      have hl3 := flatM_len A ns h.len
      refine ⟨by simpa using hl, Or.inr ⟨g, cap, by rw [hv]; simp, h1, by rw [hsz]; have := hO.size; omega, by simpa using h3, ?_, ?_⟩⟩
      · refine rangeAt_set (rangeAt_block h4 hg2) (fun j' hj' => there_block h5 hg2 j' ?_) u
        have := Nat.mul_le_mul_right 3 h3.1
        omega
      · exact there_set (there_block h5 hg2) u
  · have hi' : i < A.length := by simpa using hi
    have hin : i < ns.length := by rw [h.len]; exact hi'
    by_cases e : j = i
    · subst e
      simp only [List.getElem_set_self]
      exact hu.same (by rw [hsz]; exact Nat.le_refl _) (fun k e => Below.heap_setCell _ _ _ _ (fun e2 => hug (by rw [e, e2])))
    · rw [List.getElem_set_ne e, List.getElem_set_ne e]
      refine (h.nam i hi').same hO2.size (fun k e2 => hblk k ((h.nam i hi').lt e2).1 (fun e3 => h.apart i j hin hns (Ne.symm e) k e2 e3) (fun e3 => h.off i hin k e2 (by rw [hvb, e3])))
  · have hi' : i < ns.length := by simpa using hi
    have hk' : k < ns.length := by simpa using hk
    intro hb2
    by_cases e : j = i
    · subst e
      rw [List.getElem_set_self] at hb
      rw [List.getElem_set_ne hne] at hb2
      rcases hub b hb with e1 | e1
      · exact h.apart j k hns hk' hne b e1 hb2
      · have := ((h.nam k (by rw [← h.len]; exact hk')).lt hb2).1; omega
    · rw [List.getElem_set_ne e] at hb
      by_cases e' : j = k
      · subst e'
        rw [List.getElem_set_self] at hb2
        rcases hub b hb2 with e1 | e1
        · exact h.apart i j hi' hns hne b hb e1
        · have := ((h.nam i (by rw [← h.len]; exact hi')).lt hb).1; omega
      · rw [List.getElem_set_ne e'] at hb2
        exact h.apart i k hi' hk' hne b hb hb2
  · have hi' : i < ns.length := by simpa using hi
    by_cases e : j = i
    · subst e
      rw [List.getElem_set_self] at hb
      exact fun e2 => hug (by rw [hvb] at e2; cases e2; exact hb)
    · rw [List.getElem_set_ne e] at hb
      exact h.off i hi' b hb
  · rcases hk with hk | ⟨i, hi, hk⟩
    · exact Or.inl (Or.inl hk)
    · have hi' : i < ns.length := by simpa using hi
      by_cases e : j = i
      · subst e
        rw [List.getElem_set_self] at hk
        rcases hub k hk with e1 | e1
        · exact Or.inl (Or.inr ⟨j, hns, e1⟩)
        · exact Or.inr e1
      · rw [List.getElem_set_ne e] at hk
        exact Or.inl (Or.inr ⟨i, hi', hk⟩)

theorem flatM_append : ∀ (A : List Say) (ns : List Value), ns.length = A.length → ∀ (a : Say) (u : Value), flatM (A ++ [a]) (ns ++ [u]) = flatM A ns ++ [.int .u64 a.1, .int .u64 a.2.1, u]
  | [], [], _, a, u => by simp [flatM]
  | b :: A, x :: ns, h, a, u => by simp [flatM, flatM_append A ns (by simpa using h) a u]
  | [], _ :: _, h, _, _ => by simp at h
  | _ :: _, [], h, _, _ => by simp at h

/-- A record without names is set at the end. -/
theorem Mo.grow (h : Mo w L v ns A) (c s : Int) (v' : Value) (hrow : Sl w' L 3 v' (A.length + 1) (flatM A ns ++ [.int .u64 c, .int .u64 s, .slice none 0 0])) (hsz : w.heap.size ≤ w'.heap.size)
    (hO : ∀ k, k < w.heap.size → v.ownBlock ≠ some k → w'.heap[k]? = w.heap[k]?) (hvb : ∀ b, v'.ownBlock = some b → v.ownBlock = some b ∨ w.heap.size ≤ b) :
    Mo w' L v' (ns ++ [.slice none 0 0]) (A ++ [(c, s, [])]) ∧ ∀ k, moB v' (ns ++ [.slice none 0 0]) k → moB v ns k ∨ w.heap.size ≤ k := by
  have hat : ∀ i (hi : i < (ns ++ [Value.slice none 0 0]).length) b, (ns ++ [Value.slice none 0 0])[i].ownBlock = some b → ∃ hi' : i < ns.length, ns[i].ownBlock = some b := fun i hi b hb => by
    by_cases e : i < ns.length
    · rw [List.getElem_append_left e] at hb
      exact ⟨e, hb⟩
    · rw [List.getElem_append_right (by omega)] at hb
      simp [Value.ownBlock] at hb
  refine ⟨⟨by simp [h.len], by rw [flatM_append A ns h.len]; simpa using hrow, fun i hi => ?_, fun i k hi hk hne b hb hb2 => ?_, fun i hi b hb hv => ?_⟩, fun k hk => ?_⟩
  · by_cases e : i < A.length
    · have e' : i < ns.length := by rw [h.len]; exact e
      rw [List.getElem_append_left e, List.getElem_append_left e']
      exact (h.nam i e).same hsz (fun k hk => hO k ((h.nam i e).lt hk).1 (fun hv => h.off i e' k hk hv))
    · have e1 : i = A.length := by simp at hi; omega
      subst e1
      have := h.len
      rw [List.getElem_append_right (Nat.le_refl _), List.getElem_append_right (by omega)]
      simp [Sl, strs]
  · obtain ⟨i', b1⟩ := hat i hi b hb
    obtain ⟨k', b2⟩ := hat k hk b hb2
    exact h.apart i k i' k' hne b b1 b2
  · obtain ⟨i', b1⟩ := hat i hi b hb
    rcases hvb b hv with e | e
    · exact h.off i i' b b1 e
    · have := ((h.nam i (by rw [← h.len]; exact i')).lt b1).1; omega
  · rcases hk with hk | ⟨i, hi, hk⟩
    · rcases hvb k hk with e | e
      · exact Or.inl (Or.inl e)
      · exact Or.inr e
    · obtain ⟨i', b1⟩ := hat i hi k hk
      exact Or.inl (Or.inr ⟨i, i', b1⟩)
end Go.Proofs.Ybulkdrpg
