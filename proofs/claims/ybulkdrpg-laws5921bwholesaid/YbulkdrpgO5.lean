import Derived.Test.YbulkdrpgO4
namespace Go.Proofs.Ybulkdrpg
open Go.RowKit
variable {w w' w2 : World} {L : Nat} {v : Value} {ns : List Value} {A : List Say}

theorem flatM_one : ∀ (A : List Say) (ns : List Value), (∀ u ∈ ns, u.oneCell' = true) → ∀ x ∈ flatM A ns, x.oneCell' = true
  | a :: A, v :: ns, h, x, hx => by
    simp only [flatM, List.mem_cons] at hx
    rcases hx with rfl | rfl | rfl | hx
    · rfl
    · rfl
    · exact h _ (by simp)
    · exact flatM_one A ns (fun u hu => h u (by simp [hu])) x hx
  | [], _, _, x, hx => by simp [flatM] at hx
  | a :: A, [], _, x, hx => by simp [flatM] at hx

theorem Mo.one (h : Mo w L v ns A) : ∀ x ∈ flatM A ns, x.oneCell' = true := flatM_one A ns fun u hu => by
  obtain ⟨i, hi, rfl⟩ := List.mem_iff_getElem.1 hu
  obtain ⟨a, c, e⟩ := (h.nam i (by rw [← h.len]; exact hi)).form
  rw [e]; rfl

theorem Mo.find_none (h : Mo w L v ns A) (hlen : A.length ≤ 1000000) (c : Int) (hno : ∀ i (hi : i < A.length), A[i].1 ≠ c) :
    Calls Yba.prog 12 #[v, .int .u64 c] w fun e w' => e = .returned (.int .i64 (-1)) ∧ w' = w := by
  obtain ⟨a, g, cap, hv, hg⟩ := h.cells
  rw [hv]
  exact Ybulkdrpg.find_none a g A.length cap (fun i => if hi : i < A.length then A[i].1 else 0) c w (by omega) (fun hp => (hg hp).1) (fun i hi => by
    simp only [hi, dif_pos]
    exact hno i hi) (fun i hi => by
    obtain ⟨_, _, _, hr, _⟩ := hg (by omega)
    have := hr _ _ (flatM_at A ns h.len i hi).1
    simp only [hi, dif_pos]
    simpa using this)

theorem Mo.find_at (h : Mo w L v ns A) (hlen : A.length ≤ 1000000) {j : Nat} (c : Int) (hj : j < A.length) (hc : A[j].1 = c) (hb : ∀ i (hi : i < A.length), i < j → A[i].1 ≠ c) :
    Calls Yba.prog 12 #[v, .int .u64 c] w fun e w' => e = .returned (.int .i64 (j : Int)) ∧ w' = w := by
  obtain ⟨a, g, cap, hv, hg⟩ := h.cells
  obtain ⟨rfl, hcap, _, hr, ht⟩ := hg (by omega)
  rw [hv]
  exact Ybulkdrpg.find_at g A.length cap j (fun i => if hi : i < A.length then A[i].1 else 0) c w (by omega) hj (by simp [hj, hc]) (fun i hi => by
    have : i < A.length := by omega
    simp only [this, dif_pos]
    exact hb i this hi) (fun i hi => by
    have := hr _ _ (flatM_at A ns h.len i hi).1
    simp only [hi, dif_pos]
    simpa using this)

theorem mo_rm_unknown (h : Mo w L v ns A) (hlen : A.length ≤ 1000000) (c : Int) (name : ByteArray) (hno : ∀ i (hi : i < A.length), A[i].1 ≠ c) :
    Calls Yba.prog 6 #[v, .int .u64 c, .string name] w fun e w' => e = .returned v ∧ w' = w := mrm_unknown_raw v c name w (h.find_none hlen c hno)

/-- remove, where the client is known: four ends in one. -/
theorem mo_rm_known (h : Mo w L v ns A) (hlen : A.length ≤ 1000000) (c : Int) (name : ByteArray) {j : Nat} (hj : j < A.length) (hc : A[j].1 = c) (hb : ∀ i (hi : i < A.length), i < j → A[i].1 ≠ c) (hl : A[j].2.2.length ≤ 1000000) (hne : A[j].2.2 ≠ [])
    (names' : List ByteArray) (hls : (name ∉ A[j].2.2 ∧ names' = A[j].2.2) ∨ ∃ (i : Nat) (hi : i < A[j].2.2.length), A[j].2.2[i] = name ∧ (∀ k (hk : k < A[j].2.2.length), k < i → A[j].2.2[k] ≠ name) ∧ names' = A[j].2.2.eraseIdx i) :
    Calls Yba.prog 6 #[v, .int .u64 c, .string name] w fun e w' => ∃ v' ns', e = .returned v' ∧ Mo w' L v' ns' (if names' = [] then A.eraseIdx j else A.set j (A[j].1, A[j].2.1, names')) ∧ Only (moB v ns) w w' ∧ ∀ k, moB v' ns' k → moB v ns k ∨ w.heap.size ≤ k := by
  have hf := h.find_at hlen c hj hc hb
  obtain ⟨a, g, cap, hv, hg⟩ := h.cells
  obtain ⟨rfl, hcap, _, hr, ht⟩ := hg (by omega)
  have hns : j < ns.length := by rw [h.len]; exact hj
  obtain ⟨ua, uc, hu⟩ := (h.nam j hj).form
  have c2 : w.cell? ⟨g, j * 3 + 2, none⟩ = some ns[j] := by
    have := hr _ _ (flatM_at A ns h.len j hj).2.2
    simpa using this
  have f2 : w.frozen? ⟨g, j * 3 + 2, none⟩ = false := by
    have := (ht (j * 3 + 2) (by have := Nat.mul_le_mul_right 3 hcap; omega)).2
    simpa using this
  have hnam := (h.nam j hj)
  have hvb : v.ownBlock = some g := by rw [hv]; rfl
  have hgl := (h.row.lt hvb).1
  have hgj : ns[j].ownBlock ≠ some g := fun e => h.off j hns g e hvb
  rcases hls with ⟨hno, rfl⟩ | ⟨i, hi, hx, hfst, rfl⟩
  · have hix := index_sl_none A[j].2.2 name ns[j] hnam (by omega) hno
    rw [hu] at hix c2
    rw [hv] at hf ⊢
    refine (mrm_miss_raw g A.length cap j A[j].2.2.length ua uc c name w hj (List.length_pos_iff.2 hne) hf hix c2).mono ?_
    rintro e w' ⟨rfl, hw⟩
    obtain rfl := hw.symm
    rw [← hv, if_neg hne]
    have : A.set j (A[j].1, A[j].2.1, A[j].2.2) = A := List.set_getElem_self hj
    rw [this]
    exact ⟨v, ns, rfl, h, Only.refl _ _, fun k hk => Or.inl hk⟩
  · have hix := index_sl_at A[j].2.2 name ns[j] i hnam (by omega) hi hx hfst
    rw [hu] at hix c2 hnam hgj
    by_cases he : A[j].2.2.eraseIdx i = []
    · rw [if_pos he]
      rw [hv] at hf ⊢
      refine (mrm_drop_raw (L := L) g A.length cap j i A[j].2.2 ua uc c name (flatM A ns) w hj hlen hcap hgl hi hl hf hix c2 f2 hnam hgj (flatM_len A ns h.len) hr ht h.one (by rw [he]; rfl)).mono ?_
      rintro e w' ⟨rfl, u, w2, hO, hS, hB, r4, t4, o4⟩
      rw [← hv]
      obtain ⟨m1, o1, b1⟩ := h.put hv hj u _ (by rw [hu]; exact hO) hS (by rw [hu]; exact fun b hb => Or.inl (hB.symm.trans hb))
      rw [← flatM_set_name A ns h.len j hj (A[j].2.2.eraseIdx i) u] at r4
      have hl2 : (A.set j (A[j].1, A[j].2.1, A[j].2.2.eraseIdx i)).length = A.length := by simp
      obtain ⟨m2, o2, b2⟩ := m1.erase (by rw [hl2]; exact hv) (by rw [hl2]; exact hj) r4 t4 o4
      have hE : (A.set j (A[j].1, A[j].2.1, A[j].2.2.eraseIdx i)).eraseIdx j = A.eraseIdx j := by
        apply List.ext_getElem?
        intro k
        simp only [List.getElem?_eraseIdx]
        split
        · rw [List.getElem?_set_ne (by omega)]
        · rw [List.getElem?_set_ne (by omega)]
      rw [hE, hl2] at m2
      refine ⟨_, _, rfl, m2, ⟨o2.os.trans o1.os, o2.tape.trans o1.tape, o2.output.trans o1.output, Nat.le_trans o1.size o2.size, fun k hk hn => ?_⟩, fun k hk => ?_⟩
      · refine (o2.block k (Nat.lt_of_lt_of_le hk o1.size) (fun hb => ?_)).trans (o1.block k hk hn)
        rcases b1 k hb with e | e
        · exact hn e
        · omega
      · rw [hl2] at b2
        exact b1 k (b2 k hk)
    · rw [if_neg he]
      rw [hv] at hf ⊢
      refine (mrm_keep_raw (L := L) g A.length cap j i A[j].2.2 ua uc c name w hj hgl hi hl hf hix c2 f2 hnam hgj (List.length_pos_iff.2 he)).mono ?_
      rintro e w' ⟨rfl, u, w2, rfl, hO, hS, hB⟩
      rw [← hv]
      obtain ⟨m1, o1, b1⟩ := h.put hv hj u _ (by rw [hu]; exact hO) hS (by rw [hu]; exact fun b hb => Or.inl (hB.symm.trans hb))
      exact ⟨v, _, rfl, m1, o1, b1⟩
end Go.Proofs.Ybulkdrpg
