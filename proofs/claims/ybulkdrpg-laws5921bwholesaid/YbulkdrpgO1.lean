import Derived.Test.YbulkdrpgN9
namespace Go.Proofs.Ybulkdrpg
open Go.RowKit
variable {w w' w2 : World} {L : Nat} {v : Value} {ns : List Value} {A : List Say}

theorem one_cell : (Value.string ⟨#[]⟩).cells.size = 1 := rfl
theorem sixteen : 16 ≤ 100 := by decide
theorem one_len {name : ByteArray} : [Value.string name].length = 1 := rfl

set_option maxRecDepth 100000 in
/-- apply, where the client is known and the name new: raw. -/
theorem apply_name_raw (g n cap j m : Nat) (ua : Option Addr) (uc : Nat) (c s : Int) (name : ByteArray) (cs : List Value) (w : World) (hL : L ≤ w.heap.size) (hj : j < n) (hg : g < w.heap.size) (hm : m ≤ 1000000)
    (hf : Calls Yba.prog 12 #[.slice (some ⟨g, 0, none⟩) n cap, .int .u64 c] w fun e w' => e = .returned (.int .i64 (j : Int)) ∧ w' = w)
    (hct : Calls Yba.prog 17 #[.slice ua m uc, .string name] w fun e w' => e = .returned (.bool false) ∧ w' = w)
    (c2 : w.cell? ⟨g, j * 3 + 2, none⟩ = some (.slice ua m uc)) (f2 : w.frozen? ⟨g, j * 3 + 2, none⟩ = false) (hS : Sl w L 1 (.slice ua m uc) m cs) (hgj : (Value.slice ua m uc).ownBlock ≠ some g) :
    Calls Yba.prog 8 #[.slice (some ⟨g, 0, none⟩) n cap, .int .u64 c, .string name, .int .u64 s] w fun e w' => e = .returned (.slice (some ⟨g, 0, none⟩) n cap) ∧ ∃ u w2, w' = w2.setCell ⟨g, j * 3 + 2, none⟩ u ∧
      Only (fun k => (Value.slice ua m uc).ownBlock = some k) w w2 ∧ Sl w2 L 1 u (m + 1) (cs ++ [.string name]) ∧ ∀ b, u.ownBlock = some b → (Value.slice ua m uc).ownBlock = some b ∨ w.heap.size ≤ b := by
  have j0 : (0 : Int) ≤ (j : Int) := by omega
  have j1 : (j : Int) < (n : Int) := by omega
  have j2 : decide ((j : Int) < 0) = false := by simp
  obtain ⟨i9, hi9, hz9, hs9, hb9⟩ := Yba.info9f
  have hAl : (w.alloc (.cells #[.string name] 9)).rangeAt w.heap.size 0 [.string name] := rangeAt_new w [.string name] 9
  have hbA : Below w.heap.size w (w.alloc (.cells #[.string name] 9)) := by go_grown
  have hszA : (w.alloc (.cells #[.string name] 9)).heap.size = w.heap.size + 1 := by simp
  have hSA : Sl (w.alloc (.cells #[.string name] 9)) L 1 (.slice ua m uc) m cs := hS.same (by omega) (fun k hk => hbA.block k (hS.lt hk).1)
  have hOA : Only (fun k => (Value.slice ua m uc).ownBlock = some k) w (w.alloc (.cells #[.string name] 9)) := (Only.refl _ w).alloc _
  have HAl : Hid _ := hAl
  have HbA : Hid _ := hbA
  have HszA : Hid _ := hszA
  have HSA : Hid (Sl (w.alloc (.cells #[.string name] 9)) L 1 (.slice ua m uc) m cs) := hSA
  have HOA : Hid _ := hOA
  have HI : Hid _ := hi9
  have HZ : Hid _ := hz9
  have HG : Hid _ := hgj
  clear hS hi9 hz9 hgj hAl hbA hszA hSA hOA
  go_enter Yba.func8, Yba.ntmps8
  go_wp2_with (first
    | (go_at_call 12; refine hf.mono ?_; rintro e w1 ⟨rfl, hw⟩; obtain rfl := hw.symm)
    | (go_at_call 17; refine hct.mono ?_; rintro e w1 ⟨rfl, hw⟩; obtain rfl := hw.symm)
    | ((with_reducible refine wpList_append_sl (.tmp 38) (.tmp 40) 82 9 i9 (.string ⟨#[]⟩) 1 16 Yba.underlying82 HI.out HZ.out hs9 hb9 ?_ Nat.one_pos _ L (.slice ua m uc) m cs ?_ ?_ ?_ ?_ ?_ w.heap.size 1 [.string name] ?_ ?_ ?_ ?_ ?_)))
  · rfl
  · simp [Act.eval]
  · exact HSA.out
  · omega
  · omega
  · rw [HszA.out]; omega
  · simp [Act.eval]
  · rfl
  · exact HAl.out
  · simp [Value.oneCell']
  intro u w2 hS2 hz2 hk2 hb2 ho2
  obtain ⟨ua2, uc2, rfl⟩ := hS2.form
  have c2' : w2.cell? ⟨g, j * 3 + 2, none⟩ = some (.slice ua m uc) := by
    have e : w2.heap[g]? = w.heap[g]? := (hk2 g (by rw [HszA.out]; omega) HG.out).trans (HbA.out.block g hg)
    rw [← c2]; simp [World.cell?, e]
  have f2' : w2.frozen? ⟨g, j * 3 + 2, none⟩ = false := by
    have e : w2.heap[g]? = w.heap[g]? := (hk2 g (by rw [HszA.out]; omega) HG.out).trans (HbA.out.block g hg)
    rw [← f2]; simp [World.frozen?, e]
  have HS2 : Hid (Sl w2 L 1 _ (m + 1) (cs ++ [.string name])) := hS2
  have Hz2 : Hid _ := hz2
  have Hk2 : Hid _ := hk2
  have Hb2 : Hid _ := hb2
  have Ho2 : Hid _ := ho2
  clear hS2 hz2 hk2 hb2 ho2 c2 f2
  go_wp2_with fail
  go_ret
  refine ⟨rfl, _, w2, rfl, ?_, HS2.out, ?_⟩
  · refine HOA.out.trans ⟨Ho2.out.1, Ho2.out.2.1, Ho2.out.2.2, Hz2.out, fun k hk hn => Hk2.out k hk hn⟩
  · intro b hb
    rcases Hb2.out with e | ⟨g', e, he⟩
    · exact Or.inl (e.symm.trans hb)
    · rw [e] at hb
      cases hb
      rw [HszA.out] at he
      exact Or.inr (by omega)

/-- apply, where the client is known and the name new. -/
theorem apply_name (j : Nat) (c s : Int) (name : ByteArray) (h : Mo w L v ns A) (hL : L ≤ w.heap.size) (hlen : A.length ≤ 1000000000) (hj : j < A.length) (hc : A[j].1 = c) (hb : ∀ i (hi : i < A.length), i < j → A[i].1 ≠ c) (hin : name ∉ A[j].2.2) (hl : A[j].2.2.length ≤ 1000000) :
    Calls Yba.prog 8 #[v, .int .u64 c, .string name, .int .u64 s] w fun e w' => e = .returned v ∧ ∃ ns', Mo w' L v ns' (A.set j (A[j].1, A[j].2.1, A[j].2.2 ++ [name])) ∧ Only (moB v ns) w w' ∧ ∀ k, moB v ns' k → moB v ns k ∨ w.heap.size ≤ k := by
  obtain ⟨a, g, cap, hv, hg⟩ := h.cells
  obtain ⟨rfl, hcap, _, hr, ht⟩ := hg (by omega)
  have hns : j < ns.length := by rw [h.len]; exact hj
  obtain ⟨ua, uc, hu⟩ := (h.nam j hj).form
  have hf := find_at g A.length cap j (fun i => if hi : i < A.length then A[i].1 else 0) c w (by omega) hj (by simp [hj, hc]) (fun i hi => by
    have : i < A.length := by omega
    simp only [this, dif_pos]
    exact hb i this hi) (fun i hi => by
    have := hr _ _ (flatM_at A ns h.len i hi).1
    simp only [hi, dif_pos]
    simpa using this)
  have c2 : w.cell? ⟨g, j * 3 + 2, none⟩ = some ns[j] := by
    have := hr _ _ (flatM_at A ns h.len j hj).2.2
    simpa using this
  have f2 : w.frozen? ⟨g, j * 3 + 2, none⟩ = false := by
    have := (ht (j * 3 + 2) (by have := Nat.mul_le_mul_right 3 hcap; omega)).2
    simpa using this
  have hct := contains_sl (w := w) A[j].2.2 name ns[j] (h.nam j hj) (by omega) false (by simp [hin])
  have hnam := (h.nam j hj)
  have hvb : v.ownBlock = some g := by rw [hv]; rfl
  have hgl := (h.row.lt hvb).1
  have hgj : ns[j].ownBlock ≠ some g := fun e => h.off j hns g e hvb
  rw [hu] at c2 hct hnam hgj
  have key := apply_name_raw (L := L) g A.length cap j A[j].2.2.length ua uc c s name _ w hL hj hgl hl hf hct c2 f2 hnam hgj
  rw [hv]
  refine key.mono ?_
  rintro e w' ⟨rfl, u, w2, rfl, hO, hS, hB⟩
  refine ⟨rfl, ns.set j u, ?_⟩
  rw [← hv]
  refine h.put hv hj u (A[j].2.2 ++ [name]) (by rw [hu]; exact hO) (by simpa [strs] using hS) (by rw [hu]; exact hB)
end Go.Proofs.Ybulkdrpg
