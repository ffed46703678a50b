import Derived.Test.YbulkdrpgO1
namespace Go.Proofs.Ybulkdrpg
open Go.RowKit
variable {w w' w2 : World} {L : Nat} {v : Value} {ns : List Value} {A : List Say}

set_option maxRecDepth 100000 in
/-- apply, where the client is unknown: raw. -/
theorem apply_new_raw (a : Option Addr) (n cap : Nat) (c s : Int) (name : ByteArray) (cs : List Value) (w : World) (hL : L ≤ w.heap.size) (hn : n ≤ 1000000)
    (hf : Calls Yba.prog 12 #[.slice a n cap, .int .u64 c] w fun e w' => e = .returned (.int .i64 (-1)) ∧ w' = w)
    (hS : Sl w L 3 (.slice a n cap) n cs) :
    Calls Yba.prog 8 #[.slice a n cap, .int .u64 c, .string name, .int .u64 s] w fun e w' => ∃ w1 w2 g cap1 u, e = .returned (.slice (some ⟨g, 0, none⟩) (n + 1) cap1) ∧ 
      (Sl w1 L 3 (.slice (some ⟨g, 0, none⟩) (n + 1) cap1) (n + 1) (cs ++ [.int .u64 c, .int .u64 s, .slice none 0 0]) ∧ w.heap.size ≤ w1.heap.size ∧ (∀ k, k < w.heap.size → (Value.slice a n cap).ownBlock ≠ some k → w1.heap[k]? = w.heap[k]?) ∧
        ((Value.slice a n cap).ownBlock = some g ∨ w.heap.size ≤ g) ∧ w1.os = w.os ∧ w1.tape = w.tape ∧ w1.output = w.output) ∧
      w' = w2.setCell ⟨g, n * 3 + 2, none⟩ u ∧
      Only (fun _ => False) w1 w2 ∧ Sl w2 L 1 u 1 [.string name] ∧ ∀ b, u.ownBlock = some b → w1.heap.size ≤ b := by
  obtain ⟨i84, hi84, hz84, hs84, hb84⟩ := Yba.info84f
  obtain ⟨i9, hi9, hz9, hs9, hb9⟩ := Yba.info9f
  have hAl : (w.alloc (.cells #[.int .u64 c, .int .u64 s, .slice none 0 0] 84)).rangeAt w.heap.size 0 [.int .u64 c, .int .u64 s, .slice none 0 0] := rangeAt_new w [.int .u64 c, .int .u64 s, .slice none 0 0] 84
  have hbA : Below w.heap.size w (w.alloc (.cells #[.int .u64 c, .int .u64 s, .slice none 0 0] 84)) := by go_grown
  have hszA : (w.alloc (.cells #[.int .u64 c, .int .u64 s, .slice none 0 0] 84)).heap.size = w.heap.size + 1 := by simp
  have hSA : Sl (w.alloc (.cells #[.int .u64 c, .int .u64 s, .slice none 0 0] 84)) L 3 (.slice a n cap) n cs := hS.same (by omega) (fun k hk => hbA.block k (hS.lt hk).1)
  have hkA : ∀ k, k < w.heap.size → (w.alloc (.cells #[.int .u64 c, .int .u64 s, .slice none 0 0] 84)).heap[k]? = w.heap[k]? := hbA.block
  have HAl : Hid _ := hAl
  have HszA : Hid _ := hszA
  have HSA : Hid (Sl (w.alloc (.cells #[.int .u64 c, .int .u64 s, .slice none 0 0] 84)) L 3 (.slice a n cap) n cs) := hSA
  have HkA : Hid _ := hkA
  have HS : Hid (Sl w L 3 (.slice a n cap) n cs) := hS
  have HI : Hid _ := hi9
  have HZ : Hid _ := hz9
  have HI' : Hid _ := hi84
  have HZ' : Hid _ := hz84
  clear hS hi9 hz9 hi84 hz84 hAl hbA hszA hSA hkA
  go_enter Yba.func8, Yba.ntmps8
  go_wp2_with (first
    | (go_at_call 12; refine hf.mono ?_; rintro e w1 ⟨rfl, hw⟩; obtain rfl := hw.symm)
    | ((with_reducible refine wpList_append_sl (.tmp 15) (.tmp 19) 33 84 i84 (.agg #[.int .u64 0, .int .u64 0, .slice none 0 0]) 3 40 Yba.underlying33 HI'.out HZ'.out hs84 hb84 ?_ (by omega) _ L (.slice a n cap) n cs ?_ ?_ ?_ ?_ ?_ w.heap.size 1 [.int .u64 c, .int .u64 s, .slice none 0 0] ?_ ?_ ?_ ?_ ?_)))
  · rfl
  · simp [Act.eval]
  · exact HSA.out
  · omega
  · omega
  · rw [HszA.out]; omega
  · simp [Act.eval]
  · rfl
  · exact HAl.out
  · simp [Value.oneCell']
  intro v1 w1 hS1 hz1 hk1 hb1 ho1
  rw [HszA.out] at hz1
  have hX : ∃ g cap1, v1 = .slice (some ⟨g, 0, none⟩) (n + 1) cap1 ∧ g < w1.heap.size ∧ w1.cell? ⟨g, n * 3 + 2, none⟩ = some (.slice none 0 0) ∧ w1.frozen? ⟨g, n * 3 + 2, none⟩ = false := by
    obtain ⟨hl, ⟨_, h0⟩ | ⟨g, cap1, rfl, q1, q2, q3, q4, q5⟩⟩ := hS1
    · omega
    · have hcs : cs.length = n * 3 := HS.out.1
      refine ⟨g, cap1, rfl, q2, ?_, ?_⟩
      · have := q4 (n * 3 + 2) (.slice none 0 0) (by rw [List.getElem?_append_right (by omega), hcs, Nat.add_sub_cancel_left]; rfl)
        rwa [Nat.zero_add] at this
      · have := (q5 (n * 3 + 2) (by have := Nat.mul_le_mul_right 3 q3.1; omega)).2
        rwa [Nat.zero_add] at this
  obtain ⟨g, cap1, rfl, hg1, c2, f2⟩ := hX
  have hk1' : ∀ k, k < w.heap.size → (Value.slice a n cap).ownBlock ≠ some k → w1.heap[k]? = w.heap[k]? := fun k hk hne => (hk1 k (by rw [HszA.out]; omega) hne).trans (HkA.out k hk)
  have hb1' : (Value.slice a n cap).ownBlock = some g ∨ w.heap.size ≤ g := by
    rcases hb1 with e | ⟨g', e, he⟩
    · exact Or.inl (e.symm.trans rfl)
    · have e2 : g = g' := by injection e
      rw [HszA.out, ← e2] at he; exact Or.inr (by omega)
  have hP : Sl w1 L 3 (.slice (some ⟨g, 0, none⟩) (n + 1) cap1) (n + 1) (cs ++ [.int .u64 c, .int .u64 s, .slice none 0 0]) ∧ w.heap.size ≤ w1.heap.size ∧ (∀ k, k < w.heap.size → (Value.slice a n cap).ownBlock ≠ some k → w1.heap[k]? = w.heap[k]?) ∧
        ((Value.slice a n cap).ownBlock = some g ∨ w.heap.size ≤ g) ∧ w1.os = w.os ∧ w1.tape = w.tape ∧ w1.output = w.output := ⟨hS1, by omega, hk1', hb1', ho1⟩
  have HP : Hid (Sl w1 L 3 (.slice (some ⟨g, 0, none⟩) (n + 1) cap1) (n + 1) (cs ++ [.int .u64 c, .int .u64 s, .slice none 0 0]) ∧ w.heap.size ≤ w1.heap.size ∧ (∀ k, k < w.heap.size → (Value.slice a n cap).ownBlock ≠ some k → w1.heap[k]? = w.heap[k]?) ∧
        ((Value.slice a n cap).ownBlock = some g ∨ w.heap.size ≤ g) ∧ w1.os = w.os ∧ w1.tape = w.tape ∧ w1.output = w.output) := hP
  have hL1 : L ≤ w1.heap.size := by omega
  clear hS1 hk1 hb1 ho1 hz1 HSA HkA HAl HszA HS hk1' hb1' hP
  have hct := Yba.slices_Contains_string_empty none 0 name w1
  have k1 : (0 : Int) ≤ (n : Int) := by omega
  have k2 : (n : Int) < ((n + 1 : Nat) : Int) := by omega
  have k3 : (n : Int) < (n : Int) + 1 := by omega
  have hbA : Below w1.heap.size w1 (w1.alloc (.cells #[.string name] 9)) := by go_grown
  have hszA : (w1.alloc (.cells #[.string name] 9)).heap.size = w1.heap.size + 1 := by simp
  have hAl : (w1.alloc (.cells #[.string name] 9)).rangeAt w1.heap.size 0 [.string name] := rangeAt_new w1 [.string name] 9
  have HAl : Hid _ := hAl
  have HszA : Hid _ := hszA
  have HbA : Hid _ := hbA
  clear hAl hszA hbA
  go_wp2_with (first
    | (go_at_call 17; refine hct.mono ?_; rintro e w1 ⟨rfl, hw⟩; obtain rfl := hw.symm)
    | ((with_reducible refine wpList_append_sl (.tmp 38) (.tmp 40) 82 9 i9 (.string ⟨#[]⟩) 1 16 Yba.underlying82 HI.out HZ.out hs9 hb9 ?_ Nat.one_pos _ L (.slice none 0 0) 0 [] ?_ ?_ ?_ ?_ ?_ w1.heap.size 1 [.string name] ?_ ?_ ?_ ?_ ?_)))
  · rfl
  · simp [Act.eval]
  · exact ⟨rfl, Or.inl ⟨rfl, rfl⟩⟩
  · omega
  · omega
  · rw [HszA.out]; omega
  · simp [Act.eval]
  · rfl
  · exact HAl.out
  · simp [Value.oneCell']
  intro u w2 hS2 hz2 hk2 hb2 ho2
  obtain ⟨ua2, uc2, rfl⟩ := hS2.form
  have e : w2.heap[g]? = w1.heap[g]? := (hk2 g (by rw [HszA.out]; omega) (by simp [Value.ownBlock])).trans (HbA.out.block g hg1)
  have c2' : w2.cell? ⟨g, n * 3 + 2, none⟩ = some (.slice none 0 0) := by
    rw [← c2]; simp [World.cell?, e]
  have f2' : w2.frozen? ⟨g, n * 3 + 2, none⟩ = false := by
    rw [← f2]; simp [World.frozen?, e]
  have HS2 : Hid (Sl w2 L 1 _ (0 + 1) ([] ++ [.string name])) := hS2
  have Hz2 : Hid _ := hz2
  have Hk2 : Hid _ := hk2
  have Hb2 : Hid _ := hb2
  have Ho2 : Hid _ := ho2
  clear hS2 hz2 hk2 hb2 ho2 c2 f2 e
  go_wp2_with fail
  go_ret
  refine ⟨w1, w2, g, cap1, _, rfl, HP.out, rfl, ?_, HS2.out, ?_⟩
  · exact ((Only.refl (fun _ => False) w1).alloc (.cells #[.string name] 9)).trans ⟨Ho2.out.1, Ho2.out.2.1, Ho2.out.2.2, Hz2.out, fun k hk hn => Hk2.out k hk (by simp [Value.ownBlock])⟩
  · intro b hb
    rcases Hb2.out with e | ⟨g', e, he⟩
    · rw [e] at hb; cases hb
    · rw [e] at hb
      injection hb with hb
      rw [HszA.out, hb] at he
      omega

/-- apply, where the client is unknown. -/
theorem apply_new (c s : Int) (name : ByteArray) (h : Mo w L v ns A) (hL : L ≤ w.heap.size) (hlen : A.length ≤ 1000000) (hno : ∀ i (hi : i < A.length), A[i].1 ≠ c) :
    Calls Yba.prog 8 #[v, .int .u64 c, .string name, .int .u64 s] w fun e w' => ∃ v' ns', e = .returned v' ∧ Mo w' L v' ns' (A ++ [(c, s, [name])]) ∧ Only (moB v ns) w w' ∧ ∀ k, moB v' ns' k → moB v ns k ∨ w.heap.size ≤ k := by
  obtain ⟨a, g, cap, hv, hg⟩ := h.cells
  have hf := find_none a g A.length cap (fun i => if hi : i < A.length then A[i].1 else 0) c w (by omega) (fun hp => (hg hp).1) (fun i hi => by
    simp only [hi, dif_pos]
    exact hno i hi) (fun i hi => by
    obtain ⟨_, _, _, hr, _⟩ := hg (by omega)
    have := hr _ _ (flatM_at A ns h.len i hi).1
    simp only [hi, dif_pos]
    simpa using this)
  have hrow := h.row
  rw [hv] at hrow
  have key := apply_new_raw (L := L) a A.length cap c s name _ w hL hlen hf hrow
  rw [hv]
  refine key.mono ?_
  rintro e w' ⟨w1, w2, g1, cap1, u, rfl, ⟨p1, p2, p3, p4, p5⟩, rfl, hO, hS, hB⟩
  rw [← hv] at p3 p4 ⊢
  obtain ⟨m1, b1⟩ := h.grow c s _ p1 p2 p3 (fun b hb => by injection hb with hb; subst hb; exact p4)
  have hj : A.length < (A ++ [(c, s, ([] : List ByteArray))]).length := by simp
  have hge : (ns ++ [Value.slice none 0 0])[A.length]'(by have := m1.len; omega) = .slice none 0 0 := by
    rw [List.getElem_append_right (by rw [h.len]; exact Nat.le_refl _)]; simp
  have hA : (A ++ [(c, s, ([] : List ByteArray))])[A.length] = (c, s, []) := by simp
  obtain ⟨m2, o2, b2⟩ := m1.put (w2 := w2) (cap := cap1) (g := g1) (by simp) hj u [name] (hO.mono (fun _ _ e => e.elim)) (by simpa [strs] using hS) (fun b hb => Or.inr (hB b hb))
  rw [hA] at m2
  have hset : (A ++ [(c, s, ([] : List ByteArray))]).set A.length (c, s, [name]) = A ++ [(c, s, [name])] := by simp
  rw [hset] at m2
  have hO1 : Only (moB v ns) w w1 := ⟨p5.1, p5.2.1, p5.2.2, p2, fun k hk hn => p3 k hk (fun e => hn (Or.inl e))⟩
  refine ⟨_, _, rfl, m2, ⟨o2.os.trans hO1.os, o2.tape.trans hO1.tape, o2.output.trans hO1.output, Nat.le_trans p2 o2.size, fun k hk hn => ?_⟩, fun k hk => ?_⟩
  · refine (o2.block k (by omega) (fun hb => ?_)).trans (hO1.block k hk hn)
    rcases b1 k hb with e | e
    · exact hn e
    · omega
  · rcases b2 k hk with e | e
    · exact b1 k e
    · exact Or.inr (by omega)
end Go.Proofs.Ybulkdrpg
