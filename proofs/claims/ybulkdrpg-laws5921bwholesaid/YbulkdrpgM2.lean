import Derived.Test.YbulkdrpgM1
namespace Go.Proofs.Ybulkdrpg
open Go.RowKit Go.Maps Go.WideMaps Go.WideElems
variable {w w' : World} {C : Nat} {mb : Option Nat} {DM : DataW Nat} {rs : List Rc}

theorem Cs.lt (h : Cs w C mb DM rs) : ∀ x ∈ blocks C mb rs, x < w.heap.size := by
  intro x hx
  simp only [blocks, List.mem_cons, List.mem_append] at hx
  rcases hx with rfl | hx | hx
  · exact h.ls.lt _ (Or.inl rfl)
  · obtain ⟨b, hb⟩ : ∃ b, mb = some b := by cases mb <;> simp at hx ⊢
    rw [hb] at hx
    simp at hx
    subst hx
    exact own_lt (h.by1 _ hb).own
  · obtain ⟨l, hl, hxl⟩ := List.mem_flatten.1 hx
    obtain ⟨r, hr, rfl⟩ := List.mem_map.1 hl
    obtain ⟨i, hi, rfl⟩ := List.mem_iff_getElem.1 hr
    have hrf := h.rf i hi
    simp only [trip, List.mem_cons, List.not_mem_nil, or_false] at hxl
    rcases hxl with rfl | rfl | rfl
    · exact hrf.blk.lt
    · exact h.ls.lt _ (Or.inr (List.mem_map.2 ⟨_, List.mem_map.2 ⟨_, hr, rfl⟩, rfl⟩))
    · exact own_lt hrf.lk

theorem blocks_append (b : Nat) (r : Rc) : blocks C (some b) (rs ++ [r]) = blocks C (some b) rs ++ trip r := by simp [blocks]
theorem not_inL {k : Nat} (h : k ∉ blocks C mb rs) : ¬ inL C (els rs) k := fun i => h (inL_blocks i)

/-- add, where the client is not known. -/
theorem cs_add_new (c s : Int) (name : ByteArray) (h : Cs w C mb DM rs) (hno : ∀ r ∈ rs, r.id ≠ c) (hwf : (Lit.int .u64 c).wf = true) (hk : name.size ≤ maxLen) (hlen : rs.length + 1 < 1000000000000) :
    Calls Yba.prog 7 #[.pointer (some ⟨C, 0, none⟩), .int .u64 c, .string name, .int .u64 s] w fun e w' => e = .returned (.tuple #[]) ∧
      ∃ mb' DM' rs', Cs w' C mb' DM' rs' ∧ rs'.map say = rs.map say ++ [(c, s, [name])] ∧ (∀ x ∈ blocks C mb' rs', x ∈ blocks C mb rs ∨ w.heap.size ≤ x) ∧ Only (· ∈ blocks C mb rs) w w' := by
  have hlt := h.lt
  cases mb with
  | some b =>
    have hB := h.by1 b rfl
    have hbn : b ∈ blocks C (some b) rs := by simp [blocks]
    have hbC : b ≠ C := fun e => by
      have := h.nodup
      simp [blocks, e] at this
    have hbE : ¬ inL C (els rs) b := fun i => by
      rcases i with i | i
      · exact hbC i
      · obtain ⟨x, hx, hxe⟩ := List.mem_map.1 i
        obtain ⟨r0, hr0, rfl⟩ := List.mem_map.1 hx
        obtain ⟨i0, hi0, rfl⟩ := List.mem_iff_getElem.1 hr0
        exact h.ne_mb hi0 (a := rs[i0].E) (by simp [trip]) rfl (by simpa using hxe)
    refine (add_new_raw b rs.length DM c s name h.ls (by simpa [els] using hlen) hB.own hbC hbE hwf (hB.no c hno).1 (by unfold maxLen; omega) hk).mono ?_
    rintro e w' ⟨rfl, g1, g2, g3, g4, g5, g6⟩
    refine ⟨rfl, some b, DM.put (kI c) (.held (w.heap.size + 1)), rs ++ [⟨c, s, [name], w.heap.size + 1, w.heap.size + 2, w.heap.size, (DataW.map []).put (kS name) (.agg [])⟩], ?_, say_append _, fun x hx => ?_, g5.mono (fun k _ s => s.elim (fun i => inL_blocks i) (fun e => e ▸ hbn))⟩
    · refine h.grow (b := b) (n := rs.length + 1) (fun x hx => (Option.some.inj hx).symm) ⟨c, s, [name], w.heap.size + 1, w.heap.size + 2, w.heap.size, (DataW.map []).put (kS name) (.agg [])⟩ name DM hno hwf hk rfl rfl hB.own.isMap (hB.own.tidy law23) hB.size hB.at_ hB.no g1 g2 g3 g4 (fun k hk a e => g5.block k hk (fun s => s.elim a e)) ?_
      rw [blocks_append]
      exact List.nodup_append.2 ⟨h.nodup, by simp [trip], fun a ha b' hb' => by
        have := hlt a ha
        simp [trip] at hb'
        omega⟩
    · rw [blocks_append] at hx
      rcases List.mem_append.1 hx with hx | hx
      · exact Or.inl hx
      · simp [trip] at hx; right; omega
  | none =>
    obtain rfl : rs = [] := h.by0 rfl
    refine (add_first_raw c s name h.ls (by simp [els]) hwf hk).mono ?_
    rintro e w' ⟨rfl, g1, g2, g3, g4, g5, g6⟩
    have hCl := hlt C (by simp [blocks])
    refine ⟨rfl, some w.heap.size, (DataW.map []).put (kI c) (.held (w.heap.size + 2)), [] ++ [⟨c, s, [name], w.heap.size + 2, w.heap.size + 3, w.heap.size + 1, (DataW.map []).put (kS name) (.agg [])⟩], ?_, say_append _, fun x hx => ?_, g5.mono (fun k _ i => inL_blocks i)⟩
    · refine h.grow (b := w.heap.size) (n := 1) (fun x hx => by cases hx) ⟨c, s, [name], w.heap.size + 2, w.heap.size + 3, w.heap.size + 1, (DataW.map []).put (kS name) (.agg [])⟩ name (DataW.map []) hno hwf hk rfl rfl isMap_empty tidy_empty rfl (fun x hx => by cases hx) (fun c' _ => ⟨rfl, rfl⟩) g1 g2 g3 g4 (fun k hk a e => g5.block k hk a) ?_
      simp [blocks, trip]
      omega
    · simp [blocks, trip] at hx
      rcases hx with rfl | hx
      · left; simp [blocks]
      · right; omega
end Go.Proofs.Ybulkdrpg
