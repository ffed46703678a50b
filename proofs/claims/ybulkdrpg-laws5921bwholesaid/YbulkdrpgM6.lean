import Derived.Test.YbulkdrpgM5
namespace Go.Proofs.Ybulkdrpg
open Go.RowKit Go.Maps Go.WideMaps Go.WideElems
variable {w w' : World} {C : Nat} {mb : Option Nat} {DM : DataW Nat} {rs : List Rc}

theorem map_erase {α β : Type} (f : α → β) (l : List α) (j : Nat) : (l.eraseIdx j).map f = (l.map f).eraseIdx j := by
  induction l generalizing j with
  | nil => rfl
  | cons a r ih => cases j with
    | zero => rfl
    | succ j => simp only [List.eraseIdx_cons_succ, List.map_cons, ih]

theorem erase_get {α : Type} {l : List α} {j i : Nat} (hi : i < (l.eraseIdx j).length) : ∃ (k : Nat) (hk : k < l.length), k ≠ j ∧ (l.eraseIdx j)[i] = l[k] := by
  by_cases h : i < j
  · have hk : i < l.length := by
      have := List.length_eraseIdx_le l j
      omega
    exact ⟨i, hk, by omega, List.getElem_eraseIdx_of_lt hi h⟩
  · have hk : i + 1 < l.length := by
      by_cases hj : j < l.length
      · rw [List.length_eraseIdx_of_lt hj] at hi; omega
      · rw [List.eraseIdx_of_length_le (by omega)] at hi; omega
    exact ⟨i + 1, hk, by omega, List.getElem_eraseIdx_of_ge hi (by omega)⟩

theorem flatten_erase (l : List (List Nat)) (j : Nat) : (l.eraseIdx j).flatten.Sublist l.flatten := by
  induction l generalizing j with
  | nil => exact List.Sublist.refl _
  | cons a r ih => cases j with
    | zero => simp
    | succ j => simp only [List.eraseIdx_cons_succ, List.flatten_cons]; exact (ih j).append_left a

/-- Record j is gone. -/
theorem Cs.erase {j b : Nat} (h : Cs w C mb DM rs) (hj : j < rs.length) (hb : mb = some b) (hls : Ls w' C (.map (some b)) ((els rs).eraseIdx j)) (hB : OB w' b rs.length (DM.del (kI rs[j].id)))
    (hO : ∀ k, k < w.heap.size → ¬ inL C (els rs) k → k ≠ b → k ≠ rs[j].L → w'.heap[k]? = w.heap[k]?) :
    Cs w' C mb (DM.del (kI rs[j].id)) (rs.eraseIdx j) ∧ ∀ x ∈ blocks C mb (rs.eraseIdx j), x ∈ blocks C mb rs := by
  have hBy := h.by1 b hb
  have hlen : (rs.eraseIdx j).length = rs.length - 1 := List.length_eraseIdx_of_lt hj
  have hsub : ((rs.eraseIdx j).map trip).flatten.Sublist ((rs.map trip).flatten) := by rw [map_erase]; exact flatten_erase _ j
  have hbs : (blocks C mb (rs.eraseIdx j)).Sublist (blocks C mb rs) := (hsub.append_left mb.toList).cons_cons C
  have hids : ∀ {i k : Nat} (hi : i < rs.length) (hk : k < rs.length), rs[i].id = rs[k].id → i = k := fun hi hk e => (List.getElem_inj (xs := rs.map (·.id)) (h₀ := by simpa using hi) (h₁ := by simpa using hk) h.ids).1 (by simpa using e)
  have hsz := size_del (k := kI rs[j].id) (hBy.own.tidy law23)
  rw [if_pos (hBy.at_ _ (List.getElem_mem hj)).2, hBy.size] at hsz
  refine ⟨⟨?_, fun i hi => ?_, (fun e => by rw [hb] at e; cases e), fun x hx => ?_, ?_, hbs.nodup h.nodup⟩, fun x hx => hbs.subset hx⟩
  · have : els (rs.eraseIdx j) = (els rs).eraseIdx j := map_erase _ rs j
    rw [this, hb]; exact hls
  · obtain ⟨k, hk, hkj, e⟩ := erase_get hi
    rw [e]
    have hrf := h.rf k hk
    have nin : ∀ a, (a = rs[k].R ∨ a = rs[k].L) → ¬ inL C (els rs) a := fun a ha hin => by
      have hat : a ∈ trip rs[k] := by rcases ha with rfl | rfl <;> simp [trip]
      rcases hin with hin | hin
      · exact h.ne_C hk hat hin
      · obtain ⟨x, hx, hxe⟩ := List.mem_map.1 hin
        obtain ⟨r0, hr0, rfl⟩ := List.mem_map.1 hx
        obtain ⟨i0, hi0, rfl⟩ := List.mem_iff_getElem.1 hr0
        by_cases hij : i0 = k
        · subst hij
          have := h.trip_at hk
          simp [trip] at this
          simp at hxe
          rcases ha with rfl | rfl <;> omega
        · exact h.ne_other hi0 hk hij (a := rs[i0].E) (by simp [trip]) hat (by simpa using hxe)
    exact hrf.same (hO _ hrf.blk.lt (nin _ (Or.inl rfl)) (h.ne_mb hk (by simp [trip]) hb) (h.ne_other hk hj hkj (by simp [trip]) (by simp [trip])))
      (hO _ (own_lt hrf.lk) (nin _ (Or.inr rfl)) (h.ne_mb hk (by simp [trip]) hb) (h.ne_other hk hj hkj (by simp [trip]) (by simp [trip])))
  · rw [hb] at hx
    cases hx
    have hin : ∀ r ∈ rs.eraseIdx j, ∃ (k : Nat) (hk : k < rs.length), k ≠ j ∧ r = rs[k] := fun r hr => by
      obtain ⟨i, hi, rfl⟩ := List.mem_iff_getElem.1 hr
      exact erase_get hi
    refine ⟨?_, by omega, fun r hr => ?_, fun c hc => ?_⟩
    · have := own_tight hB
      rwa [show Maps.size (DM.del (kI rs[j].id)) = (rs.eraseIdx j).length by omega] at this
    · obtain ⟨k, hk, hkj, rfl⟩ := hin r hr
      have hne : kI rs[k].id ≠ kI rs[j].id := fun q => hkj (hids hk hj (kI_inj q))
      rw [atKey_del_other hne, has_del_other hne]
      exact hBy.at_ _ (List.getElem_mem hk)
    · by_cases e : c = rs[j].id
      · subst e
        exact ⟨atKey_del_same _, has_del_same⟩
      · rw [atKey_del_other (fun q => e (kI_inj q)), has_del_other (fun q => e (kI_inj q))]
        refine hBy.no c (fun r hr q => ?_)
        obtain ⟨k, hk, rfl⟩ := List.mem_iff_getElem.1 hr
        have hkj : k ≠ j := fun x => e (by subst x; exact q.symm)
        exact hc rs[k] (List.mem_eraseIdx_iff_getElem.2 ⟨k, hk, hkj, rfl⟩) q
  · rw [map_erase]
    exact (List.eraseIdx_sublist _ j).nodup h.ids

/-- Blocks of a record are no blocks of the list, but for its element. -/
theorem Cs.not_in (h : Cs w C mb DM rs) {k : Nat} (hk : k < rs.length) {a : Nat} (ha : a = rs[k].R ∨ a = rs[k].L) : ¬ inL C (els rs) a := fun hin => by
  have hat : a ∈ trip rs[k] := by rcases ha with rfl | rfl <;> simp [trip]
  rcases hin with hin | hin
  · exact h.ne_C hk hat hin
  · obtain ⟨x, hx, hxe⟩ := List.mem_map.1 hin
    obtain ⟨r0, hr0, rfl⟩ := List.mem_map.1 hx
    obtain ⟨i0, hi0, rfl⟩ := List.mem_iff_getElem.1 hr0
    by_cases hij : i0 = k
    · subst hij
      have := h.trip_at hk
      simp [trip] at this
      simp at hxe
      rcases ha with rfl | rfl <;> omega
    · exact h.ne_other hi0 hk hij (a := rs[i0].E) (by simp [trip]) hat (by simpa using hxe)
theorem Cs.b_not_in {b : Nat} (h : Cs w C mb DM rs) (hb : mb = some b) : ¬ inL C (els rs) b := fun i => by
  have hnd := h.nodup
  rw [hb] at hnd
  rcases i with i | i
  · rw [i] at hnd; simp [blocks] at hnd
  · obtain ⟨x, hx, hxe⟩ := List.mem_map.1 i
    obtain ⟨r0, hr0, rfl⟩ := List.mem_map.1 hx
    obtain ⟨i0, hi0, rfl⟩ := List.mem_iff_getElem.1 hr0
    exact h.ne_mb hi0 (a := rs[i0].E) (by simp [trip]) hb (by simpa using hxe)

/-- remove, where the client loses its last lock. -/
theorem cs_rm_drop {j : Nat} (c : Int) (name : ByteArray) (h : Cs w C mb DM rs) (hj : j < rs.length) (hc : rs[j].id = c) (hk : name.size ≤ maxLen) (hl : Less rs[j].names name []) :
    Calls Yba.prog 5 #[.pointer (some ⟨C, 0, none⟩), .int .u64 c, .string name] w fun e w' => e = .returned (.tuple #[]) ∧
      ∃ DM' rs', Cs w' C mb DM' rs' ∧ rs'.map say = (rs.map say).eraseIdx j ∧ (∀ x ∈ blocks C mb rs', x ∈ blocks C mb rs) ∧ Only (· ∈ blocks C mb rs) w w' := by
  obtain ⟨b, hb⟩ := h.some_b hj
  have hB := h.by1 b hb
  have hrf := h.rf j hj
  have hat := hB.at_ rs[j] (List.getElem_mem hj)
  have hwf := hrf.wf
  rw [hc] at hat hwf
  have hls := h.ls
  rw [hb] at hls
  have hnd := h.trip_at hj
  simp [trip] at hnd
  obtain ⟨_, hsize⟩ := hrf.del hl
  have hjl : j < (els rs).length := by rw [els_len]; exact hj
  refine (rm_drop_raw b rs[j].R rs[j].L rs.length rs[j].names.length j (els rs) rs[j].D c name (clA rs[j]) w hls hjl hB.own hwf hat.1 hrf.blk hnd.1.2 (h.not_in hj (Or.inl rfl)) (h.not_in hj (Or.inr rfl)) (h.b_not_in hb) (h.ne_mb hj (by simp [trip]) hb)
    (by simp [clA, hc]) rfl (by rw [els_at hj]; rfl) hrf.lk hk (by rw [hsize]; rfl)).mono ?_
  rintro e w' ⟨rfl, g1, g2, g3⟩
  rw [← hc] at g2
  obtain ⟨e1, e2⟩ := h.erase hj hb g1 g2 (fun k hk a b c => g3.block k hk (fun s => s.elim a (fun s => s.elim b c)))
  refine ⟨rfl, _, _, e1, map_erase say rs j, e2, g3.mono (fun k _ s => ?_)⟩
  rcases s with s | s | s
  · exact inL_blocks s
  · rw [s]; simp [blocks, hb]
  · rw [s]; exact mem_blocks hj (by simp [trip])
end Go.Proofs.Ybulkdrpg
