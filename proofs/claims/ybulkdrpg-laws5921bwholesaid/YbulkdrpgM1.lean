import Derived.Test.YbulkdrpgL9
namespace Go.Proofs.Ybulkdrpg
open Go.RowKit Go.Maps Go.WideMaps Go.WideElems
variable {w w' : World} {C : Nat} {mb : Option Nat} {DM : DataW Nat} {rs : List Rc}

theorem say_append (r : Rc) : (rs ++ [r]).map say = rs.map say ++ [say r] := by simp

/-- A new record behind the others. -/
theorem Cs.grow {b n : Nat} (h : Cs w C mb DM rs) (hmb : ∀ x, mb = some x → x = b) (r : Rc) (name : ByteArray) (DM0 : DataW Nat)
    (hno : ∀ x ∈ rs, x.id ≠ r.id) (hwf : (Lit.int .u64 r.id).wf = true) (hk : name.size ≤ maxLen) (hnames : r.names = [name]) (hD : r.D = (DataW.map []).put (kS name) (.agg []))
    (hm0 : IsMap DM0) (ht0 : Tidy DM0) (hs0 : Maps.size DM0 = rs.length) (ha0 : ∀ x ∈ rs, DM0.atKey (kI x.id) .nil = .held x.R ∧ Maps.has DM0 (kI x.id) = true) (hn0 : ∀ c, (∀ x ∈ rs, x.id ≠ c) → DM0.atKey (kI c) .nil = .nil ∧ Maps.has DM0 (kI c) = false)
    (hls : Ls w' C (.map (some b)) (els rs ++ [(r.E, .iface 72 (pt r.R))])) (hB : OB w' b n (DM0.put (kI r.id) (.held r.R))) (hR : Bk w' r.R (clA r) 78) (hL : OL w' r.L 1 r.D)
    (hO : ∀ k, k < w.heap.size → ¬ inL C (els rs) k → k ≠ b → w'.heap[k]? = w.heap[k]?) (hnd : (blocks C (some b) (rs ++ [r])).Nodup) :
    Cs w' C (some b) (DM0.put (kI r.id) (.held r.R)) (rs ++ [r]) := by
  have hsz := size_put (k := kI r.id) ht0 (.held r.R)
  rw [if_neg (by rw [(hn0 r.id hno).2]; simp), hs0] at hsz
  refine ⟨?_, fun i hi => ?_, (fun e => by cases e), fun x hx => ?_, ?_, hnd⟩
  · have : els (rs ++ [r]) = els rs ++ [(r.E, .iface 72 (pt r.R))] := by simp [els]
    rw [this]; exact hls
  · by_cases hi' : i < rs.length
    · rw [List.getElem_append_left hi']
      have hrf := h.rf i hi'
      have nin : ∀ a, (a = rs[i].R ∨ a = rs[i].L) → ¬ inL C (els rs) a := fun a ha hin => by
        have hat : a ∈ trip rs[i] := by rcases ha with rfl | rfl <;> simp [trip]
        rcases hin with hin | hin
        · exact h.ne_C hi' hat hin
        · obtain ⟨x, hx, hxe⟩ := List.mem_map.1 hin
          obtain ⟨r0, hr0, rfl⟩ := List.mem_map.1 hx
          obtain ⟨i0, hi0, rfl⟩ := List.mem_iff_getElem.1 hr0
          by_cases hij : i0 = i
          · subst hij
            have := h.trip_at hi'
            simp [trip] at this
            simp at hxe
            rcases ha with rfl | rfl <;> omega
          · exact h.ne_other hi0 hi' hij (a := rs[i0].E) (by simp [trip]) hat (by simpa using hxe)
      have nb : ∀ a, a ∈ trip rs[i] → a ≠ b := fun a ha e => by
        obtain ⟨x, hx⟩ := h.some_b hi'
        exact h.ne_mb hi' ha hx (e.trans (hmb x hx).symm)
      exact hrf.same (hO _ hrf.blk.lt (nin _ (Or.inl rfl)) (nb _ (by simp [trip]))) (hO _ (own_lt hrf.lk) (nin _ (Or.inr rfl)) (nb _ (by simp [trip])))
    · have hi2 : i = rs.length := by simp at hi; omega
      subst hi2
      simp only [List.getElem_concat_length]
      have hhas : ∀ x : ByteArray, Maps.has r.D (kS x) = true ↔ x ∈ r.names := fun x => by
        rw [hD, hnames]
        by_cases e : x = name
        · subst e
          simp [has_put_same isMap_empty (isKey9 x)]
        · rw [has_put_other (fun q => e (kS_inj q))]
          simp [e, Maps.has]
      have hsize : Maps.size r.D = r.names.length := by
        rw [hD, hnames, size_put tidy_empty]
        simp [Maps.has, Maps.size]
      exact ⟨hR, by rw [hnames]; exact hL, hhas, hsize, by rw [hnames]; simp, by rw [hnames]; simp, hwf, by rw [hnames]; intro x hx; simp at hx; rw [hx]; exact hk⟩
  · cases hx
    refine ⟨?_, by rw [hsz]; simp, fun x hx => ?_, fun c hc => ?_⟩
    · have := own_tight hB
      rw [hsz] at this
      simpa using this
    · rcases List.mem_append.1 hx with hx | hx
      · rw [atKey_put_other (fun q => hno x hx (kI_inj q)), has_put_other (fun q => hno x hx (kI_inj q))]
        exact ha0 x hx
      · simp at hx
        subst hx
        exact ⟨atKey_put_same hm0 (isKey23 _) _ _, has_put_same hm0 (isKey23 _) _⟩
    · have hcr : c ≠ r.id := fun e => hc r (by simp) e.symm
      rw [atKey_put_other (fun q => hcr (kI_inj q)), has_put_other (fun q => hcr (kI_inj q))]
      exact hn0 c (fun x hx => hc x (List.mem_append.2 (Or.inl hx)))
  · rw [List.map_append]
    exact List.nodup_append.2 ⟨h.ids, by simp, fun a ha b hb => by
      simp at hb; subst hb
      obtain ⟨x, hx, rfl⟩ := List.mem_map.1 ha
      exact hno x hx⟩
end Go.Proofs.Ybulkdrpg
