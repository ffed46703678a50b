import Derived.Test.YbulkdrpgL8
namespace Go.Proofs.Ybulkdrpg
open Go.RowKit Go.Maps Go.WideMaps Go.WideElems
variable {w w' : World} {C : Nat} {mb : Option Nat} {DM : DataW Nat} {rs : List Rc}

theorem set_same_map {α β : Type} (f : α → β) (l : List α) (j : Nat) (hj : j < l.length) (x : α) (h : f x = f l[j]) : (l.set j x).map f = l.map f := by
  rw [List.map_set, h]
  apply List.ext_getElem
  · simp
  · intro i h1 h2
    by_cases e : j = i
    · subst e; simp
    · simp [e]

/-- Record j says something else, over another locks' datum; all else lies as it lay. -/
theorem Cs.turn {j : Nat} (h : Cs w C mb DM rs) (hj : j < rs.length) (r' : Rc) (e1 : r'.id = rs[j].id) (e2 : r'.since = rs[j].since) (e3 : r'.R = rs[j].R) (e4 : r'.E = rs[j].E) (e5 : r'.L = rs[j].L)
    (hrf : Rf w' r') (hb : ∀ k, k < w.heap.size → k ≠ rs[j].L → w'.heap[k]? = w.heap[k]?) : Cs w' C mb DM (rs.set j r') ∧ blocks C mb (rs.set j r') = blocks C mb rs := by
  have t1 : (rs.set j r').map trip = rs.map trip := set_same_map trip rs j hj r' (by simp [trip, e3, e4, e5])
  have t2 : els (rs.set j r') = els rs := set_same_map _ rs j hj r' (by simp [e3, e4])
  have t3 : (rs.set j r').map (·.id) = rs.map (·.id) := set_same_map _ rs j hj r' e1
  have hblk : blocks C mb (rs.set j r') = blocks C mb rs := by simp only [blocks, t1]
  have hLlt : ∀ i (hi : i < rs.length), rs[i].R < w.heap.size ∧ rs[i].L < w.heap.size := fun i hi => ⟨(h.rf i hi).blk.lt, own_lt (h.rf i hi).lk⟩
  have hnd := h.trip_at hj
  simp [trip] at hnd
  refine ⟨⟨?_, fun i hi => ?_, fun e => ?_, fun b e => ?_, ?_, ?_⟩, hblk⟩
  · rw [t2]
    refine h.ls.same (fun k hk => hb k (h.ls.lt k hk) (fun e => ?_))
    rcases hk with hk | hk
    · exact h.ne_C hj (a := rs[j].L) (by simp [trip]) (e ▸ hk)
    · obtain ⟨x, hx, hxe⟩ := List.mem_map.1 hk
      obtain ⟨r, hr, rfl⟩ := List.mem_map.1 hx
      obtain ⟨i, hi, rfl⟩ := List.mem_iff_getElem.1 hr
      by_cases hij : i = j
      · subst hij
        simp at hxe
        omega
      · exact h.ne_other hi hj hij (a := rs[i].E) (b := rs[j].L) (by simp [trip]) (by simp [trip]) (by simpa using hxe.trans e)
  · have hi' : i < rs.length := by simpa using hi
    by_cases hij : j = i
    · subst hij
      simp only [List.getElem_set_self]
      exact hrf
    · rw [List.getElem_set_ne hij]
      exact (h.rf i hi').same (hb _ (hLlt i hi').1 (h.ne_other hi' hj (Ne.symm hij) (by simp [trip]) (by simp [trip]))) (hb _ (hLlt i hi').2 (h.ne_other hi' hj (Ne.symm hij) (by simp [trip]) (by simp [trip])))
  · have := h.by0 e
    rw [this] at hj; simp at hj
  · have hB := h.by1 b e
    have hmem : ∀ r ∈ rs.set j r', ∃ r0 ∈ rs, r.id = r0.id ∧ r.R = r0.R := fun r hr => by
      rcases List.mem_or_eq_of_mem_set hr with hr | rfl
      · exact ⟨r, hr, rfl, rfl⟩
      · exact ⟨rs[j], List.getElem_mem hj, e1, e3⟩
    have hmem2 : ∀ r ∈ rs, ∃ r0 ∈ rs.set j r', r.id = r0.id := fun r hr => by
      obtain ⟨i, hi, rfl⟩ := List.mem_iff_getElem.1 hr
      by_cases hij : j = i
      · subst hij
        exact ⟨r', List.mem_iff_getElem.2 ⟨j, by simpa using hi, by simp⟩, e1.symm⟩
      · exact ⟨rs[i], List.mem_iff_getElem.2 ⟨i, by simpa using hi, by rw [List.getElem_set_ne hij]⟩, rfl⟩
    refine ⟨?_, by rw [hB.size]; simp, fun r hr => ?_, fun c hc => hB.no c (fun r hr => ?_)⟩
    · have := own_same (w' := w') hB.own (hb b (own_lt hB.own) (fun x => h.ne_mb hj (a := rs[j].L) (by simp [trip]) e x.symm))
      simpa using this
    · obtain ⟨r0, hr0, q1, q2⟩ := hmem r hr
      rw [q1, q2]; exact hB.at_ r0 hr0
    · obtain ⟨r0, hr0, q⟩ := hmem2 r hr
      rw [q]; exact hc r0 hr0
  · rw [t3]; exact h.ids
  · rw [hblk]; exact h.nodup

theorem say_set {j : Nat} (r' : Rc) : (rs.set j r').map say = (rs.map say).set j (say r') := List.map_set

theorem Cs.some_b (h : Cs w C mb DM rs) {j : Nat} (hj : j < rs.length) : ∃ b, mb = some b := by
  cases hm : mb with
  | none => have := h.by0 hm; rw [this] at hj; simp at hj
  | some b => exact ⟨b, rfl⟩

/-- add, where the client is known. names' is names, with the name in it. -/
theorem cs_add_known {j : Nat} (c s : Int) (name : ByteArray) (names' : List ByteArray) (h : Cs w C mb DM rs) (hj : j < rs.length) (hc : rs[j].id = c) (hk : name.size ≤ maxLen)
    (hn : (name ∈ rs[j].names ∧ names' = rs[j].names) ∨ (name ∉ rs[j].names ∧ names' = rs[j].names ++ [name])) (hlen : rs[j].names.length < 1000000000000) :
    Calls Yba.prog 7 #[.pointer (some ⟨C, 0, none⟩), .int .u64 c, .string name, .int .u64 s] w fun e w' => e = .returned (.tuple #[]) ∧
      ∃ rs', Cs w' C mb DM rs' ∧ rs'.map say = (rs.map say).set j (rs[j].id, rs[j].since, names') ∧ blocks C mb rs' = blocks C mb rs ∧ Only (· ∈ blocks C mb rs) w w' := by
  obtain ⟨b, hb⟩ := h.some_b hj
  have hB := h.by1 b hb
  have hrf := h.rf j hj
  have hat := hB.at_ rs[j] (List.getElem_mem hj)
  have hwf := hrf.wf
  rw [hc] at hat hwf
  have hc0 := h.cellC
  rw [hb] at hc0
  refine (add_known_raw C b rs[j].R rs[j].L rs.length rs[j].names.length DM rs[j].D c s name (clA rs[j]) w hc0 hB.own hwf hat.1 hrf.blk rfl hrf.lk (by unfold maxLen; omega) hk).mono ?_
  rintro e w' ⟨rfl, hL, hg⟩
  refine ⟨rfl, ?_⟩
  have hty := hrf.lk.tidy law9
  have hsz := size_put (k := kS name) hty (.agg [])
  have hhas : ∀ x : ByteArray, Maps.has (rs[j].D.put (kS name) (.agg [])) (kS x) = true ↔ x ∈ names' := fun x => by
    by_cases e : x = name
    · subst e
      simp only [has_put_same hrf.lk.isMap (isKey9 x), true_iff]
      rcases hn with ⟨h1, h2⟩ | ⟨_, h2⟩ <;> rw [h2]
      · exact h1
      · simp
    · rw [has_put_other (fun q => e (kS_inj q)), hrf.lh]
      rcases hn with ⟨_, h2⟩ | ⟨_, h2⟩ <;> rw [h2]
      simp [e]
  have hsize : Maps.size (rs[j].D.put (kS name) (.agg [])) = names'.length := by
    rw [hsz, hrf.lz]
    rcases hn with ⟨h1, h2⟩ | ⟨h1, h2⟩
    · rw [if_pos ((hrf.lh name).2 h1), h2]
    · rw [if_neg (fun q => h1 ((hrf.lh name).1 q)), h2]; simp
  obtain ⟨h1, h2⟩ := h.turn (w' := w') hj { rs[j] with names := names', D := rs[j].D.put (kS name) (.agg []) } rfl rfl rfl rfl rfl
    { blk := (hg.block _ hrf.blk.lt (fun q => by
        have := h.trip_at hj
        simp [trip] at this
        exact this.1.2 (Option.some.inj q))).trans hrf.blk
      lk := by have := own_tight hL; rwa [hsize] at this
      lh := hhas
      lz := hsize
      ne := by rcases hn with ⟨_, q⟩ | ⟨_, q⟩ <;> show names' ≠ [] <;> rw [q]; exact hrf.ne; simp
      nd := by
        show names'.Nodup
        rcases hn with ⟨_, q⟩ | ⟨q0, q⟩ <;> rw [q]
        · exact hrf.nd
        · exact List.nodup_append.2 ⟨hrf.nd, by simp, fun a ha b hb => by simp at hb; subst hb; exact fun e => q0 (e ▸ ha)⟩
      wf := hrf.wf
      ns := by
        intro x hx
        have hx' : x ∈ names' := hx
        rcases hn with ⟨_, q⟩ | ⟨_, q⟩ <;> rw [q] at hx'
        · exact hrf.ns x hx'
        · rcases List.mem_append.1 hx' with hx' | hx'
          · exact hrf.ns x hx'
          · simp at hx'; rw [hx']; exact hk }
    (fun k hk' hne => hg.block k hk' (fun q => hne (by cases q; rfl)))
  refine ⟨_, h1, say_set _, h2, only_grown hg (mem_blocks hj (by simp [trip]))⟩
end Go.Proofs.Ybulkdrpg
