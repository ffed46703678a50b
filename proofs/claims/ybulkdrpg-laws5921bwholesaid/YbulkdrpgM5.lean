import Derived.Test.YbulkdrpgM4
namespace Go.Proofs.Ybulkdrpg
open Go.RowKit Go.Maps Go.WideMaps Go.WideElems
variable {w w' : World} {C : Nat} {mb : Option Nat} {DM : DataW Nat} {rs : List Rc}

/-- names' is names without the name. -/
def Less (names : List ByteArray) (name : ByteArray) (names' : List ByteArray) : Prop := (name ∉ names ∧ names' = names) ∨ ∃ (i : Nat) (hi : i < names.length), names[i] = name ∧ names' = names.eraseIdx i

theorem Less.mem {names names' : List ByteArray} {name : ByteArray} (h : Less names name names') (hnd : names.Nodup) (x : ByteArray) : x ∈ names' ↔ x ∈ names ∧ x ≠ name := by
  rcases h with ⟨h1, rfl⟩ | ⟨i, hi, h1, rfl⟩
  · exact ⟨fun hx => ⟨hx, fun e => h1 (e ▸ hx)⟩, fun hx => hx.1⟩
  · rw [List.mem_eraseIdx_iff_getElem]
    constructor
    · rintro ⟨k, hk, hne, rfl⟩
      exact ⟨List.getElem_mem hk, fun e => hne ((List.getElem_inj hnd).1 (e.trans h1.symm))⟩
    · rintro ⟨hx, hne⟩
      obtain ⟨k, hk, rfl⟩ := List.mem_iff_getElem.1 hx
      exact ⟨k, hk, fun e => hne (by subst e; exact h1), rfl⟩
theorem Less.len {names names' : List ByteArray} {name : ByteArray} (h : Less names name names') : (name ∉ names ∧ names'.length = names.length) ∨ (name ∈ names ∧ names'.length + 1 = names.length) := by
  rcases h with ⟨h1, rfl⟩ | ⟨i, hi, h1, rfl⟩
  · exact Or.inl ⟨h1, rfl⟩
  · refine Or.inr ⟨h1 ▸ List.getElem_mem hi, ?_⟩
    rw [List.length_eraseIdx_of_lt hi]; omega
theorem Less.nodup {names names' : List ByteArray} {name : ByteArray} (h : Less names name names') (hnd : names.Nodup) : names'.Nodup := by
  rcases h with ⟨_, rfl⟩ | ⟨i, hi, _, rfl⟩
  · exact hnd
  · exact (List.eraseIdx_sublist names i).nodup hnd

/-- What the locks' map says behind the delete. -/
theorem Rf.del {r : Rc} {name : ByteArray} {names' : List ByteArray} (h : Rf w r) (hl : Less r.names name names') :
    (∀ x : ByteArray, Maps.has (r.D.del (kS name)) (kS x) = true ↔ x ∈ names') ∧ Maps.size (r.D.del (kS name)) = names'.length := by
  constructor
  · intro x
    rw [hl.mem h.nd]
    by_cases e : x = name
    · subst e; simp [has_del_same]
    · rw [has_del_other (fun q => e (kS_inj q)), h.lh]
      exact ⟨fun q => ⟨q, e⟩, fun q => q.1⟩
  · have hs := size_del (k := kS name) (h.lk.tidy law9)
    rw [h.lz] at hs
    rcases hl.len with ⟨h1, h2⟩ | ⟨h1, h2⟩
    · rw [if_neg (fun q => h1 ((h.lh name).1 q))] at hs; omega
    · rw [if_pos ((h.lh name).2 h1)] at hs; omega

/-- remove, where the client keeps a lock. -/
theorem cs_rm_keep {j : Nat} (c : Int) (name : ByteArray) (names' : List ByteArray) (h : Cs w C mb DM rs) (hj : j < rs.length) (hc : rs[j].id = c) (hk : name.size ≤ maxLen) (hl : Less rs[j].names name names') (hne : names' ≠ []) :
    Calls Yba.prog 5 #[.pointer (some ⟨C, 0, none⟩), .int .u64 c, .string name] w fun e w' => e = .returned (.tuple #[]) ∧
      ∃ rs', Cs w' C mb DM rs' ∧ rs'.map say = (rs.map say).set j (rs[j].id, rs[j].since, names') ∧ blocks C mb rs' = blocks C mb rs ∧ Only (· ∈ blocks C mb rs) w w' := by
  obtain ⟨b, hb⟩ := h.some_b hj
  have hB := h.by1 b hb
  have hrf := h.rf j hj
  have hat := hB.at_ rs[j] (List.getElem_mem hj)
  have hwf := hrf.wf
  rw [hc] at hat hwf
  have hc0 := h.cellC
  rw [hb] at hc0
  have hnd := h.trip_at hj
  simp [trip] at hnd
  obtain ⟨hhas, hsize⟩ := hrf.del hl
  have hpos : 0 < names'.length := List.length_pos_iff.2 hne
  refine (rm_keep_raw b rs[j].R rs[j].L rs.length rs[j].names.length rs[j].D c name (clA rs[j]) w hc0 hB.own hwf hat.1 hrf.blk hnd.1.2 rfl hrf.lk hk (by rw [hsize]; simp; omega)).mono ?_
  rintro e w' ⟨rfl, hL, hg⟩
  refine ⟨rfl, ?_⟩
  obtain ⟨h1, h2⟩ := h.turn (w' := w') hj { rs[j] with names := names', D := rs[j].D.del (kS name) } rfl rfl rfl rfl rfl
    { blk := (hg.block _ hrf.blk.lt (fun q => hnd.1.2 (Option.some.inj q))).trans hrf.blk
      lk := by have := own_tight hL; rwa [hsize] at this
      lh := hhas
      lz := hsize
      ne := hne
      nd := hl.nodup hrf.nd
      wf := hrf.wf
      ns := fun x hx => hrf.ns x ((hl.mem hrf.nd x).1 hx).1 }
    (fun k hk' hne => hg.block k hk' (fun q => hne (by cases q; rfl)))
  exact ⟨_, h1, say_set _, h2, only_grown hg (mem_blocks hj (by simp [trip]))⟩
end Go.Proofs.Ybulkdrpg
