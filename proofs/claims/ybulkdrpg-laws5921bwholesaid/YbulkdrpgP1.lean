import Derived.Test.YbulkdrpgO5
namespace Go.Proofs.Ybulkdrpg
open Go.RowKit Go.Maps Go.WideMaps Go.WideElems
variable {w w' : World} {C : Nat} {mb : Option Nat} {DM : DataW Nat} {rs : List Rc}

theorem By.same {b : Nat} (h : By w b DM rs) (e : w'.heap[b]? = w.heap[b]?) : By w' b DM rs := ⟨own_same h.own e, h.size, h.at_, h.no⟩

theorem Cs.same (h : Cs w C mb DM rs) (hb : ∀ k, k ∈ blocks C mb rs → w'.heap[k]? = w.heap[k]?) : Cs w' C mb DM rs :=
  ⟨h.ls.same (fun b hb' => hb b (inL_blocks hb')), fun i hi => (h.rf i hi).same (hb _ (mem_blocks hi (by simp [trip]))) (hb _ (mem_blocks hi (by simp [trip]))), h.by0,
    fun b e => (h.by1 b e).same (hb b (by subst e; simp [blocks])), h.ids, h.nodup⟩

/-- time.Time.IsZero at the zero time. -/
theorem isZero_zero (w : World) : Calls Yba.prog 20 #[.agg #[.int .u64 0, .int .i64 0, np]] w fun e w' => e = .returned (.bool true) ∧ w' = w.alloc (.cells #[.int .u64 0, .int .i64 0, np] 75) := by
  go_enter Yba.func20, Yba.ntmps20
  go_wp2
  go_ret
  exact ⟨rfl, rfl⟩

/-- The i-th element, or nil. -/
def ep (rs : List Rc) (i : Nat) : Value := match rs[i]? with
  | some r => pt r.E
  | none => np
theorem ep_at {i : Nat} (hi : i < rs.length) : ep rs i = pt rs[i].E := by simp [ep, hi]
theorem ep_end : ep rs rs.length = np := by simp [ep]

theorem len_cs (h : Cs w C mb DM rs) : Calls Yba.prog 18 #[.pointer (some ⟨C, 1, none⟩)] w fun e w' => e = .returned (.int .i64 (rs.length : Int)) ∧ w' = w := by
  rcases h.ls.head with k | ⟨k0, k⟩
  · rw [els_len] at k
    exact len_any C _ _ _ _ w k
  · have : rs.length = 0 := by rw [← els_len, k0]; rfl
    rw [this]
    exact len_any C _ _ _ _ w k

theorem front_cs (h : Cs w C mb DM rs) : Calls Yba.prog 19 #[.pointer (some ⟨C, 1, none⟩)] w fun e w' => e = .returned (ep rs 0) ∧ w' = w := by
  rcases h.ls.head with k | ⟨k0, k⟩
  · by_cases hp : rs.length = 0
    · rw [els_len, hp] at k
      have : ep rs 0 = np := by simp [ep, List.length_eq_zero_iff.1 hp]
      rw [this]
      exact front_none C _ _ _ w k
    · have hp' : 0 < rs.length := by omega
      have e1 : fst0 C (els rs) = pt rs[0].E := by
        have := els_at (rs := rs) hp'
        simp only [fst0]
        rw [List.getElem?_eq_getElem (by rw [els_len]; exact hp'), this]
      rw [e1, els_len] at k
      rw [ep_at hp']
      exact front_some C _ _ _ _ (by simp; intro e; simp [e] at hp) w k
  · have : rs.length = 0 := by rw [← els_len, k0]; rfl
    have : ep rs 0 = np := by simp [ep, List.length_eq_zero_iff.1 this]
    rw [this]
    exact front_none C _ _ _ w k

theorem next_cs (h : Cs w C mb DM rs) {i : Nat} (hi : i < rs.length) : Calls Yba.prog 21 #[pt rs[i].E] w fun e w' => e = .returned (ep rs (i + 1)) ∧ w' = w := by
  have he := h.ls.elem i (by rw [els_len]; exact hi)
  rw [els_at hi] at he
  by_cases hn : i + 1 < rs.length
  · have e1 : nx C (els rs) i = pt rs[i + 1].E := by
      simp only [nx]
      rw [List.getElem?_eq_getElem (by rw [els_len]; exact hn), els_at hn]
    rw [e1] at he
    have hN := h.ls.elem (i + 1) (by rw [els_len]; exact hn)
    rw [els_at hn] at hN
    rw [ep_at hn]
    rcases h.ls.head with k | ⟨_, k⟩
    · exact next_more C _ _ _ _ _ _ _ w k hN he
    · exact next_more C _ _ _ _ _ _ _ w k hN he
  · have e1 : nx C (els rs) i = rt C := by
      simp only [nx]
      rw [List.getElem?_eq_none (by rw [els_len]; omega)]
    rw [e1] at he
    have : ep rs (i + 1) = np := by simp only [ep]; rw [List.getElem?_eq_none (by omega)]
    rw [this]
    exact next_last C _ _ _ w he

theorem lenB_cs (h : Cs w C mb DM rs) (ty : TypeId) : (Builtin.len_ #[24] ty #[.map mb]).run Yba.prog w = .ok (.int .i64 (rs.length : Int)) w := by
  cases mb with
  | none =>
    rw [h.by0 rfl]
    exact Maps.len_nil Yba.underlying24 ty
  | some b =>
    have := (h.by1 b rfl).own.len Yba.underlying24 ty
    rw [(h.by1 b rfl).size] at this
    exact this
end Go.Proofs.Ybulkdrpg
