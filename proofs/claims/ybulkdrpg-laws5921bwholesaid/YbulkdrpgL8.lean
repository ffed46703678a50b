import Derived.Test.YbulkdrpgL7
namespace Go.Proofs.Ybulkdrpg
open Go.RowKit Go.Maps Go.WideMaps Go.WideElems
variable {w w' : World} {C : Nat} {es : List (Nat × Value)}

set_option maxRecDepth 100000 in
/-- add, where byID is still nil: raw. -/
theorem add_first_raw (c s : Int) (name : ByteArray) (hLs : Ls w C (.map none) es) (hr : es.length + 1 < 1000000000000) (hw : (Lit.int .u64 c).wf = true) (hk : name.size ≤ maxLen) :
    Calls Yba.prog 7 #[.pointer (some ⟨C, 0, none⟩), .int .u64 c, .string name, .int .u64 s] w fun e w' => e = .returned (.tuple #[]) ∧
      Ls w' C (.map (some w.heap.size)) (es ++ [(w.heap.size + 3, .iface 72 (pt (w.heap.size + 2)))]) ∧ OB w' w.heap.size 1 ((DataW.map []).put (kI c) (.held (w.heap.size + 2))) ∧
      Bk w' (w.heap.size + 2) #[.int .u64 c, .int .u64 0, .int .i64 0, np, .map (some (w.heap.size + 1)), .int .u64 s, pt (w.heap.size + 3)] 78 ∧ OL w' (w.heap.size + 1) 1 ((DataW.map []).put (kS name) (.agg [])) ∧
      Only (inL C es) w w' ∧ w.heap.size + 4 ≤ w'.heap.size := by
  have hlk := look_nil (w := w) hw
  have q0 := hLs.cell0.1
  have f0 := hLs.cell0.2
  have hm1 := mk24
  have hme := fun w => eq24 w none
  have hCl := hLs.lt C (Or.inl rfl)
  go_enter Yba.func7, Yba.ntmps7
  go_upto_region 4 with fail
  have hLsz : Ls ((w.setCell ⟨C, 0, none⟩ (.map (some w.heap.size))).alloc (.map #[] 0)) C (.map (some w.heap.size)) es := hLs.setM.later (by go_grown)
  have hB : OB ((w.setCell ⟨C, 0, none⟩ (.map (some w.heap.size))).alloc (.map #[] 0)) w.heap.size 0 (.map []) := by
    have := World.ownsMap_made (w.setCell ⟨C, 0, none⟩ (.map (some w.heap.size))) Yba.prog 23 ptrElem
    rwa [show (w.setCell ⟨C, 0, none⟩ (.map (some w.heap.size))).heap.size = w.heap.size by simp [World.setCell]] at this
  have hOz : Only (inL C es) w ((w.setCell ⟨C, 0, none⟩ (.map (some w.heap.size))).alloc (.map #[] 0)) := ((Only.refl (inL C es) w).set (Or.inl (Or.inl rfl)) _ _).alloc _
  have hSz : ((w.setCell ⟨C, 0, none⟩ (.map (some w.heap.size))).alloc (.map #[] 0)).heap.size = w.heap.size + 1 := by simp [World.setCell]
  have hbC : w.heap.size ≠ C := by omega
  have hbE : ¬ inL C es w.heap.size := fun i => by have := hLs.lt _ i; omega
  clear q0 f0 hlk hm1 hme hLs hCl
  generalize (w.setCell ⟨C, 0, none⟩ (.map (some w.heap.size))).alloc (.map #[] 0) = wz at *
  have hLs := hLsz
  clear hLsz
  have HSz : Hid _ := hSz
  have hbz : w.heap.size < wz.heap.size := by omega
  clear hSz
  generalize hbd : w.heap.size = b at *
  have HBD : Hid _ := hbd
  clear hbd
  have hm := mk76
  go_upto_region 5 with fail
  have hnew : Below wz.heap.size wz ((wz.alloc (.map #[] 0)).alloc (.cells (cl0 c s wz.heap.size) 78)) := by go_grown
  have hS0 : ((wz.alloc (.map #[] 0)).alloc (.cells (cl0 c s wz.heap.size) 78)).heap.size = wz.heap.size + 2 := by simp
  have hL0 : OL ((wz.alloc (.map #[] 0)).alloc (.cells (cl0 c s wz.heap.size) 78)) wz.heap.size 0 (.map []) := (World.ownsMap_made wz Yba.prog 9 unitElem).alloc _
  have hR0 : Bk ((wz.alloc (.map #[] 0)).alloc (.cells (cl0 c s wz.heap.size) 78)) (wz.heap.size + 1) (cl0 c s wz.heap.size) 78 := by
    have := Bk.new (wz.alloc (.map #[] 0)) (cl0 c s wz.heap.size) 78
    rwa [World.size_alloc] at this
  have hLs0 := hLs.later hnew
  have hB0 := own_later hB hnew
  have hlt := hLs.lt
  have hblt := own_lt hB
  clear hm
  rw [show (#[Value.int .u64 c, .int .u64 0, .int .i64 0, .pointer none, .map (some wz.heap.size), .int .u64 s, .pointer none] : Array Value) = cl0 c s wz.heap.size from rfl]
  generalize (wz.alloc (.map #[] 0)).alloc (.cells (cl0 c s wz.heap.size) 78) = wx at *
  go_upto_region 6 with (go_at_call 16; refine (push_any (.iface 72 (pt (wz.heap.size + 1))) ⟨_, _, rfl⟩ hLs0 hr).mono ?_; rintro e w1 ⟨rfl, hS1, hO1, hLs1⟩; have hR1 : Bk w1 (wz.heap.size + 1) (cl0 c s wz.heap.size) 78 := (hO1.block _ (by omega) (fun i => by have := hlt _ i; omega)).trans hR0; have r6 := hR1.cell 6; have f6 := hR1.free 6; have r6' : w1.cell? ⟨wz.heap.size + 1, 6, none⟩ = some np := r6; clear r6)
  rw [hS0] at hLs1 hS1
  have inlt : ∀ k, inL C (es ++ [(wz.heap.size + 2, .iface 72 (pt (wz.heap.size + 1)))]) k → k < wz.heap.size ∨ k = wz.heap.size + 2 := fun k hk => by
    rcases hk with rfl | hk
    · exact Or.inl (hlt _ (Or.inl rfl))
    · rw [List.map_append, List.mem_append] at hk
      rcases hk with hk | hk
      · exact Or.inl (hlt _ (Or.inr hk))
      · simp at hk; exact Or.inr hk
  have e2 : ∀ k, k ≠ wz.heap.size + 1 → (w1.setCell ⟨wz.heap.size + 1, 6, none⟩ (pt (wz.heap.size + 2))).heap[k]? = w1.heap[k]? := fun k hk => Below.heap_setCell _ _ _ _ hk
  have hLs2 := hLs1.same (w' := w1.setCell ⟨wz.heap.size + 1, 6, none⟩ (pt (wz.heap.size + 2))) (fun k hk => e2 k (by have := inlt k hk; omega))
  have hB2 : OB (w1.setCell ⟨wz.heap.size + 1, 6, none⟩ (pt (wz.heap.size + 2))) b 0 (DataW.map []) := own_same hB0 ((e2 b (by omega)).trans (hO1.block b (by omega) hbE))
  have hL2 : OL (w1.setCell ⟨wz.heap.size + 1, 6, none⟩ (pt (wz.heap.size + 2))) wz.heap.size 0 (.map []) := own_same hL0 ((e2 _ (by omega)).trans (hO1.block _ (by omega) (fun i => by have := hlt _ i; omega)))
  have hR2 : Bk (w1.setCell ⟨wz.heap.size + 1, 6, none⟩ (pt (wz.heap.size + 2))) (wz.heap.size + 1) #[.int .u64 c, .int .u64 0, .int .i64 0, np, .map (some wz.heap.size), .int .u64 s, pt (wz.heap.size + 2)] 78 := hR1.set 6 _
  have hO2 : Only (fun k => inL C es k ∨ k = b) wz (w1.setCell ⟨wz.heap.size + 1, 6, none⟩ (pt (wz.heap.size + 2))) :=
    (((⟨hnew.os, hnew.tape, hnew.output, hnew.size, fun k hk _ => hnew.block k hk⟩ : Only (fun k => inL C es k ∨ k = b) wz wx)).trans (hO1.mono (fun _ _ => Or.inl))).set (Or.inr (by omega)) _ _
  have hS2 : (w1.setCell ⟨wz.heap.size + 1, 6, none⟩ (pt (wz.heap.size + 2))).heap.size = wz.heap.size + 3 := by simp [World.setCell]; omega
  clear hR1 hO1 hLs1 hS1 hLs0 hB0 hL0 hR0 hS0 hnew e2 f6 r6'
  generalize w1.setCell ⟨wz.heap.size + 1, 6, none⟩ (pt (wz.heap.size + 2)) = w2 at *
  have q0 := hLs2.cell0.1
  go_upto_region 7 with ((with_reducible refine wpList_putB (.tmp 43) (.tmp 44) (.tmp 45) b 0 (DataW.map []) c (wz.heap.size + 1) ?_ ?_ ?_ hB2 (by decide) hw ?_); simp [Act.eval]; simp [Act.eval]; simp [Act.eval]; intro w3 hB3 hg3)
  have e3 : ∀ k, k < w2.heap.size → k ≠ b → w3.heap[k]? = w2.heap[k]? := fun k hk hne => hg3.block k hk (fun e => hne (by cases e; rfl))
  have hR3 : Bk w3 _ _ 78 := (e3 _ (by omega) (by omega)).trans hR2
  have hL3 := own_same hL2 (e3 _ (by omega) (by omega))
  have hbI : ∀ k, inL C (es ++ [(wz.heap.size + 2, .iface 72 (pt (wz.heap.size + 1)))]) k → k ≠ b := fun k hk e => by
    subst e
    rcases hk with hk | hk
    · exact hbC hk
    · rw [List.map_append, List.mem_append] at hk
      rcases hk with hk | hk
      · exact hbE (Or.inr hk)
      · simp at hk; omega
  have hLs3 := hLs2.same (w' := w3) (fun k hk => e3 k (by have := inlt k hk; omega) (hbI k hk))
  have r4 : w3.cell? ⟨wz.heap.size + 1, 4, none⟩ = some (.map (some wz.heap.size)) := hR3.cell 4
  go_wp2_with ((with_reducible refine wpList_putL (.tmp 49) (.tmp 50) (.tmp 51) wz.heap.size 0 (.map []) name ?_ ?_ ?_ hL3 (by decide) hk ?_); simp [Act.eval]; simp [Act.eval]; simp [Act.eval]; intro w4 hL4 hg4)
  have hs3 := hg3.size
  have hs4 := hg4.size
  have e4 : ∀ k, k < w3.heap.size → k ≠ wz.heap.size → w4.heap[k]? = w3.heap[k]? := fun k hk hne => hg4.block k hk (fun e => hne (by cases e; rfl))
  go_end0
  have hO3 := hO2.trans (only_grown hg3 (Or.inr rfl))
  have o4 : Only (fun k => inL C es k ∨ k = b) wz w4 := ⟨hg4.os.trans hO3.os, hg4.tape.trans hO3.tape, hg4.output.trans hO3.output, Nat.le_trans hO3.size hg4.size, fun k hk a => (e4 k (Nat.lt_of_lt_of_le hk hO3.size) (by omega)).trans (hO3.block k hk a)⟩
  have ez : wz.heap.size = b + 1 := HSz.out
  have f1 := hLs3.same (fun k hk => e4 k (by have := inlt k hk; omega) (by have := inlt k hk; omega))
  have f2 := own_same hB3 (e4 b (by omega) (by omega))
  have f3 : Bk w4 _ _ 78 := (e4 _ (by omega) (by omega)).trans hR3
  rw [ez] at f1 f2 f3 hL4
  have eb : w.heap.size = b := HBD.out
  rw [eb]
  refine ⟨rfl, f1, f2, f3, hL4, ?_, by omega⟩
  exact ⟨o4.os.trans hOz.os, o4.tape.trans hOz.tape, o4.output.trans hOz.output, Nat.le_trans hOz.size o4.size, fun k hk a => (o4.block k (Nat.lt_of_lt_of_le hk hOz.size) (fun x => x.elim a (fun e => by omega))).trans (hOz.block k hk a)⟩
end Go.Proofs.Ybulkdrpg
