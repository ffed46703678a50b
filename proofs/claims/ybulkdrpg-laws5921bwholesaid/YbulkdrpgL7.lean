import Derived.Test.YbulkdrpgL6
import Derived.Deep.CutBlock
namespace Go.Proofs.Ybulkdrpg
open Go.RowKit Go.Maps Go.WideMaps Go.WideElems
variable {w w' : World} {C : Nat} {es : List (Nat × Value)}

theorem Ls.setM {m m' : Value} (h : Ls w C m es) : Ls (w.setCell ⟨C, 0, none⟩ m') C m' es := by
  refine ⟨?_, fun j hj => (h.elem j hj).other (nodup_neC h.nodup hj) _ _, h.nodup, h.room, h.val⟩
  rcases h.head with k | ⟨k0, k⟩
  · exact Or.inl (k.set 0 m')
  · exact Or.inr ⟨k0, k.set 0 m'⟩
theorem Ls.later {m : Value} (h : Ls w C m es) (hb : Below w.heap.size w w') : Ls w' C m es := h.same (fun b hi => hb.block b (h.lt b hi))
theorem Ls.cell0 {m : Value} (h : Ls w C m es) : w.cell? ⟨C, 0, none⟩ = some m ∧ w.frozen? ⟨C, 0, none⟩ = false := by
  rcases h.head with k | ⟨_, k⟩ <;> exact ⟨by simpa using k.cell 0, k.free 0⟩
theorem own_later {H : Type} {P : Program} {k : TypeId} {R : Value → Option (DataW H × List MemPlace)} {b n : Nat} {D : DataW H} (h : w.ownsMap P k R b n D) (hb : Below w.heap.size w w') : w'.ownsMap P k R b n D :=
  own_same h (hb.block b h.lt)
theorem Bk.later {b : Nat} {cs : Array Value} {t : TypeId} (h : Bk w b cs t) (hb : Below w.heap.size w w') : Bk w' b cs t := (hb.block b h.lt).trans h

def cl0 (c s : Int) (L : Nat) : Array Value := #[.int .u64 c, .int .u64 0, .int .i64 0, np, .map (some L), .int .u64 s, np]

theorem mk24 (w : World) : (Instr.makeMap 24 none).run Yba.prog w = .ok (.map (some w.heap.size)) (w.alloc (.map #[] 0)) := by
  simp [Instr.makeMap, newObj, go_sem]
  rfl
theorem mk76 (w : World) : (Instr.makeMap 76 none).run Yba.prog w = .ok (.map (some w.heap.size)) (w.alloc (.map #[] 0)) := by
  simp [Instr.makeMap, newObj, go_sem]
  rfl

theorem eq24 (w : World) (x : Option Nat) : (binOp .eql 24 (.map x) (.map none)).run Yba.prog w = .ok (.bool x.isNone) w := by
  cases x
  · kernel_rfl
  · kernel_rfl

set_option maxRecDepth 100000 in
/-- add, where the client is not known, byID made already: raw. -/
theorem add_new_raw (b n : Nat) (DM : DataW Nat) (c s : Int) (name : ByteArray) (hLs : Ls w C (.map (some b)) es) (hr : es.length + 1 < 1000000000000) (hB : OB w b n DM) (hbC : b ≠ C) (hbE : ¬ inL C es b) (hw : (Lit.int .u64 c).wf = true)
    (ha : DM.atKey (kI c) .nil = .nil) (hn : n < maxLen) (hk : name.size ≤ maxLen) :
    Calls Yba.prog 7 #[.pointer (some ⟨C, 0, none⟩), .int .u64 c, .string name, .int .u64 s] w fun e w' => e = .returned (.tuple #[]) ∧
      Ls w' C (.map (some b)) (es ++ [(w.heap.size + 2, .iface 72 (pt (w.heap.size + 1)))]) ∧ OB w' b (n + 1) (DM.put (kI c) (.held (w.heap.size + 1))) ∧
      Bk w' (w.heap.size + 1) #[.int .u64 c, .int .u64 0, .int .i64 0, np, .map (some w.heap.size), .int .u64 s, pt (w.heap.size + 2)] 78 ∧ OL w' w.heap.size 1 ((DataW.map []).put (kS name) (.agg [])) ∧
      Only (fun k => inL C es k ∨ k = b) w w' ∧ w.heap.size + 3 ≤ w'.heap.size := by
  have hlk := look_unknown hB hw ha
  have q0 := hLs.cell0.1
  have hm := mk76
  have hme := fun w => eq24 w (some b)
  go_enter Yba.func7, Yba.ntmps7
  go_upto_region 5 with fail
  have hnew : Below w.heap.size w ((w.alloc (.map #[] 0)).alloc (.cells (cl0 c s w.heap.size) 78)) := by go_grown
  have hS0 : ((w.alloc (.map #[] 0)).alloc (.cells (cl0 c s w.heap.size) 78)).heap.size = w.heap.size + 2 := by simp
  have hL0 : OL ((w.alloc (.map #[] 0)).alloc (.cells (cl0 c s w.heap.size) 78)) w.heap.size 0 (.map []) := (World.ownsMap_made w Yba.prog 9 unitElem).alloc _
  have hR0 : Bk ((w.alloc (.map #[] 0)).alloc (.cells (cl0 c s w.heap.size) 78)) (w.heap.size + 1) (cl0 c s w.heap.size) 78 := by
    have := Bk.new (w.alloc (.map #[] 0)) (cl0 c s w.heap.size) 78
    rwa [World.size_alloc] at this
  have hLs0 := hLs.later hnew
  have hB0 := own_later hB hnew
  have hlt := hLs.lt
  have hblt := own_lt hB
  clear q0 hlk hm hme
  rw [show (#[Value.int .u64 c, .int .u64 0, .int .i64 0, .pointer none, .map (some w.heap.size), .int .u64 s, .pointer none] : Array Value) = cl0 c s w.heap.size from rfl]
  generalize (w.alloc (.map #[] 0)).alloc (.cells (cl0 c s w.heap.size) 78) = wx at *
  go_upto_region 6 with (go_at_call 16; refine (push_any (.iface 72 (pt (w.heap.size + 1))) ⟨_, _, rfl⟩ hLs0 hr).mono ?_; rintro e w1 ⟨rfl, hS1, hO1, hLs1⟩; have hR1 : Bk w1 (w.heap.size + 1) (cl0 c s w.heap.size) 78 := (hO1.block _ (by omega) (fun i => by have := hlt _ i; omega)).trans hR0; have r6 := hR1.cell 6; have f6 := hR1.free 6; have r6' : w1.cell? ⟨w.heap.size + 1, 6, none⟩ = some np := r6; clear r6)
  rw [hS0] at hLs1 hS1
  have inlt : ∀ k, inL C (es ++ [(w.heap.size + 2, .iface 72 (pt (w.heap.size + 1)))]) k → k < w.heap.size ∨ k = w.heap.size + 2 := fun k hk => by
    rcases hk with rfl | hk
    · exact Or.inl (hlt _ (Or.inl rfl))
    · rw [List.map_append, List.mem_append] at hk
      rcases hk with hk | hk
      · exact Or.inl (hlt _ (Or.inr hk))
      · simp at hk; exact Or.inr hk
  have e2 : ∀ k, k ≠ w.heap.size + 1 → (w1.setCell ⟨w.heap.size + 1, 6, none⟩ (pt (w.heap.size + 2))).heap[k]? = w1.heap[k]? := fun k hk => Below.heap_setCell _ _ _ _ hk
  have hLs2 := hLs1.same (w' := w1.setCell ⟨w.heap.size + 1, 6, none⟩ (pt (w.heap.size + 2))) (fun k hk => e2 k (by have := inlt k hk; omega))
  have hB2 : OB (w1.setCell ⟨w.heap.size + 1, 6, none⟩ (pt (w.heap.size + 2))) b n DM := own_same hB0 ((e2 b (by omega)).trans (hO1.block b (by omega) hbE))
  have hL2 : OL (w1.setCell ⟨w.heap.size + 1, 6, none⟩ (pt (w.heap.size + 2))) w.heap.size 0 (.map []) := own_same hL0 ((e2 _ (by omega)).trans (hO1.block _ (by omega) (fun i => by have := hlt _ i; omega)))
  have hR2 : Bk (w1.setCell ⟨w.heap.size + 1, 6, none⟩ (pt (w.heap.size + 2))) (w.heap.size + 1) #[.int .u64 c, .int .u64 0, .int .i64 0, np, .map (some w.heap.size), .int .u64 s, pt (w.heap.size + 2)] 78 := hR1.set 6 _
  have hO2 : Only (fun k => inL C es k ∨ k = b) w (w1.setCell ⟨w.heap.size + 1, 6, none⟩ (pt (w.heap.size + 2))) :=
    (((⟨hnew.os, hnew.tape, hnew.output, hnew.size, fun k hk _ => hnew.block k hk⟩ : Only (fun k => inL C es k ∨ k = b) w wx)).trans (hO1.mono (fun _ _ => Or.inl))).set (Or.inr (by omega)) _ _
  have hS2 : (w1.setCell ⟨w.heap.size + 1, 6, none⟩ (pt (w.heap.size + 2))).heap.size = w.heap.size + 3 := by simp [World.setCell]; omega
  clear hR1 hO1 hLs1 hS1 hLs0 hB0 hL0 hR0 hS0 hnew e2 f6 r6'
  generalize w1.setCell ⟨w.heap.size + 1, 6, none⟩ (pt (w.heap.size + 2)) = w2 at *
  have q0 := hLs2.cell0.1
  go_upto_region 7 with ((with_reducible refine wpList_putB (.tmp 43) (.tmp 44) (.tmp 45) b n DM c (w.heap.size + 1) ?_ ?_ ?_ hB2 hn hw ?_); simp [Act.eval]; simp [Act.eval]; simp [Act.eval]; intro w3 hB3 hg3)
  have e3 : ∀ k, k < w2.heap.size → k ≠ b → w3.heap[k]? = w2.heap[k]? := fun k hk hne => hg3.block k hk (fun e => hne (by cases e; rfl))
  have hR3 : Bk w3 _ _ 78 := (e3 _ (by omega) (by omega)).trans hR2
  have hL3 := own_same hL2 (e3 _ (by omega) (by omega))
  have hbI : ∀ k, inL C (es ++ [(w.heap.size + 2, .iface 72 (pt (w.heap.size + 1)))]) k → k ≠ b := fun k hk e => by
    subst e
    rcases hk with hk | hk
    · exact hbC hk
    · rw [List.map_append, List.mem_append] at hk
      rcases hk with hk | hk
      · exact hbE (Or.inr hk)
      · simp at hk; omega
  have hLs3 := hLs2.same (w' := w3) (fun k hk => e3 k (by have := inlt k hk; omega) (hbI k hk))
  have r4 : w3.cell? ⟨w.heap.size + 1, 4, none⟩ = some (.map (some w.heap.size)) := hR3.cell 4
  go_wp2_with ((with_reducible refine wpList_putL (.tmp 49) (.tmp 50) (.tmp 51) w.heap.size 0 (.map []) name ?_ ?_ ?_ hL3 (by decide) hk ?_); simp [Act.eval]; simp [Act.eval]; simp [Act.eval]; intro w4 hL4 hg4)
  have hs3 := hg3.size
  have hs4 := hg4.size
  have e4 : ∀ k, k < w3.heap.size → k ≠ w.heap.size → w4.heap[k]? = w3.heap[k]? := fun k hk hne => hg4.block k hk (fun e => hne (by cases e; rfl))
  go_end0
  refine ⟨rfl, hLs3.same (fun k hk => e4 k (by have := inlt k hk; omega) (by have := inlt k hk; omega)), own_same hB3 (e4 b (by omega) (by omega)), (e4 _ (by omega) (by omega)).trans hR3, hL4, ?_, by omega⟩
  have hO3 := hO2.trans (only_grown hg3 (Or.inr rfl))
  exact ⟨hg4.os.trans hO3.os, hg4.tape.trans hO3.tape, hg4.output.trans hO3.output, Nat.le_trans hO3.size hg4.size, fun k hk a => (e4 k (Nat.lt_of_lt_of_le hk hO3.size) (by omega)).trans (hO3.block k hk a)⟩
end Go.Proofs.Ybulkdrpg
