import Derived.Test.YbulkdrpgP1
import Derived.Deep.RegionHeld3
import Derived.BigQuiet
namespace Go.Proofs.Ybulkdrpg
open Go.RowKit Go.Maps Go.WideMaps Go.WideElems
variable {w w' : World} {C L : Nat} {mb : Option Nat} {DM : DataW Nat} {rs : List Rc} {v : Value} {ns : List Value}

/-- What an iteration of 'same' reads. -/
structure Vw (w : World) (C b g i E R Lb : Nat) (id since : Int) (ua : Option Addr) (m uc : Nat) : Prop where
  c0 : w.cell? ⟨C, 0, none⟩ = some (.map (some b))
  e3 : w.cell? ⟨E, 3, none⟩ = some (.iface 72 (pt R))
  r0 : w.cell? ⟨R, 0, none⟩ = some (.int .u64 id)
  r1 : w.cell? ⟨R, 1, none⟩ = some (.int .u64 0)
  r2 : w.cell? ⟨R, 2, none⟩ = some (.int .i64 0)
  r3 : w.cell? ⟨R, 3, none⟩ = some np
  r4 : w.cell? ⟨R, 4, none⟩ = some (.map (some Lb))
  r5 : w.cell? ⟨R, 5, none⟩ = some (.int .u64 since)
  r6 : w.cell? ⟨R, 6, none⟩ = some (pt E)
  m0 : w.cell? ⟨g, i * 3, none⟩ = some (.int .u64 id)
  m1 : w.cell? ⟨g, i * 3 + 1, none⟩ = some (.int .u64 since)
  m2 : w.cell? ⟨g, i * 3 + 2, none⟩ = some (.slice ua m uc)
  lk : (Instr.lookup 24 (.map (some b)) (.int .u64 id) false).run Yba.prog w = .ok (pt R) w

theorem vw_of (hC : Cs w C mb DM rs) (hM : Mo w L v ns (rs.map say)) {i : Nat} (hi : i < rs.length) :
    ∃ b g cap ua uc, v = .slice (some ⟨g, 0, none⟩) rs.length cap ∧ ns[i]? = some (.slice ua rs[i].names.length uc) ∧ Vw w C b g i rs[i].E rs[i].R rs[i].L rs[i].id rs[i].since ua rs[i].names.length uc := by
  have hA : (rs.map say).length = rs.length := by simp
  obtain ⟨a, g, cap, hv, hg⟩ := hM.cells
  obtain ⟨rfl, _, _, hr, _⟩ := hg (by omega)
  obtain ⟨b, hb⟩ := hC.some_b hi
  have hB := hC.by1 b hb
  have hrf := hC.rf i hi
  have he := hC.ls.elem i (by rw [els_len]; exact hi)
  rw [els_at hi] at he
  have hiA : i < (rs.map say).length := by omega
  have hns : i < ns.length := by rw [hM.len]; exact hiA
  have hAi : (rs.map say)[i] = say rs[i] := by simp
  have hnam := hM.nam i hiA
  rw [hAi] at hnam
  obtain ⟨ua, uc, hu⟩ := hnam.form
  obtain ⟨f0, f1, f2⟩ := flatM_at (rs.map say) ns hM.len i hiA
  rw [hAi] at f0 f1
  have q0 := hr _ _ f0
  have q1 := hr _ _ f1
  have q2 := hr _ _ f2
  rw [hu] at q2
  simp only [Nat.zero_add] at q0 q1 q2
  rw [hA] at hv
  have hcC := hC.cellC
  rw [hb] at hcC
  have hbk := hrf.blk
  have hat := hB.at_ rs[i] (List.getElem_mem hi)
  refine ⟨b, g, cap, ua, uc, hv, by rw [List.getElem?_eq_getElem hns, hu]; rfl, hcC, ?_, ?_, ?_, ?_, ?_, ?_, ?_, ?_, q0, q1, q2, look_known hB.own hrf.wf hat.1⟩
  · simpa using he.cell 3
  all_goals (rw [hbk.cell]; rfl)

theorem Vw.later {b g i E R Lb : Nat} {id since : Int} {ua : Option Addr} {m uc : Nat} (h : Vw w C b g i E R Lb id since ua m uc) (hk : ∀ k, k < w.heap.size → w'.heap[k]? = w.heap[k]?)
    (hl : (Instr.lookup 24 (.map (some b)) (.int .u64 id) false).run Yba.prog w' = .ok (pt R) w') : Vw w' C b g i E R Lb id since ua m uc := by
  have hc : ∀ {a : Addr} {x : Value}, w.cell? a = some x → w'.cell? a = some x := fun {a x} ha => by
    have := block_lt_of_cell ha
    rw [← ha]
    exact World.cell?_of_block (hk _ this)
  exact ⟨hc h.c0, hc h.e3, hc h.r0, hc h.r1, hc h.r2, hc h.r3, hc h.r4, hc h.r5, hc h.r6, hc h.m0, hc h.m1, hc h.m2, hl⟩

theorem only_blk (h : Only (fun _ => False) w w') : ∀ k, k < w.heap.size → w'.heap[k]? = w.heap[k]? := fun k hk => h.block k hk (fun e => e)
theorem Cs.later (h : Cs w C mb DM rs) (ho : Only (fun _ => False) w w') : Cs w' C mb DM rs := h.same (fun k hk => only_blk ho k (h.lt k hk))
theorem Mo.later {A : List Say} (h : Mo w L v ns A) (ho : Only (fun _ => False) w w') : Mo w' L v ns A := h.same ho.size (fun k hk => only_blk ho k (h.lt hk).1)
end Go.Proofs.Ybulkdrpg
