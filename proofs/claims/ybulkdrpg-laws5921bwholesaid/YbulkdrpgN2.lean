import Derived.Test.YbulkdrpgN1
import Derived.Deep.RegionLaw
import Derived.Maps.RangeWalk
namespace Go.Proofs.Ybulkdrpg
open Go.RowKit

theorem zero84 (w : World) : (zeroValue 84).run Yba.prog w = .ok (.agg #[.int .u64 0, .int .u64 0, .slice none 0 0]) w := by kernel_rfl
def zrec : List Value := [.int .u64 0, .int .u64 0, .slice none 0 0]

theorem run_clear_rec (w : World) (ty : TypeId) (b o c : Nat) (ht : w.there b o 3) :
    (Builtin.clear_ #[33] ty #[.slice (some ⟨b, o, none⟩) 1 c]).run Yba.prog w = .ok (.tuple #[]) (w.setCells b o zrec) := by
  have hst := run_storeCells_cells (P := Yba.prog) b o zrec 0 w (by simpa [zrec] using fun j hj => (ht j hj).1) (by simpa [zrec] using fun j hj => (ht j hj).2) (by intro v hv; simp [zrec] at hv; rcases hv with rfl | rfl <;> rfl)
  simp only [Nat.add_zero] at hst
  have hz : (Builtin.zeroCells (Value.agg #[.int .u64 0, .int .u64 0, .slice none 0 0]).cells 1).toList = zrec := by kernel_rfl
  have hze := zero84 w
  simp [Builtin.clear_, run_underlying Yba.underlying33, hze, hz, hst]

theorem Yba.info84 : ∃ i, Yba.prog.info? 84 = some i ∧ i.size = 3 := by
  have h : (Yba.prog.info? 84).map (·.size) = some 3 := by kernel_rfl
  obtain ⟨i, hi, e⟩ := Option.map_eq_some_iff.1 h
  exact ⟨i, hi, e⟩

set_option maxRecDepth 100000 in
theorem del_rec (g k cap i : Nat) (cs : List Value) (w : World) (hk : k ≤ cap) (hi : i < k) (hcs : cs.length = k * 3) (hr : w.rangeAt g 0 cs) (ht : w.there g 0 (cap * 3)) (h1 : ∀ v ∈ cs, v.oneCell' = true) :
    Calls Yba.prog 15 #[.slice (some ⟨g, 0, none⟩) k cap, .int .i64 (i : Int), .int .i64 ((i : Int) + 1)] w fun e w' => e = .returned (.slice (some ⟨g, 0, none⟩) (k - 1) cap) ∧
      w'.rangeAt g 0 (cs.take (i * 3) ++ cs.drop ((i + 1) * 3)) ∧ w'.there g 0 (cap * 3) ∧ Only (· = g) w w' ∧ w'.heap.size = w.heap.size := by
  have i0 : (0 : Int) ≤ (i : Int) := by omega
  have i1 : (i : Int) ≤ (i : Int) + 1 := by omega
  have i2 : (i : Int) + 1 ≤ (k : Int) := by omega
  have i3 : (k : Int) ≤ (cap : Int) := by omega
  have i4 : ((i : Int) == (i : Int) + 1) = false := by simp; omega
  have i5 : (i : Int) ≤ (cap : Int) := by omega
  have i6 : (0 : Int) ≤ (i : Int) + 1 := by omega
  have HR : Hid _ := hr
  have HT : Hid _ := ht
  have H1 : Hid _ := h1
  clear hr ht h1
  go_enter Yba.func15, Yba.ntmps15
  go_wp2_with fail
  obtain ⟨A, hA, hnews⟩ : ∃ A : Addr, (if cap = i + 1 then some (⟨g, 0, none⟩ : Addr) else some ⟨g, (i + 1) * 3, none⟩) = some A ∧ ∀ j u, (cs.drop ((i + 1) * 3))[j]? = some u → w.drew.cell? (A.add j) = some u := by
    by_cases e : cap = i + 1
    · refine ⟨⟨g, 0, none⟩, by rw [if_pos e], fun j u hu => ?_⟩
      rw [List.drop_eq_nil_of_le (by omega)] at hu
      simp at hu
    · refine ⟨⟨g, (i + 1) * 3, none⟩, by rw [if_neg e], fun j u hu => ?_⟩
      rw [List.getElem?_drop] at hu
      rw [Addr.add_mid]
      have := HR.out _ _ hu
      rw [Nat.zero_add] at this
      exact this
  obtain ⟨it, hi84, hsz84⟩ := Yba.info84
  have s1 : Hid ((cs.drop ((i + 1) * 3)).length = (k - (i + 1)) * 3) := by (show _ = _); simp; omega
  have s2 : Hid (∀ u ∈ cs.drop ((i + 1) * 3), u.oneCell' = true) := fun u hu => H1.out u (List.mem_of_mem_drop hu)
  have s3 : Hid (∀ j, j < (cs.drop ((i + 1) * 3)).length → (w.drew.cell? ⟨g, 0 + i * 3 + j, none⟩).isSome = true ∧ w.drew.frozen? ⟨g, 0 + i * 3 + j, none⟩ = false) := fun j hj => by
    have := HT.out (i * 3 + j) (by simp at hj; omega)
    rw [← Nat.add_assoc] at this
    exact this
  have HN : Hid _ := hnews
  clear hnews
  go_region_law (refine step_append_room rfl (.tmp 22) (.tmp 25) 33 rfl 84 it 3 Yba.underlying33 hi84 hsz84 g 0 i cap (by simp [Act.eval, Act.put]) A (k - (i + 1)) (cap - (i + 1)) (cs.drop ((i + 1) * 3)) (by simp [Act.eval, Act.put]) s1.out HN.out s2.out (by omega) s3.out ?_)
  have j1 : i + (k - (i + 1)) = k - 1 := by omega
  have j2 : (0 : Int) ≤ ((k - 1 : Nat) : Int) := by omega
  have j3 : ((k - 1 : Nat) : Int) ≤ (k : Int) := by omega
  rw [j1]
  have t1 : (w.drew.setCells g (i * 3) (cs.drop ((i + 1) * 3))).there g 0 (cap * 3) := World.there_setCells (there_block (w := w) (w' := w.drew) HT.out rfl) _ _ _
  have r1 : (w.drew.setCells g (i * 3) (cs.drop ((i + 1) * 3))).rangeAt g 0 (cs.take (i * 3) ++ cs.drop ((i + 1) * 3)) := by
    intro j u hu
    by_cases e : j < i * 3
    · rw [List.getElem?_append_left (by simp; omega), List.getElem?_take_of_lt e] at hu
      rw [World.cell?_setCells_out _ _ _ _ _ (fun _ _ => by left; simp; omega)]
      exact HR.out j u hu
    · have hl : (cs.take (i * 3)).length = i * 3 := by simp; omega
      rw [List.getElem?_append_right (by omega), hl] at hu
      have := World.rangeAt_setCells_same w.drew g (i * 3) _ (fun j hj => by have := s3.out j hj; rwa [Nat.zero_add] at this) (j - i * 3) u hu
      rw [show i * 3 + (j - i * 3) = 0 + j by omega] at this
      exact this
  have o1 : Only (· = g) w (w.drew.setCells g (i * 3) (cs.drop ((i + 1) * 3))) := by
    have h := os_setCells g (cs.drop ((i + 1) * 3)) (i * 3) w.drew
    exact ⟨h.1, h.2.1, h.2.2, by rw [size_setCells]; exact Nat.le_refl _, fun k _ a => block_setCells g k a _ _ _⟩
  have z1 : (w.drew.setCells g (i * 3) (cs.drop ((i + 1) * 3))).heap.size = w.heap.size := size_setCells _ _ _ _
  clear s1 s2 s3 HN hA
  generalize w.drew.setCells g (i * 3) (cs.drop ((i + 1) * 3)) = w1 at *
  have j4 : k - (k - 1) = 1 := by omega
  have tl : w1.there g ((k - 1) * 3) 3 := fun j hj => by have := t1 ((k - 1) * 3 + j) (by omega); rw [Nat.zero_add] at this; exact this
  have hcl := run_clear_rec w1 0 g ((k - 1) * 3) (cap - (k - 1)) tl
  go_frame
  go_wp2_with fail
  go_ret
  refine ⟨rfl, ?_, World.there_setCells t1 _ _ _, ?_, by rw [size_setCells]; exact z1⟩
  · have hlen : (cs.take (i * 3) ++ cs.drop ((i + 1) * 3)).length = (k - 1) * 3 := by simp; omega
    exact World.rangeAt_setCells_apart r1 _ _ _ (Or.inr (Or.inl (by rw [hlen]; omega)))
  · have h := os_setCells g zrec ((k - 1) * 3) w1
    exact o1.trans ⟨h.1, h.2.1, h.2.2, by rw [size_setCells]; exact Nat.le_refl _, fun k _ a => block_setCells g k a _ _ _⟩
end Go.Proofs.Ybulkdrpg
