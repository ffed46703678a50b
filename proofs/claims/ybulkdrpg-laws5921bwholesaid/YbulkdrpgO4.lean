import Derived.Test.YbulkdrpgO3
namespace Go.Proofs.Ybulkdrpg
open Go.RowKit
variable {w w' w2 : World} {L : Nat} {v : Value} {ns : List Value} {A : List Say}

theorem mrm_unknown_raw (v : Value) (c : Int) (name : ByteArray) (w : World)
    (hf : Calls Yba.prog 12 #[v, .int .u64 c] w fun e w' => e = .returned (.int .i64 (-1)) ∧ w' = w) :
    Calls Yba.prog 6 #[v, .int .u64 c, .string name] w fun e w' => e = .returned v ∧ w' = w := by
  go_enter Yba.func6, Yba.ntmps6
  go_wp2_with (first
    | (go_at_call 12; refine hf.mono ?_; rintro e w1 ⟨rfl, hw⟩; obtain rfl := hw.symm))
  go_ret
  exact ⟨rfl, rfl⟩

theorem mrm_miss_raw (g n cap j m : Nat) (ua : Option Addr) (uc : Nat) (c : Int) (name : ByteArray) (w : World) (hj : j < n) (hm : 0 < m)
    (hf : Calls Yba.prog 12 #[.slice (some ⟨g, 0, none⟩) n cap, .int .u64 c] w fun e w' => e = .returned (.int .i64 (j : Int)) ∧ w' = w)
    (hix : Calls Yba.prog 13 #[.slice ua m uc, .string name] w fun e w' => e = .returned (.int .i64 (-1)) ∧ w' = w)
    (c2 : w.cell? ⟨g, j * 3 + 2, none⟩ = some (.slice ua m uc)) :
    Calls Yba.prog 6 #[.slice (some ⟨g, 0, none⟩) n cap, .int .u64 c, .string name] w fun e w' => e = .returned (.slice (some ⟨g, 0, none⟩) n cap) ∧ w' = w := by
  have j0 : (0 : Int) ≤ (j : Int) := by omega
  have j1 : (j : Int) < (n : Int) := by omega
  have j2 : decide ((j : Int) < 0) = false := by simp
  have m0 : ((m : Int) == 0) = false := by simp; omega
  go_enter Yba.func6, Yba.ntmps6
  go_wp2_with (first
    | (go_at_call 12; refine hf.mono ?_; rintro e w1 ⟨rfl, hw⟩; obtain rfl := hw.symm)
    | (go_at_call 13; refine hix.mono ?_; rintro e w1 ⟨rfl, hw⟩; obtain rfl := hw.symm))
  go_ret
  exact ⟨rfl, rfl⟩

set_option maxRecDepth 100000 in
theorem mrm_keep_raw (g n cap j i : Nat) (l : List ByteArray) (ua : Option Addr) (uc : Nat) (c : Int) (name : ByteArray) (w : World) (hj : j < n) (hg : g < w.heap.size) (hi : i < l.length) (hlen : l.length ≤ 1000000)
    (hf : Calls Yba.prog 12 #[.slice (some ⟨g, 0, none⟩) n cap, .int .u64 c] w fun e w' => e = .returned (.int .i64 (j : Int)) ∧ w' = w)
    (hix : Calls Yba.prog 13 #[.slice ua l.length uc, .string name] w fun e w' => e = .returned (.int .i64 (i : Int)) ∧ w' = w)
    (c2 : w.cell? ⟨g, j * 3 + 2, none⟩ = some (.slice ua l.length uc)) (f2 : w.frozen? ⟨g, j * 3 + 2, none⟩ = false) (hS : Sl w L 1 (.slice ua l.length uc) l.length (strs l)) (hgj : (Value.slice ua l.length uc).ownBlock ≠ some g)
    (hm : 0 < (l.eraseIdx i).length) :
    Calls Yba.prog 6 #[.slice (some ⟨g, 0, none⟩) n cap, .int .u64 c, .string name] w fun e w' => e = .returned (.slice (some ⟨g, 0, none⟩) n cap) ∧ ∃ u w2, w' = w2.setCell ⟨g, j * 3 + 2, none⟩ u ∧
      Only (fun k => (Value.slice ua l.length uc).ownBlock = some k) w w2 ∧ Sl w2 L 1 u (l.eraseIdx i).length (strs (l.eraseIdx i)) ∧ u.ownBlock = (Value.slice ua l.length uc).ownBlock := by
  have hde := del_sl l _ i hS hi
  have j0 : (0 : Int) ≤ (j : Int) := by omega
  have j1 : (j : Int) < (n : Int) := by omega
  have j2 : decide ((j : Int) < 0) = false := by simp
  have j3 : decide ((i : Int) ≥ 0) = true := by simp
  have j4 : decide ((0 : Int) ≤ (i : Int)) = true := by simp
  have HG : Hid _ := hgj
  clear hS hgj
  generalize hm' : (l.eraseIdx i).length = m' at *
  have m0 : ((m' : Int) == 0) = false := by simp; omega
  go_enter Yba.func6, Yba.ntmps6
  go_wp2_with (first
    | (go_at_call 12; refine hf.mono ?_; rintro e w1 ⟨rfl, hw⟩; obtain rfl := hw.symm)
    | (go_at_call 13; refine hix.mono ?_; rintro e w1 ⟨rfl, hw⟩; obtain rfl := hw.symm)
    | (go_at_call 14; refine hde.mono ?_; rintro e w2 ⟨u, rfl, hS2, hO2, hB2⟩
       obtain ⟨ua2, uc2, rfl⟩ := hS2.form
       have e : w2.heap[g]? = w.heap[g]? := hO2.block g hg HG.out
       have c2' : w2.cell? ⟨g, j * 3 + 2, none⟩ = some (.slice ua l.length uc) := by
         rw [← c2]; simp [World.cell?, e]
       have f2' : w2.frozen? ⟨g, j * 3 + 2, none⟩ = false := by
         rw [← f2]; simp [World.frozen?, e]
       have HS2 : Hid (Sl w2 L 1 _ m' (strs (l.eraseIdx i))) := hS2
       have HO2 : Hid _ := hO2
       have HB2 : Hid _ := hB2
       clear hS2 hO2 hB2 c2 f2 e))
  go_ret
  exact ⟨rfl, _, w2, rfl, HO2.out, HS2.out, HB2.out⟩

set_option maxRecDepth 100000 in
theorem mrm_drop_raw (g n cap j i : Nat) (l : List ByteArray) (ua : Option Addr) (uc : Nat) (c : Int) (name : ByteArray) (cs : List Value) (w : World) (hj : j < n) (hn : n ≤ 1000000) (hcap : n ≤ cap) (hg : g < w.heap.size) (hi : i < l.length) (hlen : l.length ≤ 1000000)
    (hf : Calls Yba.prog 12 #[.slice (some ⟨g, 0, none⟩) n cap, .int .u64 c] w fun e w' => e = .returned (.int .i64 (j : Int)) ∧ w' = w)
    (hix : Calls Yba.prog 13 #[.slice ua l.length uc, .string name] w fun e w' => e = .returned (.int .i64 (i : Int)) ∧ w' = w)
    (c2 : w.cell? ⟨g, j * 3 + 2, none⟩ = some (.slice ua l.length uc)) (f2 : w.frozen? ⟨g, j * 3 + 2, none⟩ = false) (hS : Sl w L 1 (.slice ua l.length uc) l.length (strs l)) (hgj : (Value.slice ua l.length uc).ownBlock ≠ some g)
    (hcs : cs.length = n * 3) (hr : w.rangeAt g 0 cs) (ht : w.there g 0 (cap * 3)) (h1 : ∀ v ∈ cs, v.oneCell' = true) (hm : (l.eraseIdx i).length = 0) :
    Calls Yba.prog 6 #[.slice (some ⟨g, 0, none⟩) n cap, .int .u64 c, .string name] w fun e w' => e = .returned (.slice (some ⟨g, 0, none⟩) (n - 1) cap) ∧ ∃ u w2,
      Only (fun k => (Value.slice ua l.length uc).ownBlock = some k) w w2 ∧ Sl w2 L 1 u (l.eraseIdx i).length (strs (l.eraseIdx i)) ∧ u.ownBlock = (Value.slice ua l.length uc).ownBlock ∧
      w'.rangeAt g 0 ((cs.set (j * 3 + 2) u).take (j * 3) ++ (cs.set (j * 3 + 2) u).drop ((j + 1) * 3)) ∧ w'.there g 0 (cap * 3) ∧ Only (· = g) (w2.setCell ⟨g, j * 3 + 2, none⟩ u) w' := by
  have hde := del_sl l _ i hS hi
  have j0 : (0 : Int) ≤ (j : Int) := by omega
  have j1 : (j : Int) < (n : Int) := by omega
  have j2 : decide ((j : Int) < 0) = false := by simp
  have j3 : decide ((i : Int) ≥ 0) = true := by simp
  have j4 : decide ((0 : Int) ≤ (i : Int)) = true := by simp
  have HG : Hid _ := hgj
  have HR : Hid _ := hr
  have HT : Hid _ := ht
  have H1 : Hid _ := h1
  clear hS hgj hr ht h1
  rw [hm] at *
  go_enter Yba.func6, Yba.ntmps6
  go_wp2_with (first
    | (go_at_call 12; refine hf.mono ?_; rintro e w1 ⟨rfl, hw⟩; obtain rfl := hw.symm)
    | (go_at_call 13; refine hix.mono ?_; rintro e w1 ⟨rfl, hw⟩; obtain rfl := hw.symm)
    | (go_at_call 15; refine hdel.mono ?_; rintro e w4 ⟨rfl, r4, t4, o4, _⟩
       have R4 : Hid _ := r4
       have T4 : Hid _ := t4
       have O4 : Hid _ := o4
       clear r4 t4 o4)
    | (go_at_call 14; refine hde.mono ?_; rintro e w2 ⟨u, rfl, hS2, hO2, hB2⟩
       obtain ⟨ua2, uc2, rfl⟩ := hS2.form
       have e : w2.heap[g]? = w.heap[g]? := hO2.block g hg HG.out
       have c2' : w2.cell? ⟨g, j * 3 + 2, none⟩ = some (.slice ua l.length uc) := by
         rw [← c2]; simp [World.cell?, e]
       have f2' : w2.frozen? ⟨g, j * 3 + 2, none⟩ = false := by
         rw [← f2]; simp [World.frozen?, e]
       have hr2 := rangeAt_set (o := j * 3 + 2) (rangeAt_block HR.out e) (fun j' hj' => there_block HT.out e j' (by have := Nat.mul_le_mul_right 3 hcap; omega)) (.slice ua2 0 uc2)
       have ht2 := there_set (o := j * 3 + 2) (there_block HT.out e) (.slice ua2 0 uc2)
       have hdel := del_rec g n cap j (cs.set (j * 3 + 2) (.slice ua2 0 uc2)) _ hcap hj (by simpa using hcs) hr2 ht2 (fun v hv => by
         rcases List.mem_or_eq_of_mem_set hv with h | h
         · exact H1.out v h
         · rw [h]; rfl)
       have HS2 : Hid (Sl w2 L 1 _ 0 (strs (l.eraseIdx i))) := hS2
       have HO2 : Hid _ := hO2
       have HB2 : Hid _ := hB2
       clear hS2 hO2 hB2 c2 f2 e hr2 ht2))
  go_ret
  exact ⟨rfl, _, w2, HO2.out, HS2.out, HB2.out, R4.out, T4.out, O4.out⟩
end Go.Proofs.Ybulkdrpg
