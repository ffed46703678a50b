import Derived.Test.YbulkdrpgL1
namespace Go.Proofs.Ybulkdrpg
open Go.RowKit

theorem Only.drew {S : Nat → Prop} {w w' : World} (h : Only S w w') : Only S w w'.drew := ⟨h.os, h.tape, h.output, h.size, h.block⟩
theorem Bk.drew {w : World} {b : Nat} {cs : Array Value} {t : TypeId} (h : Bk w b cs t) : Bk w.drew b cs t := h

/-- remove in the midst. -/
theorem rem_mid (C E P N : Nat) (m f l pp pv nn nv : Value) (v : Value) (k : Int) (hk : IntKind.i64.wrap (k - 1) = k - 1) (w : World) (h1 : E ≠ C) (h2 : E ≠ P) (h3 : E ≠ N) (h4 : P ≠ C) (h5 : N ≠ C) (h6 : P ≠ N) (hC : Bk w C #[m, f, l, np, .nilIface, .int .i64 k] 32) (hP : Bk w P #[pt E, pp, rt C, pv] 28) (hN : Bk w N #[nn, pt E, rt C, nv] 28) (hE : Bk w E #[pt N, pt P, rt C, v] 28) :
    Calls Yba.prog 30 #[.pointer (some ⟨C, 1, none⟩), pt E] w fun e w' => e = .returned (.tuple #[]) ∧ w'.heap.size = w.heap.size ∧ Only (fun b => b = C ∨ b = E ∨ b = P ∨ b = N) w w' ∧
      Bk w' C #[m, f, l, np, .nilIface, .int .i64 (k - 1)] 32 ∧ Bk w' P #[pt N, pp, rt C, pv] 28 ∧ Bk w' N #[nn, pt P, rt C, nv] 28 ∧ Bk w' E #[np, np, np, v] 28 := by
  have he0 := hE.cell 0
  have he1 := hE.cell 1
  have he2 := hE.cell 2
  have hc5 := hC.cell 5
  have hp0 := hP.cell 0
  have hn1 := hN.cell 1
  have fp := hP.free
  have fn := hN.free
  simp at he0 he1 he2 hp0 hn1 hc5
  have fe := hE.free
  have fc := hC.free
  go_enter Yba.func30, Yba.ntmps30
  go_wp2_with fail
  go_region
  go_wp2_with fail
  go_region
  go_wp2_with fail
  go_end0
  refine ⟨rfl, by simp [World.setCell], ?_, ?_, ?_, ?_, ?_⟩
  · exact (((((((Only.refl _ w).set (Or.inl (Or.inr (Or.inr (Or.inl rfl)))) _ _).set (Or.inl (Or.inr (Or.inr (Or.inr rfl)))) _ _).set (Or.inl (Or.inr (Or.inl rfl))) _ _).set (Or.inl (Or.inr (Or.inl rfl))) _ _).set (Or.inl (Or.inr (Or.inl rfl))) _ _).set (Or.inl (Or.inl rfl)) _ _).drew.drew
  · exact ((((((hC.other h4.symm _ _).other h5.symm _ _).other h1.symm _ _).other h1.symm _ _).other h1.symm _ _).set 5 _).drew.drew
  · exact ((((((hP.set 0 _).other h6 _ _).other h2.symm _ _).other h2.symm _ _).other h2.symm _ _).other h4 _ _).drew.drew
  · exact ((((((hN.other h6.symm _ _).set 1 _).other h3.symm _ _).other h3.symm _ _).other h3.symm _ _).other h5 _ _).drew.drew
  · exact ((((((hE.other h2 _ _).other h3 _ _).set 0 _).set 1 _).set 2 _).other h1 _ _).drew.drew

/-- remove the first of several. -/
theorem rem_first (C E N : Nat) (m l nn nv : Value) (v : Value) (k : Int) (hk : IntKind.i64.wrap (k - 1) = k - 1) (w : World) (h1 : E ≠ C) (h3 : E ≠ N) (h5 : N ≠ C) (hC : Bk w C #[m, pt E, l, np, .nilIface, .int .i64 k] 32) (hN : Bk w N #[nn, pt E, rt C, nv] 28) (hE : Bk w E #[pt N, rt C, rt C, v] 28) :
    Calls Yba.prog 30 #[.pointer (some ⟨C, 1, none⟩), pt E] w fun e w' => e = .returned (.tuple #[]) ∧ w'.heap.size = w.heap.size ∧ Only (fun b => b = C ∨ b = E ∨ b = N) w w' ∧
      Bk w' C #[m, pt N, l, np, .nilIface, .int .i64 (k - 1)] 32 ∧ Bk w' N #[nn, rt C, rt C, nv] 28 ∧ Bk w' E #[np, np, np, v] 28 := by
  have he0 := hE.cell 0
  have he1 := hE.cell 1
  have he2 := hE.cell 2
  have hc5 := hC.cell 5
  have hc1 := hC.cell 1
  have hn1 := hN.cell 1
  have fn := hN.free
  simp at he0 he1 he2 hc1 hn1 hc5
  have fe := hE.free
  have fc := hC.free
  go_enter Yba.func30, Yba.ntmps30
  go_wp2_with fail
  go_region
  go_wp2_with fail
  go_region
  go_wp2_with fail
  go_end0
  refine ⟨rfl, by simp [World.setCell], ?_, ?_, ?_, ?_⟩
  · exact (((((((Only.refl _ w).set (Or.inl (Or.inl rfl)) _ _).set (Or.inl (Or.inr (Or.inr rfl))) _ _).set (Or.inl (Or.inr (Or.inl rfl))) _ _).set (Or.inl (Or.inr (Or.inl rfl))) _ _).set (Or.inl (Or.inr (Or.inl rfl))) _ _).set (Or.inl (Or.inl rfl)) _ _).drew.drew
  · exact ((((((hC.set 1 _).other h5.symm _ _).other h1.symm _ _).other h1.symm _ _).other h1.symm _ _).set 5 _).drew.drew
  · exact ((((((hN.other h5 _ _).set 1 _).other h3.symm _ _).other h3.symm _ _).other h3.symm _ _).other h5 _ _).drew.drew
  · exact ((((((hE.other h1 _ _).other h3 _ _).set 0 _).set 1 _).set 2 _).other h1 _ _).drew.drew

/-- remove the last of several. -/
theorem rem_last (C E P : Nat) (m f pp pv : Value) (v : Value) (k : Int) (hk : IntKind.i64.wrap (k - 1) = k - 1) (w : World) (h1 : E ≠ C) (h2 : E ≠ P) (h4 : P ≠ C) (hC : Bk w C #[m, f, pt E, np, .nilIface, .int .i64 k] 32) (hP : Bk w P #[pt E, pp, rt C, pv] 28) (hE : Bk w E #[rt C, pt P, rt C, v] 28) :
    Calls Yba.prog 30 #[.pointer (some ⟨C, 1, none⟩), pt E] w fun e w' => e = .returned (.tuple #[]) ∧ w'.heap.size = w.heap.size ∧ Only (fun b => b = C ∨ b = E ∨ b = P) w w' ∧
      Bk w' C #[m, f, pt P, np, .nilIface, .int .i64 (k - 1)] 32 ∧ Bk w' P #[rt C, pp, rt C, pv] 28 ∧ Bk w' E #[np, np, np, v] 28 := by
  have he0 := hE.cell 0
  have he1 := hE.cell 1
  have he2 := hE.cell 2
  have hc5 := hC.cell 5
  have hp0 := hP.cell 0
  have hc2 := hC.cell 2
  have fp := hP.free
  simp at he0 he1 he2 hp0 hc2 hc5
  have fe := hE.free
  have fc := hC.free
  go_enter Yba.func30, Yba.ntmps30
  go_wp2_with fail
  go_region
  go_wp2_with fail
  go_region
  go_wp2_with fail
  go_end0
  refine ⟨rfl, by simp [World.setCell], ?_, ?_, ?_, ?_⟩
  · exact (((((((Only.refl _ w).set (Or.inl (Or.inr (Or.inr rfl))) _ _).set (Or.inl (Or.inl rfl)) _ _).set (Or.inl (Or.inr (Or.inl rfl))) _ _).set (Or.inl (Or.inr (Or.inl rfl))) _ _).set (Or.inl (Or.inr (Or.inl rfl))) _ _).set (Or.inl (Or.inl rfl)) _ _).drew.drew
  · exact ((((((hC.other h4.symm _ _).set 2 _).other h1.symm _ _).other h1.symm _ _).other h1.symm _ _).set 5 _).drew.drew
  · exact ((((((hP.set 0 _).other h4 _ _).other h2.symm _ _).other h2.symm _ _).other h2.symm _ _).other h4 _ _).drew.drew
  · exact ((((((hE.other h2 _ _).other h1 _ _).set 0 _).set 1 _).set 2 _).other h1 _ _).drew.drew

/-- remove the only one. -/
theorem rem_only (C E : Nat) (m : Value) (v : Value) (k : Int) (hk : IntKind.i64.wrap (k - 1) = k - 1) (w : World) (h1 : E ≠ C) (hC : Bk w C #[m, pt E, pt E, np, .nilIface, .int .i64 k] 32) (hE : Bk w E #[rt C, rt C, rt C, v] 28) :
    Calls Yba.prog 30 #[.pointer (some ⟨C, 1, none⟩), pt E] w fun e w' => e = .returned (.tuple #[]) ∧ w'.heap.size = w.heap.size ∧ Only (fun b => b = C ∨ b = E) w w' ∧
      Bk w' C #[m, rt C, rt C, np, .nilIface, .int .i64 (k - 1)] 32 ∧ Bk w' E #[np, np, np, v] 28 := by
  have he0 := hE.cell 0
  have he1 := hE.cell 1
  have he2 := hE.cell 2
  have hc5 := hC.cell 5
  have hc1 := hC.cell 1
  have hc2 := hC.cell 2
  simp at he0 he1 he2 hc1 hc2 hc5
  have fe := hE.free
  have fc := hC.free
  go_enter Yba.func30, Yba.ntmps30
  go_wp2_with fail
  go_region
  go_wp2_with fail
  go_region
  go_wp2_with fail
  go_end0
  refine ⟨rfl, by simp [World.setCell], ?_, ?_, ?_⟩
  · exact (((((((Only.refl _ w).set (Or.inl (Or.inl rfl)) _ _).set (Or.inl (Or.inl rfl)) _ _).set (Or.inl (Or.inr rfl)) _ _).set (Or.inl (Or.inr rfl)) _ _).set (Or.inl (Or.inr rfl)) _ _).set (Or.inl (Or.inl rfl)) _ _).drew.drew
  · exact ((((((hC.set 1 _).set 2 _).other h1.symm _ _).other h1.symm _ _).other h1.symm _ _).set 5 _).drew.drew
  · exact ((((((hE.other h1 _ _).other h1 _ _).set 0 _).set 1 _).set 2 _).other h1 _ _).drew.drew

end Go.Proofs.Ybulkdrpg
