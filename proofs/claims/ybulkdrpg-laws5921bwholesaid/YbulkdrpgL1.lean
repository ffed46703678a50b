import Derived.Test.YbulkdrpgBase
import Derived.RangeFuncRecord
namespace Go.Proofs.Ybulkdrpg
open Go.RowKit

/-! ### container/list, over blocks written out -/
/-- Block b holds these cells, none frozen. -/
abbrev Bk (w : World) (b : Nat) (cs : Array Value) (t : TypeId) : Prop := w.heap[b]? = some (.cells cs t (0, 0))

theorem Bk.cell {w : World} {b : Nat} {cs : Array Value} {t : TypeId} (h : Bk w b cs t) (i : Nat) : w.cell? ⟨b, i, none⟩ = cs[i]? := by
  simp [World.cell?, h]
theorem Bk.free {w : World} {b : Nat} {cs : Array Value} {t : TypeId} (h : Bk w b cs t) (i : Nat) : w.frozen? ⟨b, i, none⟩ = false := by
  simp [World.frozen?, h]
theorem Bk.lt {w : World} {b : Nat} {cs : Array Value} {t : TypeId} (h : Bk w b cs t) : b < w.heap.size := (Array.getElem?_eq_some_iff.1 h).1
theorem Bk.set {w : World} {b : Nat} {cs : Array Value} {t : TypeId} (h : Bk w b cs t) (i : Nat) (v : Value) : Bk (w.setCell ⟨b, i, none⟩ v) b (cs.setIfInBounds i v) t := by
  simp [Bk, World.setCell, Array.getElem?_modify, h]
theorem Bk.other {w : World} {b b' : Nat} {cs : Array Value} {t : TypeId} (h : Bk w b cs t) (hne : b ≠ b') (i : Nat) (v : Value) : Bk (w.setCell ⟨b', i, none⟩ v) b cs t := by
  rw [Bk, Below.heap_setCell _ _ _ _ hne]; exact h

/-- The root of the list in the struct 'clients' at block C; an element at block E. -/
abbrev rt (C : Nat) : Value := .pointer (some ⟨C, 1, none⟩)
abbrev pt (E : Nat) : Value := .pointer (some ⟨E, 0, none⟩)
abbrev np : Value := .pointer none

/-- Worlds that part in a set of blocks alone. -/
structure Only (S : Nat → Prop) (w w' : World) : Prop where
  os : w'.os = w.os
  tape : w'.tape = w.tape
  output : w'.output = w.output
  size : w.heap.size ≤ w'.heap.size
  block : ∀ k, k < w.heap.size → ¬ S k → w'.heap[k]? = w.heap[k]?

theorem Only.refl (S : Nat → Prop) (w : World) : Only S w w := ⟨rfl, rfl, rfl, Nat.le_refl _, fun _ _ _ => rfl⟩
theorem Only.trans {S : Nat → Prop} {w w1 w2 : World} (h : Only S w w1) (k : Only S w1 w2) : Only S w w2 :=
  ⟨k.os.trans h.os, k.tape.trans h.tape, k.output.trans h.output, Nat.le_trans h.size k.size, fun j hj a => (k.block j (Nat.lt_of_lt_of_le hj h.size) a).trans (h.block j hj a)⟩
theorem Only.mono {S S' : Nat → Prop} {w w' : World} (h : Only S w w') (hs : ∀ k, k < w.heap.size → S k → S' k) : Only S' w w' :=
  ⟨h.os, h.tape, h.output, h.size, fun k hk a => h.block k hk (fun s => a (hs k hk s))⟩
theorem Only.set {S : Nat → Prop} {w w' : World} (h : Only S w w') {b : Nat} (hb : S b ∨ w.heap.size ≤ b) (i : Nat) (v : Value) : Only S w (w'.setCell ⟨b, i, none⟩ v) :=
  ⟨h.os, h.tape, h.output, by simpa [World.setCell] using h.size, fun k hk a => (Below.heap_setCell _ _ _ _ (fun e => by subst e; rcases hb with hb | hb; exact a hb; omega)).trans (h.block k hk a)⟩
theorem Only.alloc {S : Nat → Prop} {w w' : World} (h : Only S w w') (o : Obj) : Only S w (w'.alloc o) :=
  ⟨h.os, h.tape, h.output, by simp; have := h.size; omega, fun k hk a => by
    have : k < w'.heap.size := Nat.lt_of_lt_of_le hk h.size
    exact ((show Below w'.heap.size w' (w'.alloc o) by go_grown).block k this).trans (h.block k hk a)⟩

theorem Yba.info28 : ∃ j, Yba.prog.info? 28 = some j ∧ j.size ≠ 0 := by
  have h : (Yba.prog.info? 28).map (·.size) = some 4 := by kernel_rfl
  obtain ⟨j, hj, e⟩ := Option.map_eq_some_iff.1 h
  exact ⟨j, hj, by omega⟩
theorem Yba.info30 : ∃ j, Yba.prog.info? 30 = some j ∧ j.size ≠ 0 := by
  have h : (Yba.prog.info? 30).map (·.size) = some 5 := by kernel_rfl
  obtain ⟨j, hj, e⟩ := Option.map_eq_some_iff.1 h
  exact ⟨j, hj, by omega⟩

theorem len_any (C : Nat) (m f l : Value) (k : Int) (w : World) (h : Bk w C #[m, f, l, np, .nilIface, .int .i64 k] 32) :
    Calls Yba.prog 18 #[.pointer (some ⟨C, 1, none⟩)] w fun e w' => e = .returned (.int .i64 k) ∧ w' = w := by
  have c5 := h.cell 5
  simp at c5
  go_enter Yba.func18, Yba.ntmps18
  go_wp2
  go_ret
  exact ⟨rfl, rfl⟩

theorem front_none (C : Nat) (m f l : Value) (w : World) (h : Bk w C #[m, f, l, np, .nilIface, .int .i64 0] 32) :
    Calls Yba.prog 19 #[.pointer (some ⟨C, 1, none⟩)] w fun e w' => e = .returned np ∧ w' = w := by
  have c5 := h.cell 5
  simp at c5
  go_enter Yba.func19, Yba.ntmps19
  go_wp2
  go_ret
  exact ⟨rfl, rfl⟩

theorem front_some (C E : Nat) (m l : Value) (k : Int) (hk : (k == 0) = false) (w : World) (h : Bk w C #[m, pt E, l, np, .nilIface, .int .i64 k] 32) :
    Calls Yba.prog 19 #[.pointer (some ⟨C, 1, none⟩)] w fun e w' => e = .returned (pt E) ∧ w' = w := by
  have c5 := h.cell 5
  have c1 := h.cell 1
  simp at c5 c1
  go_enter Yba.func19, Yba.ntmps19
  go_wp2
  go_ret
  exact ⟨rfl, rfl⟩

theorem run_neq_ptr_other {P : Program} (w : World) {tp te : TypeId} {j : TypeInfo} {a b : Addr} {ca cb : Array Value} {ta tb : TypeId} (hp : P.underlying tp = some (.pointer te)) (hte : P.info? te = some j) (hsz : j.size ≠ 0)
    (hne : a ≠ b) (ha : w.heap[a.block]? = some (.cells ca ta (0, 0))) (hb : w.heap[b.block]? = some (.cells cb tb (0, 0))) :
    (binOp .neq tp (.pointer (some a)) (.pointer (some b))).run P w = .ok (.bool true) w := by
  have h : ∀ d : Nat, (Op.equalIn (d + 1) tp (.pointer (some a)) (.pointer (some b))).run P w = .ok false w := fun d => by
    simp [Op.equalIn, run_underlying hp, sizeOf, typeInfo, hte, hsz, run_sameAddr_other w hne ha hb]
  simp only [binOp]
  simp [Op.equal, Op.maxDepth, h 9999]

theorem next_more (C E N : Nat) (p v : Value) (cc cn : Array Value) (tn : TypeId) (w : World) (hC : Bk w C cc 32) (hN : Bk w N cn tn) (h : Bk w E #[pt N, p, rt C, v] 28) :
    Calls Yba.prog 21 #[pt E] w fun e w' => e = .returned (pt N) ∧ w' = w := by
  have c0 := h.cell 0
  have c2 := h.cell 2
  simp at c0 c2
  obtain ⟨j, hj, hjs⟩ := Yba.info28
  have hq := run_neq_ptr_other (P := Yba.prog) w (tp := 25) (te := 28) (a := ⟨N, 0, none⟩) (b := ⟨C, 1, none⟩) Yba.underlying25 hj hjs (by simp) hN hC
  go_enter Yba.func21, Yba.ntmps21
  go_wp2
  go_ret
  exact ⟨rfl, rfl⟩

theorem next_last (C E : Nat) (p v : Value) (w : World) (h : Bk w E #[rt C, p, rt C, v] 28) :
    Calls Yba.prog 21 #[pt E] w fun e w' => e = .returned np ∧ w' = w := by
  have c0 := h.cell 0
  have c2 := h.cell 2
  simp at c0 c2
  obtain ⟨j, hj, hjs⟩ := Yba.info28
  have hq := run_neq_ptr_same (P := Yba.prog) w (tp := 25) (te := 28) (some ⟨C, 1, none⟩) Yba.underlying25 hj
  go_enter Yba.func21, Yba.ntmps21
  go_wp2
  go_ret
  exact ⟨rfl, rfl⟩

theorem Bk.alloc {w : World} {b : Nat} {cs : Array Value} {t : TypeId} (h : Bk w b cs t) (o : Obj) : Bk (w.alloc o) b cs t :=
  ((show Below w.heap.size w (w.alloc o) by go_grown).block b h.lt).trans h
theorem Bk.new (w : World) (cs : Array Value) (t : TypeId) : Bk (w.alloc (.cells cs t)) w.heap.size cs t := World.alloc_heap_new w _

/-- insert behind the last element L of a list that holds one. -/
theorem insert_more (C E L : Nat) (m f : Value) (k : Int) (a0 a1 a2 v p vl : Value) (w : World) (hk : IntKind.i64.wrap (k + 1) = k + 1) (h1 : E ≠ C) (h2 : E ≠ L) (h3 : L ≠ C)
    (hC : Bk w C #[m, f, pt L, np, .nilIface, .int .i64 k] 32) (hL : Bk w L #[rt C, p, rt C, vl] 28) (hE : Bk w E #[a0, a1, a2, v] 28) :
    Calls Yba.prog 32 #[.pointer (some ⟨C, 1, none⟩), pt E, pt L] w fun e w' => e = .returned (pt E) ∧ w'.heap.size = w.heap.size ∧ Only (fun b => b = C ∨ b = E ∨ b = L) w w' ∧
      Bk w' C #[m, f, pt E, np, .nilIface, .int .i64 (k + 1)] 32 ∧ Bk w' L #[pt E, p, rt C, vl] 28 ∧ Bk w' E #[rt C, pt L, rt C, v] 28 := by
  have hl0 := hL.cell 0
  have he0 := hE.cell 0
  have he1 := hE.cell 1
  have he2 := hE.cell 2
  have hc2 := hC.cell 2
  have hc5 := hC.cell 5
  have fl := hL.free 0
  have fe := hE.free
  have fc := hC.free
  simp at hl0 he0 he1 he2 hc2 hc5
  go_enter Yba.func32, Yba.ntmps32
  go_wp2_with fail
  go_ret
  refine ⟨rfl, by simp [World.setCell], ?_, ?_, ?_, ?_⟩
  · exact ((((((Only.refl _ w).set (Or.inl (Or.inr (Or.inl rfl))) _ _).set (Or.inl (Or.inr (Or.inl rfl))) _ _).set (Or.inl (Or.inr (Or.inr rfl))) _ _).set (Or.inl (Or.inl rfl)) _ _).set (Or.inl (Or.inr (Or.inl rfl))) _ _).set (Or.inl (Or.inl rfl)) _ _
  · exact (((((hC.other h1.symm _ _).other h1.symm _ _).other h3.symm _ _).set 2 _).other h1.symm _ _).set 5 _
  · exact (((((hL.other h2.symm _ _).other h2.symm _ _).set 0 _).other h3 _ _).other h2.symm _ _).other h3 _ _
  · exact (((((hE.set 1 _).set 0 _).other h2 _ _).other h1 _ _).set 2 _).other h1 _ _

/-- insert into an empty list. -/
theorem insert_first (C E : Nat) (m : Value) (a0 a1 a2 v : Value) (w : World) (h1 : E ≠ C)
    (hC : Bk w C #[m, rt C, rt C, np, .nilIface, .int .i64 0] 32) (hE : Bk w E #[a0, a1, a2, v] 28) :
    Calls Yba.prog 32 #[.pointer (some ⟨C, 1, none⟩), pt E, rt C] w fun e w' => e = .returned (pt E) ∧ w'.heap.size = w.heap.size ∧ Only (fun b => b = C ∨ b = E) w w' ∧
      Bk w' C #[m, pt E, pt E, np, .nilIface, .int .i64 1] 32 ∧ Bk w' E #[rt C, rt C, rt C, v] 28 := by
  have he0 := hE.cell 0
  have he1 := hE.cell 1
  have he2 := hE.cell 2
  have hc1 := hC.cell 1
  have hc2 := hC.cell 2
  have hc5 := hC.cell 5
  have fe := hE.free
  have fc := hC.free
  simp at he0 he1 he2 hc1 hc2 hc5
  go_enter Yba.func32, Yba.ntmps32
  go_wp2_with fail
  go_ret
  refine ⟨rfl, by simp [World.setCell], ?_, ?_, ?_⟩
  · exact ((((((Only.refl _ w).set (Or.inl (Or.inr rfl)) _ _).set (Or.inl (Or.inr rfl)) _ _).set (Or.inl (Or.inl rfl)) _ _).set (Or.inl (Or.inl rfl)) _ _).set (Or.inl (Or.inr rfl)) _ _).set (Or.inl (Or.inl rfl)) _ _
  · exact (((((hC.other h1.symm _ _).other h1.symm _ _).set 1 _).set 2 _).other h1.symm _ _).set 5 _
  · exact (((((hE.set 1 _).set 0 _).other h1 _ _).other h1 _ _).set 2 _).other h1 _ _

theorem lazy_done (C : Nat) (a : Addr) (m l : Value) (k : Int) (w : World) (h : Bk w C #[m, .pointer (some a), l, np, .nilIface, .int .i64 k] 32) :
    Calls Yba.prog 25 #[.pointer (some ⟨C, 1, none⟩)] w fun e w' => e = .returned (.tuple #[]) ∧ w' = w := by
  have c1 := h.cell 1
  simp at c1
  go_enter Yba.func25, Yba.ntmps25
  go_wp2_with fail
  go_end0
  exact ⟨rfl, rfl⟩

theorem init_any (C : Nat) (m f l : Value) (k : Int) (w : World) (h : Bk w C #[m, f, l, np, .nilIface, .int .i64 k] 32) :
    Calls Yba.prog 31 #[.pointer (some ⟨C, 1, none⟩)] w fun e w' => e = .returned (rt C) ∧ w'.heap.size = w.heap.size ∧ Only (fun b => b = C) w w' ∧ Bk w' C #[m, rt C, rt C, np, .nilIface, .int .i64 0] 32 := by
  have c1 := h.cell 1
  have c2 := h.cell 2
  have c5 := h.cell 5
  have fc := h.free
  simp at c1 c2 c5
  go_enter Yba.func31, Yba.ntmps31
  go_wp2_with fail
  go_ret
  exact ⟨rfl, by simp [World.setCell], (((Only.refl (fun b => b = C) w).set (Or.inl rfl) _ _).set (Or.inl rfl) _ _).set (Or.inl rfl) _ _, ((h.set 1 _).set 2 _).set 5 _⟩

theorem lazy_zero (C : Nat) (m l : Value) (k : Int) (w : World) (h : Bk w C #[m, np, l, np, .nilIface, .int .i64 k] 32) :
    Calls Yba.prog 25 #[.pointer (some ⟨C, 1, none⟩)] w fun e w' => e = .returned (.tuple #[]) ∧ w'.heap.size = w.heap.size ∧ Only (fun b => b = C) w w' ∧ Bk w' C #[m, rt C, rt C, np, .nilIface, .int .i64 0] 32 := by
  have c1 := h.cell 1
  simp at c1
  go_enter Yba.func25, Yba.ntmps25
  go_wp2_with (go_at_call 31; refine (init_any C m np l k _ h).mono ?_; rintro e w1 ⟨rfl, h1, h2, h3⟩)
  go_end0
  exact ⟨rfl, h1, h2, h3⟩

theorem only_newS {S S' : Nat → Prop} {w w' : World} {o : Obj} (h : Only S' (w.alloc o) w') (hs : ∀ k, k < w.heap.size → S' k → S k) : Only S w w' :=
  have hb : Below w.heap.size w (w.alloc o) := by go_grown
  ⟨h.os, h.tape, h.output, Nat.le_trans hb.size h.size, fun k hk a => (h.block k (Nat.lt_of_lt_of_le hk hb.size) (fun s => a (hs k hk s))).trans (hb.block k hk)⟩
theorem only_new {C : Nat} {w w' : World} {o : Obj} (h : Only (fun b => b = C ∨ b = w.heap.size) (w.alloc o) w') : Only (fun b => b = C) w w' :=
  only_newS h (fun k hk s => s.elim id (fun e => by omega))
theorem only_new2 {C L : Nat} {w w' : World} {o : Obj} (h : Only (fun b => b = C ∨ b = w.heap.size ∨ b = L) (w.alloc o) w') : Only (fun b => b = C ∨ b = L) w w' :=
  only_newS h (fun k hk s => s.elim Or.inl (fun s => s.elim (fun e => by omega) Or.inr))

/-- insertValue. -/
theorem insv_first (C : Nat) (m v : Value) (hv : ∃ t x, v = .iface t x) (w : World) (hC : Bk w C #[m, rt C, rt C, np, .nilIface, .int .i64 0] 32) :
    Calls Yba.prog 26 #[.pointer (some ⟨C, 1, none⟩), v, rt C] w fun e w' => e = .returned (pt w.heap.size) ∧ w'.heap.size = w.heap.size + 1 ∧ Only (fun b => b = C) w w' ∧
      Bk w' C #[m, pt w.heap.size, pt w.heap.size, np, .nilIface, .int .i64 1] 32 ∧ Bk w' w.heap.size #[rt C, rt C, rt C, v] 28 := by
  obtain ⟨t, x, rfl⟩ := hv
  have hlt := hC.lt
  have hE := Bk.new w #[np, np, np, .iface t x] 28
  have hC1 := hC.alloc (.cells #[np, np, np, .iface t x] 28)
  go_enter Yba.func26, Yba.ntmps26
  go_wp2_with (go_at_call 32; refine (insert_first C w.heap.size m np np np (.iface t x) _ (by omega) hC1 hE).mono ?_; rintro e w1 ⟨rfl, h1, h2, h3, h4⟩)
  go_ret
  exact ⟨rfl, h1.trans (by simp), only_new h2, h3, h4⟩

theorem insv_more (C L : Nat) (m f v p vl : Value) (k : Int) (hk : IntKind.i64.wrap (k + 1) = k + 1) (hv : ∃ t x, v = .iface t x) (w : World) (h3 : L ≠ C)
    (hC : Bk w C #[m, f, pt L, np, .nilIface, .int .i64 k] 32) (hL : Bk w L #[rt C, p, rt C, vl] 28) :
    Calls Yba.prog 26 #[.pointer (some ⟨C, 1, none⟩), v, pt L] w fun e w' => e = .returned (pt w.heap.size) ∧ w'.heap.size = w.heap.size + 1 ∧ Only (fun b => b = C ∨ b = L) w w' ∧
      Bk w' C #[m, f, pt w.heap.size, np, .nilIface, .int .i64 (k + 1)] 32 ∧ Bk w' L #[pt w.heap.size, p, rt C, vl] 28 ∧ Bk w' w.heap.size #[rt C, pt L, rt C, v] 28 := by
  obtain ⟨t, x, rfl⟩ := hv
  have hlt := hC.lt
  have hlt2 := hL.lt
  have hE := Bk.new w #[np, np, np, .iface t x] 28
  have hC1 := hC.alloc (.cells #[np, np, np, .iface t x] 28)
  have hL1 := hL.alloc (.cells #[np, np, np, .iface t x] 28)
  go_enter Yba.func26, Yba.ntmps26
  go_wp2_with (go_at_call 32; refine (insert_more C w.heap.size L m f k np np np (.iface t x) p vl _ hk (by omega) (by omega) h3 hC1 hL1 hE).mono ?_; rintro e w1 ⟨rfl, g1, g2, g3, g4, g5⟩)
  go_ret
  exact ⟨rfl, g1.trans (by simp), only_new2 g2, g3, g4, g5⟩

/-- PushBack on a list that was never used, or is empty. -/
theorem push_zero (C : Nat) (m v : Value) (hv : ∃ t x, v = .iface t x) (w : World) (hC : Bk w C #[m, np, np, np, .nilIface, .int .i64 0] 32) :
    Calls Yba.prog 16 #[.pointer (some ⟨C, 1, none⟩), v] w fun e w' => e = .returned (pt w.heap.size) ∧ w'.heap.size = w.heap.size + 1 ∧ Only (fun b => b = C) w w' ∧
      Bk w' C #[m, pt w.heap.size, pt w.heap.size, np, .nilIface, .int .i64 1] 32 ∧ Bk w' w.heap.size #[rt C, rt C, rt C, v] 28 := by
  go_enter Yba.func16, Yba.ntmps16
  go_wp2_with (first
    | (go_at_call 25; refine (lazy_zero C m np 0 _ hC).mono ?_; rintro e w1 ⟨rfl, g1, g2, g3⟩; have c2 := g3.cell 2; simp at c2)
    | (go_at_call 26; refine (insv_first C m v hv _ g3).mono ?_; rintro e w2 ⟨rfl, k1, k2, k3, k4⟩))
  go_ret
  rw [g1] at k1 k3 k4
  exact ⟨rfl, k1, g2.trans k2, k3, k4⟩

theorem push_empty (C : Nat) (m v : Value) (hv : ∃ t x, v = .iface t x) (w : World) (hC : Bk w C #[m, rt C, rt C, np, .nilIface, .int .i64 0] 32) :
    Calls Yba.prog 16 #[.pointer (some ⟨C, 1, none⟩), v] w fun e w' => e = .returned (pt w.heap.size) ∧ w'.heap.size = w.heap.size + 1 ∧ Only (fun b => b = C) w w' ∧
      Bk w' C #[m, pt w.heap.size, pt w.heap.size, np, .nilIface, .int .i64 1] 32 ∧ Bk w' w.heap.size #[rt C, rt C, rt C, v] 28 := by
  have c2 := hC.cell 2
  simp at c2
  go_enter Yba.func16, Yba.ntmps16
  go_wp2_with (first
    | (go_at_call 25; refine (lazy_done C _ m (rt C) 0 _ hC).mono ?_; rintro e w1 ⟨rfl, rfl⟩)
    | (go_at_call 26; refine (insv_first C m v hv _ hC).mono ?_; rintro e w2 ⟨rfl, k1, k2, k3, k4⟩))
  go_ret
  exact ⟨rfl, k1, k2, k3, k4⟩

theorem push_more (C L : Nat) (a : Addr) (m v p vl : Value) (k : Int) (hk : IntKind.i64.wrap (k + 1) = k + 1) (hv : ∃ t x, v = .iface t x) (w : World) (h3 : L ≠ C)
    (hC : Bk w C #[m, .pointer (some a), pt L, np, .nilIface, .int .i64 k] 32) (hL : Bk w L #[rt C, p, rt C, vl] 28) :
    Calls Yba.prog 16 #[.pointer (some ⟨C, 1, none⟩), v] w fun e w' => e = .returned (pt w.heap.size) ∧ w'.heap.size = w.heap.size + 1 ∧ Only (fun b => b = C ∨ b = L) w w' ∧
      Bk w' C #[m, .pointer (some a), pt w.heap.size, np, .nilIface, .int .i64 (k + 1)] 32 ∧ Bk w' L #[pt w.heap.size, p, rt C, vl] 28 ∧ Bk w' w.heap.size #[rt C, pt L, rt C, v] 28 := by
  have c2 := hC.cell 2
  simp at c2
  go_enter Yba.func16, Yba.ntmps16
  go_wp2_with (first
    | (go_at_call 25; refine (lazy_done C _ m (pt L) k _ hC).mono ?_; rintro e w1 ⟨rfl, rfl⟩)
    | (go_at_call 26; refine (insv_more C L m (.pointer (some a)) v p vl k hk hv _ h3 hC hL).mono ?_; rintro e w2 ⟨rfl, k1, k2, k3, k4, k5⟩))
  go_ret
  exact ⟨rfl, k1, k2, k3, k4, k5⟩
end Go.Proofs.Ybulkdrpg
