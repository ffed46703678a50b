import Derived.Test.YbulkdrpgL5
namespace Go.Proofs.Ybulkdrpg
open Go.RowKit Go.Maps Go.WideMaps Go.WideElems

/-- A client's record: what it says, and where it lies. -/
structure Rc where
  id : Int
  since : Int
  names : List ByteArray
  R : Nat
  E : Nat
  L : Nat
  D : DataW Unit

def clA (r : Rc) : Array Value := #[.int .u64 r.id, .int .u64 0, .int .i64 0, np, .map (some r.L), .int .u64 r.since, pt r.E]
def els (rs : List Rc) : List (Nat × Value) := rs.map fun r => (r.E, .iface 72 (pt r.R))
def trip (r : Rc) : List Nat := [r.R, r.E, r.L]
/-- What the records say. -/
def say (r : Rc) : Int × Int × List ByteArray := (r.id, r.since, r.names)

structure Rf (w : World) (r : Rc) : Prop where
  blk : Bk w r.R (clA r) 78
  lk : OL w r.L r.names.length r.D
  lh : ∀ s : ByteArray, Maps.has r.D (kS s) = true ↔ s ∈ r.names
  lz : Maps.size r.D = r.names.length
  ne : r.names ≠ []
  nd : r.names.Nodup
  wf : (Lit.int .u64 r.id).wf = true
  ns : ∀ s ∈ r.names, s.size ≤ maxLen

structure By (w : World) (b : Nat) (DM : DataW Nat) (rs : List Rc) : Prop where
  own : OB w b rs.length DM
  size : Maps.size DM = rs.length
  at_ : ∀ r ∈ rs, DM.atKey (kI r.id) .nil = .held r.R ∧ Maps.has DM (kI r.id) = true
  no : ∀ c, (∀ r ∈ rs, r.id ≠ c) → DM.atKey (kI c) .nil = .nil ∧ Maps.has DM (kI c) = false

def blocks (C : Nat) (mb : Option Nat) (rs : List Rc) : List Nat := C :: (mb.toList ++ (rs.map trip).flatten)

structure Cs (w : World) (C : Nat) (mb : Option Nat) (DM : DataW Nat) (rs : List Rc) : Prop where
  ls : Ls w C (.map mb) (els rs)
  rf : ∀ i (hi : i < rs.length), Rf w rs[i]
  by0 : mb = none → rs = []
  by1 : ∀ b, mb = some b → By w b DM rs
  ids : (rs.map (·.id)).Nodup
  nodup : (blocks C mb rs).Nodup

variable {w w' : World} {C : Nat} {mb : Option Nat} {DM : DataW Nat} {rs : List Rc}

theorem Rf.same {r : Rc} (h : Rf w r) (e1 : w'.heap[r.R]? = w.heap[r.R]?) (e2 : w'.heap[r.L]? = w.heap[r.L]?) : Rf w' r :=
  ⟨e1.trans h.blk, own_same h.lk e2, h.lh, h.lz, h.ne, h.nd, h.wf, h.ns⟩

theorem mem_trip {i : Nat} (hi : i < rs.length) {b : Nat} (hb : b ∈ trip rs[i]) : b ∈ (rs.map trip).flatten :=
  List.mem_flatten.2 ⟨_, List.mem_map.2 ⟨_, List.getElem_mem hi, rfl⟩, hb⟩
theorem mem_blocks {i : Nat} (hi : i < rs.length) {b : Nat} (hb : b ∈ trip rs[i]) : b ∈ blocks C mb rs :=
  List.mem_cons.2 (Or.inr (List.mem_append.2 (Or.inr (mem_trip hi hb))))
theorem els_len : (els rs).length = rs.length := by simp [els]
theorem els_at {i : Nat} (hi : i < rs.length) : (els rs)[i]'(by simpa [els] using hi) = (rs[i].E, .iface 72 (pt rs[i].R)) := by simp [els]

theorem inL_blocks {b : Nat} (h : inL C (els rs) b) : b ∈ blocks C mb rs := by
  rcases h with rfl | h
  · exact List.mem_cons.2 (Or.inl rfl)
  · obtain ⟨e, he, rfl⟩ := List.mem_map.1 h
    obtain ⟨r, hr, rfl⟩ := List.mem_map.1 he
    obtain ⟨i, hi, rfl⟩ := List.mem_iff_getElem.1 hr
    exact mem_blocks hi (by simp [trip])

/-- Two blocks of the triples are one only at one record and one place. -/
theorem flat_nodup_inj {ls : List (List Nat)} (h : ls.flatten.Nodup) {i j : Nat} (hi : i < ls.length) (hj : j < ls.length) (hne : i ≠ j) {b : Nat} (hb : b ∈ ls[i]) : b ∉ ls[j] := by
  have := (List.pairwise_flatten.1 h).2
  rcases Nat.lt_or_gt_of_ne hne with hlt | hlt
  · exact fun hb' => (List.pairwise_iff_getElem.1 this i j hi hj hlt) b hb b hb' rfl
  · exact fun hb' => (List.pairwise_iff_getElem.1 this j i hj hi hlt) b hb' b hb rfl

theorem Cs.tripNodup (h : Cs w C mb DM rs) : ((rs.map trip).flatten).Nodup := by
  have := h.nodup
  simp only [blocks, List.nodup_cons, List.nodup_append] at this
  exact this.2.2.1
theorem Cs.ne_other (h : Cs w C mb DM rs) {i j : Nat} (hi : i < rs.length) (hj : j < rs.length) (hne : i ≠ j) {a b : Nat} (ha : a ∈ trip rs[i]) (hb : b ∈ trip rs[j]) : a ≠ b := fun e => by
  subst e
  exact flat_nodup_inj h.tripNodup (i := i) (j := j) (by simpa using hi) (by simpa using hj) hne (by simpa using ha) (by simpa using hb)
theorem Cs.ne_C (h : Cs w C mb DM rs) {i : Nat} (hi : i < rs.length) {a : Nat} (ha : a ∈ trip rs[i]) : a ≠ C := fun e => by
  have := h.nodup
  simp only [blocks, List.nodup_cons, List.mem_append] at this
  exact this.1 (Or.inr (e ▸ mem_trip hi ha))
theorem Cs.ne_mb (h : Cs w C mb DM rs) {i : Nat} (hi : i < rs.length) {a b : Nat} (ha : a ∈ trip rs[i]) (hb : mb = some b) : a ≠ b := fun e => by
  have := h.nodup
  simp only [blocks, List.nodup_cons, List.nodup_append] at this
  exact this.2.2.2 b (by simp [hb]) a (mem_trip hi ha) e.symm
theorem Cs.trip_at (h : Cs w C mb DM rs) {i : Nat} (hi : i < rs.length) : (trip rs[i]).Nodup := by
  have := List.pairwise_flatten.1 h.tripNodup
  exact this.1 _ (List.mem_map.2 ⟨_, List.getElem_mem hi, rfl⟩)

/-- The client with this id is the j-th. -/
theorem Cs.cellC (h : Cs w C mb DM rs) : w.cell? ⟨C, 0, none⟩ = some (.map mb) := by
  rcases h.ls.head with k | ⟨_, k⟩
  · simpa using k.cell 0
  · simpa using k.cell 0

/-- 'm[k] = struct{}{}', the operation written out. -/
theorem wpList_putL {ops : Array Oper} {rest : List Oper} {dd : Option Tmp} {tt : TypeId} {pos : String} {af : Array Edge} {a : Act} {Q : Exit → Act → World → Prop} (m x v : Operand) (b n : Nat) (D : DataW Unit) (key : ByteArray)
    (hm : a.eval m = .map (some b)) (hx : a.eval x = .string key) (hv : a.eval v = .agg #[]) (hown : OL w b n D) (hn : n < maxLen) (hk : key.size ≤ maxLen)
    (h : ∀ w', OL w' b (n + 1) (D.put (kS key) (.agg [])) → w.grownBy w' (some b) → wpList Yba.prog ops Q rest (a.put dd undef) w') :
    wpList Yba.prog ops Q (⟨dd, .mapUpdate 76 m x v, tt, pos, af, none⟩ :: rest) a w :=
  wpList_mapUpdate_own w rfl m x v 76 rfl 9 88 law9 Yba.underlying76 _ b n D hm hown hn _ _ (kS key) hx hv (key9 hk) (.agg []) [] unitElem_mk h
/-- 'byID[c] = r'. -/
theorem wpList_putB {ops : Array Oper} {rest : List Oper} {dd : Option Tmp} {tt : TypeId} {pos : String} {af : Array Edge} {a : Act} {Q : Exit → Act → World → Prop} (m x v : Operand) (b n : Nat) (D : DataW Nat) (c : Int) (R : Nat)
    (hm : a.eval m = .map (some b)) (hx : a.eval x = .int .u64 c) (hv : a.eval v = pt R) (hown : OB w b n D) (hn : n < maxLen) (hk : (Lit.int .u64 c).wf = true)
    (h : ∀ w', OB w' b (n + 1) (D.put (kI c) (.held R)) → w.grownBy w' (some b) → wpList Yba.prog ops Q rest (a.put dd undef) w') :
    wpList Yba.prog ops Q (⟨dd, .mapUpdate 24 m x v, tt, pos, af, none⟩ :: rest) a w :=
  wpList_mapUpdate_own w rfl m x v 24 rfl 23 72 law23 Yba.underlying24 _ b n D hm hown hn _ _ (kI c) hx hv (key23 hk) (.held R) [] (ptrElem_mk R) h

/-- add, where the client is known: raw. -/
theorem add_known_raw (C b R L n nl : Nat) (DM : DataW Nat) (D : DataW Unit) (c s : Int) (name : ByteArray) (cl : Array Value) (w : World) (h0 : w.cell? ⟨C, 0, none⟩ = some (.map (some b))) (hB : OB w b n DM) (hw : (Lit.int .u64 c).wf = true)
    (ha : DM.atKey (kI c) .nil = .held R) (hR : Bk w R cl 78) (hcl : cl[4]? = some (.map (some L))) (hL : OL w L nl D) (hn : nl < maxLen) (hk : name.size ≤ maxLen) :
    Calls Yba.prog 7 #[.pointer (some ⟨C, 0, none⟩), .int .u64 c, .string name, .int .u64 s] w fun e w' => e = .returned (.tuple #[]) ∧ OL w' L (nl + 1) (D.put (kS name) (.agg [])) ∧ w.grownBy w' (some L) := by
  have hlk := look_known hB hw ha
  have c4 : w.cell? ⟨R, 4, none⟩ = some (.map (some L)) := by rw [hR.cell, hcl]
  go_enter Yba.func7, Yba.ntmps7
  go_wp2_with ((with_reducible refine wpList_putL (.tmp 49) (.tmp 50) (.tmp 51) L nl D name ?_ ?_ ?_ hL hn hk ?_); simp [Act.eval]; simp [Act.eval]; simp [Act.eval]; intro w1 hL1 hg1)
  go_end0
  exact ⟨rfl, hL1, hg1⟩
end Go.Proofs.Ybulkdrpg
