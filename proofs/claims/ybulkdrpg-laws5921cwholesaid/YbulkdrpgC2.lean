import Derived.Test.YbulkdrpgC1
import Derived.Deep.OwnRows
import Derived.Deep.MidRow
import Derived.Laws.CopyOwn
namespace Go.Proofs.Ybulkdrpg
open Go.RowKit

theorem Yba.info63 : (Yba.prog.info? 63).map (fun i => (i.zero, i.size, i.bytes)) = some (some (.pointer none), 1, 8) := by kernel_rfl
/-- The zero entry's cells. -/
def ent0 : Array Value := #[.int .u64 0, .int .i64 0, .int .u64 0, .int .u64 0, .pointer none, .int .u16 0, .int .u64 0, .bool false, .bool false, .int .i64 0]
theorem Yba.info62 : (Yba.prog.info? 62).map (fun i => (i.zero, i.size, i.bytes)) = some (some (.agg ent0), 10, 72) := by kernel_rfl
/-- An entry's cells. -/
def entL (c t s : Int) (tr gr : Bool) (pl : Int) : List Value := [.int .u64 c, .int .i64 t, .int .u64 0, .int .u64 0, .pointer none, .int .u16 0, .int .u64 s, .bool tr, .bool gr, .int .i64 pl]

theorem entL_size (c t s : Int) (tr gr : Bool) (pl : Int) : (entL c t s tr gr pl).toArray.size = 10 := by simp [entL]
theorem entL_one (c t s : Int) (tr gr : Bool) (pl : Int) : (entL c t s tr gr pl).toArray.all (·.oneCell') = true := by simp [entL, Value.oneCell']

/-- 'make([]T, n)', whatever T's cells. -/
theorem run_make_any {P : Program} (t e : TypeId) (z : Value) (size bytes : Nat) (ht : P.underlying t = some (.slice e)) (hinfo : (P.info? e).map (fun i => (i.zero, i.size, i.bytes)) = some (some z, size, bytes))
    (kl kc : IntKind) (n : Nat) (hbytes : bytes * n ≤ 281474976710656) (h63 : n ≤ 9223372036854775807) (w : World) :
    (Instr.makeSlice t (.int kl (n : Int)) (.int kc (n : Int))).run P w = .ok (.slice (some ⟨w.heap.size, 0, none⟩) n n) (w.alloc (.cells (madeCells z.cells (n * size)) e)) := by
  obtain ⟨i, hi, hzz⟩ := Option.map_eq_some_iff.1 hinfo
  simp only [Prod.mk.injEq] at hzz
  obtain ⟨hz, hs, hb⟩ := hzz
  have hb' : (i.bytes : Int) * (n : Int) ≤ 281474976710656 := by
    have h : ((i.bytes * n : Nat) : Int) ≤ 281474976710656 := by rw [hb]; omega
    rwa [Int.natCast_mul] at h
  have hr := run_make (P := P) w t e i z ht hi hz kl kc n n (by omega) (Int.le_refl _) hb' (by omega)
  simp only [Int.toNat_natCast, hs] at hr
  exact hr

theorem Yba.size62 : (Yba.prog.info? 62).map (·.size) = some 10 := by kernel_rfl

theorem size_setCells (b : Nat) : ∀ (vs : List Value) (o : Nat) (w : World), (w.setCells b o vs).heap.size = w.heap.size
  | [], _, _ => rfl
  | v :: r, o, w => by rw [World.setCells, size_setCells b r (o + 1)]; simp [World.setCell]

theorem block_setCells (b k : Nat) (h : k ≠ b) : ∀ (vs : List Value) (o : Nat) (w : World), (w.setCells b o vs).heap[k]? = w.heap[k]?
  | [], _, _ => rfl
  | v :: r, o, w => by rw [World.setCells, block_setCells b k h r (o + 1), Below.heap_setCell _ _ _ _ h]

theorem os_setCells (b : Nat) : ∀ (vs : List Value) (o : Nat) (w : World), (w.setCells b o vs).os = w.os ∧ (w.setCells b o vs).tape = w.tape ∧ (w.setCells b o vs).output = w.output
  | [], _, _ => ⟨rfl, rfl, rfl⟩
  | v :: r, o, w => by rw [World.setCells]; exact os_setCells b r (o + 1) _

theorem below_setCells {B b o : Nat} {w0 w : World} (hb : Below B w0 w) (hBb : B ≤ b) (vs : List Value) : Below B w0 (w.setCells b o vs) :=
  have h := os_setCells b vs o w
  hb.trans ⟨h.1, h.2.1, h.2.2, by rw [size_setCells]; exact Nat.le_refl _, fun k hk => block_setCells b k (by omega) vs o w⟩

/-- A whole struct stored into the midst of a block: the world behind it under a name. (The operation stands written out in the conclusion: 'with_reducible refine' then fails fast where it does not fit.) -/
theorem wpList_store_hid {P : Program} {ops : Array Oper} {rest : List Oper} {d : Option Tmp} {tt : TypeId} {ps : String} {af : Array Edge} {a : Act} {w : World} {Q : Exit → Act → World → Prop} (ty : TypeId) (x y : Operand)
    (b o : Nat) (cells : Array Value) (N : Nat) (hx : a.eval x = .pointer (some ⟨b, o, none⟩)) (hy : a.eval y = .agg cells)
    (ht : w.there b o N) (hi : (P.info? ty).map (·.size) = some N) (hN : cells.size = N) (h1 : cells.all (·.oneCell') = true)
    (h : ∀ w', Hid (w' = w.setCells b o cells.toList) → w'.heap.size = w.heap.size → wpList P ops Q rest (a.put d undef) w') : wpList P ops Q (⟨d, .store ty x y, tt, ps, af, none⟩ :: rest) a w :=
  wpList_store_mid rfl ty x y rfl b o cells hx hy (by rw [hN]; exact ht) (by rw [hN]; exact hi) h1 (h _ rfl (size_setCells _ _ _ _))

/-- What the first loop has made after k rounds. -/
structure Built (B b off n k : Nat) (C T S : Nat → Int) (Tr Gr : Nat → Bool) (w wr : World) : Prop where
  below : Below B w wr
  size : wr.heap.size = B + 2 + 3 * k
  thereH : wr.there B 0 n
  thereV : wr.there (B + 1) 0 (n * 10)
  ptr : ∀ j, j < k → wr.cell? ⟨B, j, none⟩ = some (.pointer (some ⟨B + 4 + 3 * j, 0, none⟩))
  val : ∀ j, j < k → wr.rangeAt (B + 1) (j * 10) (entL (C j) (T j) (S j) (Tr j) (Gr j) j)
  ent : ∀ j, j < k → wr.rangeAt (B + 4 + 3 * j) 0 (entL (C j) (T j) (S j) (Tr j) (Gr j) j)

/-- A whole struct loaded out of the midst of a block. -/
theorem wpList_load_lit {P : Program} {ops : Array Oper} {rest : List Oper} {d : Option Tmp} {tt : TypeId} {ps : String} {af : Array Edge} {a : Act} {w : World} {Q : Exit → Act → World → Prop} (ty : TypeId) (x : Operand)
    (b o : Nat) (cs : List Value) (D : TypeDesc) (N : Nat) (hx : a.eval x = .pointer (some ⟨b, o, none⟩)) (hc : w.rangeAt b o cs)
    (hu : P.underlying ty = some D) (hd : D.isRow = true) (hi : (P.info? ty).map (·.size) = some N) (hN : cs.length = N)
    (h : wpList P ops Q rest (a.put d (.agg cs.toArray)) w) : wpList P ops Q (⟨d, .load ty x, tt, ps, af, none⟩ :: rest) a w :=
  wpList_load_mid rfl ty x rfl b o hx cs D hc hu hd (by rw [hN]; exact hi) h

theorem entL_len (c t s : Int) (tr gr : Bool) (pl : Int) : (entL c t s tr gr pl).length = 10 := by simp [entL]

/-- Cells that were just laid lie there. -/
theorem rangeAt_new (w : World) (cs : List Value) (t : TypeId) : (w.alloc (.cells cs.toArray t)).rangeAt w.heap.size 0 cs := fun j v hv => by
  simpa using hv

/-- What lies where it lies, in a world whose block is the same. -/
theorem rangeAt_block {w w' : World} {b o : Nat} {cs : List Value} (h : w.rangeAt b o cs) (e : w'.heap[b]? = w.heap[b]?) : w'.rangeAt b o cs := fun j v hv => by
  rw [World.cell?_of_block (w := w) e]; exact h j v hv
theorem there_block {w w' : World} {b o n : Nat} (h : w.there b o n) (e : w'.heap[b]? = w.heap[b]?) : w'.there b o n := fun j hj => by
  rw [World.cell?_of_block (w := w) e, World.frozen?_of_block (w := w) e]; exact h j hj

/-- The world of the round k behind the store into vals. -/
theorem after_store {B b off n k : Nat} {C T S : Nat → Int} {Tr Gr : Nat → Bool} {w wr w2 : World} (hB : Built B b off n k C T S Tr Gr w wr) (hk : k < n) (qc cs : List Value)
    (hw : w2 = ((wr.alloc (.cells qc.toArray 48)).alloc (.cells cs.toArray 62)).setCells (B + 1) (k * 10) cs) :
    w2.rangeAt (wr.heap.size + 1) 0 cs ∧ (∃ u, ∀ o, (w2.alloc o).cell? ⟨B, k, none⟩ = some u) ∧ ∀ o, (w2.alloc o).frozen? ⟨B, k, none⟩ = false := by
  have hs := hB.size
  have h1 : w2.there B 0 n := by
    rw [hw]; exact World.there_setCells (World.there_alloc (World.there_alloc hB.thereH _) _) _ _ _
  obtain ⟨e1, e2⟩ := h1 k hk
  simp only [Nat.zero_add] at e1 e2
  have hlt : B < w2.heap.size := by rw [hw, size_setCells, World.size_alloc, World.size_alloc]; omega
  obtain ⟨u, hu⟩ := Option.isSome_iff_exists.1 e1
  refine ⟨?_, ⟨u, fun o => by rw [World.cell?_alloc_past _ _ _ hlt]; exact hu⟩, fun o => by rw [World.frozen?_alloc_past _ _ _ hlt]; exact e2⟩
  · rw [hw]
    have := rangeAt_new (wr.alloc (.cells qc.toArray 48)) cs 62
    rw [World.size_alloc] at this
    exact World.rangeAt_setCells_apart this _ _ _ (.inl (by omega))

/-- The round k whole. -/
theorem built_step {B b off n k : Nat} {C T S : Nat → Int} {Tr Gr : Nat → Bool} {w wr w2 : World} (hB : Built B b off n k C T S Tr Gr w wr) (hk : k < n) (qc : List Value)
    (hw : w2 = ((wr.alloc (.cells qc.toArray 48)).alloc (.cells (entL (C k) (T k) (S k) (Tr k) (Gr k) k).toArray 62)).setCells (B + 1) (k * 10) (entL (C k) (T k) (S k) (Tr k) (Gr k) k)) :
    Built B b off n (k + 1) C T S Tr Gr w ((w2.alloc (.cells (entL (C k) (T k) (S k) (Tr k) (Gr k) k).toArray 62)).setCell ⟨B, k, none⟩ (.pointer (some ⟨wr.heap.size + 1 + 1, 0, none⟩))) := by
  have hs := hB.size
  generalize hE : entL (C k) (T k) (S k) (Tr k) (Gr k) k = E at hw
  have hEl : E.length = 10 := by rw [← hE]; exact entL_len _ _ _ _ _ _
  generalize hw1 : (wr.alloc (.cells qc.toArray 48)).alloc (.cells E.toArray 62) = w1 at hw
  have hs1 : w1.heap.size = wr.heap.size + 2 := by rw [← hw1, World.size_alloc, World.size_alloc]
  have hs2 : w2.heap.size = wr.heap.size + 2 := by rw [hw, size_setCells, hs1]
  have b1 : Below wr.heap.size wr w1 := by rw [← hw1]; go_grown
  have t1V : w1.there (B + 1) 0 (n * 10) := there_block hB.thereV (b1.block _ (by omega))
  have t1H : w1.there B 0 n := there_block hB.thereH (b1.block _ (by omega))
  have blk2 : ∀ j, j ≠ B + 1 → w2.heap[j]? = w1.heap[j]? := fun j hj => by rw [hw]; exact block_setCells _ _ hj _ _ _
  have blk3 : ∀ j, j < wr.heap.size + 2 → (w2.alloc (.cells E.toArray 62)).heap[j]? = w2.heap[j]? := fun j hj => Below.heap_alloc _ _ _ (by omega)
  generalize hw3 : w2.alloc (.cells E.toArray 62) = w3 at blk3
  have hs3 : w3.heap.size = wr.heap.size + 3 := by rw [← hw3, World.size_alloc, hs2]
  have hnew : w3.rangeAt (wr.heap.size + 2) 0 E := by rw [← hw3, ← hs2]; exact rangeAt_new _ _ _
  have blk4 : ∀ (u : Value) (j : Nat), j ≠ B → (w3.setCell ⟨B, k, none⟩ u).heap[j]? = w3.heap[j]? := fun u j hj => Below.heap_setCell _ _ _ _ hj
  have t3V : w3.there (B + 1) 0 (n * 10) := by
    refine there_block ?_ (blk3 _ (by omega))
    rw [hw]; exact World.there_setCells t1V _ _ _
  have r3 : ∀ j, j < k → w3.rangeAt (B + 1) (j * 10) (entL (C j) (T j) (S j) (Tr j) (Gr j) j) := fun j hj => by
    refine rangeAt_block ?_ (blk3 _ (by omega))
    rw [hw]
    exact World.rangeAt_setCells_apart (rangeAt_block (hB.val j hj) (b1.block _ (by omega))) _ _ _ (.inr (.inl (by rw [entL_len]; omega)))
  have r3k : w3.rangeAt (B + 1) (k * 10) E := by
    refine rangeAt_block ?_ (blk3 _ (by omega))
    rw [hw]
    refine World.rangeAt_setCells_same _ _ _ _ ?_
    intro j hj
    have := t1V (k * 10 + j) (by omega)
    simpa using this
  have t3H : w3.there B 0 n := by
    refine there_block t1H ?_
    rw [blk3 _ (by omega), blk2 _ (by omega)]
  have bel : Below B w (w3.setCell ⟨B, k, none⟩ (.pointer (some ⟨wr.heap.size + 1 + 1, 0, none⟩))) := by
    refine Below.setCell (p := ⟨B, k, none⟩) ?_ (Nat.le_refl B) _
    rw [← hw3]
    refine Below.alloc ?_ (by rw [hs2]; omega) _
    rw [hw]
    refine below_setCells ?_ (by omega) _
    exact hB.below.trans (b1.mono (by omega))
  constructor
  · exact bel
  · show (w3.heap.modify _ _).size = _
    rw [Array.size_modify]; omega
  · intro j hj
    obtain ⟨e1, e2⟩ := t3H j hj
    simp only [Nat.zero_add] at e1 e2 ⊢
    refine ⟨?_, by rw [World.frozen?_setCell]; exact e2⟩
    obtain ⟨u, hu⟩ := Option.isSome_iff_exists.1 e1
    by_cases e : j = k
    · subst e; rw [World.cell?_setCell_same _ _ _ hu]; rfl
    · rw [World.cell?_setCell_other _ _ _ _ (by simp only [ne_eq, Addr.mk.injEq]; omega), hu]; rfl
  · exact there_block t3V (blk4 _ _ (by omega))
  · intro j hj
    by_cases e : j = k
    · subst e
      obtain ⟨u, hu⟩ := Option.isSome_iff_exists.1 (t3H j hk).1
      simp only [Nat.zero_add] at hu
      rw [World.cell?_setCell_same _ _ _ hu, hs]
      have e5 : B + 2 + 3 * j + 1 + 1 = B + 4 + 3 * j := by omega
      rw [e5]
    · rw [World.cell?_setCell_other _ _ _ _ (by simp only [ne_eq, Addr.mk.injEq]; omega)]
      have := hB.ptr j (by omega)
      rw [← this]
      refine World.cell?_of_block (w := wr) ?_
      show w3.heap[B]? = wr.heap[B]?
      rw [blk3 _ (by omega), blk2 _ (by omega), b1.block _ (by omega)]
  · intro j hj
    refine rangeAt_block ?_ (blk4 _ _ (by omega))
    by_cases e : j = k
    · subst e; rw [hE]; exact r3k
    · exact r3 j (by omega)
  · intro j hj
    refine rangeAt_block ?_ (blk4 _ _ (by omega))
    by_cases e : j = k
    · subst e; rw [hE]
      have : B + 4 + 3 * j = wr.heap.size + 2 := by omega
      rw [this]; exact hnew
    · refine rangeAt_block (hB.ent j (by omega)) ?_
      rw [blk3 _ (by omega), blk2 _ (by omega), b1.block _ (by omega)]

theorem there_made (w : World) (z : Array Value) (m : Nat) (t : TypeId) : (w.alloc (.cells (madeCells z m) t)).there w.heap.size 0 m := fun j hj => by
  have hj' : j < (madeCells z m).size := by rw [size_madeCells]; exact hj
  refine ⟨?_, by simp⟩
  rw [World.cell?_alloc_at _ _ _ _ rfl, Nat.zero_add, Array.getElem?_eq_getElem hj']
  rfl

theorem built_start (w : World) (b off n : Nat) (C T S : Nat → Int) (Tr Gr : Nat → Bool) (z1 z2 : Array Value) :
    Built w.heap.size b off n 0 C T S Tr Gr w ((w.alloc (.cells (madeCells z1 n) 63)).alloc (.cells (madeCells z2 (n * 10)) 62)) := by
  constructor
  · go_grown
  · rw [World.size_alloc, World.size_alloc]
  · exact World.there_alloc (there_made w z1 n 63) _
  · have := there_made (w.alloc (.cells (madeCells z1 n) 63)) z2 (n * 10) 62
    rw [World.size_alloc] at this
    exact this
  · intro j hj; omega
  · intro j hj; omega
  · intro j hj; omega

/-- The pointers that the first loop has laid, as a list. -/
def ptrL (B n : Nat) : List Value := (List.range n).map fun j => .pointer (some ⟨B + 4 + 3 * j, 0, none⟩)
theorem ptrL_len (B n : Nat) : (ptrL B n).length = n := by simp [ptrL]
theorem ptrL_get (B n j : Nat) (h : j < n) : (ptrL B n)[j]? = some (.pointer (some ⟨B + 4 + 3 * j, 0, none⟩)) := by simp [ptrL, h]
theorem ptrL_one (B n : Nat) : ∀ v ∈ ptrL B n, v.oneCell' = true := by
  intro v hv
  simp only [ptrL, List.mem_map] at hv
  obtain ⟨j, _, rfl⟩ := hv
  rfl

/-- copy into a row of the call's own, laid just now: the operation written out. -/
theorem wpList_copy_lit {P : Program} {w : World} {ops : Array Oper} {rest : List Oper} {dd : Option Tmp} {tt : TypeId} {ps : String} {af : Array Edge} {a : Act} {Q : Exit → Act → World → Prop} (d s : Operand) (dT sT : TypeId)
    (elem : TypeId) (hu : P.underlying dT = some (.slice elem)) (hsz : (P.info? elem).map (·.size) = some 1)
    (dp sp : Option Addr) (dLen dCap sLen sCap : Nat) (hd : a.eval d = .slice dp dLen dCap) (hs : a.eval s = .slice sp sLen sCap)
    (g off : Nat) (cur : List Value) (t : TypeId) (hg : w.heap[g]? = some (.cells cur.toArray t (0, 0))) (cs : List Value) (hn : cs.length = Nat.min sLen dLen)
    (hpos : 0 < cs.length → dp = some ⟨g, off, none⟩ ∧ ∃ ad, sp = some ad ∧ ∀ j v, cs[j]? = some v → w.cell? (ad.add j) = some v)
    (hfit : off + cs.length ≤ cur.length) (h1 : ∀ v ∈ cs, v.oneCell' = true) (B : Nat) (w0 : World) (hb : Below B w0 w) (hBg : B ≤ g)
    (h : ∀ w', Hid (w'.heap[g]? = some (.cells (splice cur off cs).toArray t (0, 0))) → Below B w0 w' → wpList P ops Q rest (a.put dd (goInt cs.length)) w') :
    wpList P ops Q (⟨dd, .call { callee := .builtin .copy, args := #[d, s], argTypes := #[dT, sT] }, tt, ps, af, none⟩ :: rest) a w :=
  wpList_copy_splice rfl d s dT sT rfl elem hu hsz dp sp dLen dCap sLen sCap hd hs g off cur t hg cs hn hpos hfit h1 B w0 hb hBg h

/-- What watcher answers. -/
def wantA (ogr : Bool) (n : Nat) (c0 t0 oc ot : Int) (tr0 : Bool) (L P0 : Nat) : Option Addr :=
  if ogr then none else if n = 0 ∨ ¬ cmpR c0 t0 oc ot < 0 then some ⟨L, 0, none⟩ else if tr0 then some ⟨P0, 0, none⟩ else none

theorem watcher_any (b n c hb pb : Nat) (fc ft rc rt : Int) (tr gr : Bool) (w : World) (g0 : w.cell? ⟨b, 0, none⟩ = some (.int .u64 rc)) (g1 : w.cell? ⟨b, 1, none⟩ = some (.int .i64 rt))
    (g8 : w.cell? ⟨b, 8, none⟩ = some (.bool gr)) (h : w.cell? ⟨b, 11, none⟩ = some (.slice (some ⟨hb, 0, none⟩) n c))
    (hq : 0 < n → w.cell? ⟨hb, 0, none⟩ = some (.pointer (some ⟨pb, 0, none⟩)) ∧ w.cell? ⟨pb, 0, none⟩ = some (.int .u64 fc) ∧ w.cell? ⟨pb, 1, none⟩ = some (.int .i64 ft) ∧ w.cell? ⟨pb, 7, none⟩ = some (.bool tr)) :
    Calls Yba.prog 10 #[.pointer (some ⟨b, 0, none⟩)] w fun e w' => e = .returned (.pointer (wantA gr n fc ft rc rt tr b pb)) ∧ Below w.heap.size w w' := by
  cases gr
  · by_cases hn : n = 0
    · subst hn
      simp only [wantA, Bool.false_eq_true, if_false, true_or, if_true]
      exact watcher_alone b c _ rc rt w g0 g1 g8 h
    · obtain ⟨q0, q1, q2, q3⟩ := hq (by omega)
      by_cases hc : cmpR fc ft rc rt < 0
      · have := watcher_first b n c hb 0 pb 0 fc ft rc rt tr w (by omega) g0 g1 g8 h q0 q1 q2 q3 (decide_eq_true hc)
        cases tr
        · simpa [wantA, hn, hc] using this
        · simpa [wantA, hn, hc] using this
      · have := watcher_owner b n c hb 0 pb 0 fc ft rc rt w (by omega) g0 g1 g8 h q0 q1 q2 (decide_eq_false hc)
        simpa [wantA, hn, hc] using this
  · simp only [wantA, if_true]
    exact watcher_granted b w g8

theorem Yba.size63 : (Yba.prog.info? 63).map (·.size) = some 1 := by kernel_rfl

/-- A lock's cells. -/
def lockL (oc ot os : Int) (otr ogr : Bool) (tok sl la : Int) (B n : Nat) : List Value :=
  [.int .u64 oc, .int .i64 ot, .int .u64 0, .int .u64 0, .pointer none, .int .u16 0, .int .u64 os, .bool otr, .bool ogr, .int .i64 0, .int .u64 tok, .slice (some ⟨B, 0, none⟩) n n, .map none, .int .i64 sl, .int .i64 la]

/-- All that the law's tail reads. -/
structure Ready (B n Pt O L : Nat) (C T S : Nat → Int) (Tr Gr : Nat → Bool) (oc ot os : Int) (otr ogr : Bool) (tok sl la : Int) (w wx : World) : Prop where
  below : Below B w wx
  ptr : ∀ j, j < n → wx.cell? ⟨Pt, j, none⟩ = some (.pointer (some ⟨B + 4 + 3 * j, 0, none⟩))
  hp : ∀ j, j < n → wx.cell? ⟨B, j, none⟩ = some (.pointer (some ⟨B + 4 + 3 * j, 0, none⟩))
  val : ∀ j, j < n → wx.rangeAt (B + 1) (j * 10) (entL (C j) (T j) (S j) (Tr j) (Gr j) j)
  ent : ∀ j, j < n → wx.rangeAt (B + 4 + 3 * j) 0 (entL (C j) (T j) (S j) (Tr j) (Gr j) j)
  own : wx.rangeAt O 0 (entL oc ot os otr ogr 0)
  lock : wx.rangeAt L 0 (lockL oc ot os otr ogr tok sl la B n)

theorem rangeAt_later {w wx : World} {b o : Nat} {cs : List Value} (h : w.rangeAt b o cs) (hb : Below w.heap.size w wx) : wx.rangeAt b o cs := fun j v hv => cell_later hb (h j v hv)

theorem Ready.later {B n Pt O L : Nat} {C T S : Nat → Int} {Tr Gr : Nat → Bool} {oc ot os : Int} {otr ogr : Bool} {tok sl la : Int} {w wx wy : World} (h : Ready B n Pt O L C T S Tr Gr oc ot os otr ogr tok sl la w wx) (hB : B ≤ w.heap.size)
    (hb : Below wx.heap.size wx wy) : Ready B n Pt O L C T S Tr Gr oc ot os otr ogr tok sl la w wy :=
  ⟨h.below.trans (hb.mono (Nat.le_trans hB h.below.size)), fun j hj => cell_later hb (h.ptr j hj), fun j hj => cell_later hb (h.hp j hj), fun j hj => rangeAt_later (h.val j hj) hb, fun j hj => rangeAt_later (h.ent j hj) hb, rangeAt_later h.own hb, rangeAt_later h.lock hb⟩

theorem splice_full {α : Type} (Z X : List α) (h : Z.length = X.length) : splice Z 0 X = X := by
  simp [splice, h]

/-- Behind the copy, the owner and the lock: all is ready. -/
theorem ready_made {b off n : Nat} {C T S : Nat → Int} {Tr Gr : Nat → Bool} {w wr w5 : World} (oc ot os : Int) (otr ogr : Bool) (tok sl la : Int) (hB : Built w.heap.size b off n n C T S Tr Gr w wr) (Z : List Value) (hZ : Z.length = n)
    (hg : w5.heap[wr.heap.size]? = some (.cells (splice Z 0 (ptrL w.heap.size n)).toArray 63 (0, 0))) (hb : Below wr.heap.size wr w5) :
    Ready w.heap.size n wr.heap.size w5.heap.size (w5.heap.size + 1) C T S Tr Gr oc ot os otr ogr tok sl la w
      ((w5.alloc (.cells (entL oc ot os otr ogr 0).toArray 62)).alloc (.cells (lockL oc ot os otr ogr tok sl la w.heap.size n).toArray 69)) := by
  have hs := hB.size
  rw [splice_full _ _ (by rw [hZ, ptrL_len])] at hg
  have h5 : Below w5.heap.size w5 ((w5.alloc (.cells (entL oc ot os otr ogr 0).toArray 62)).alloc (.cells (lockL oc ot os otr ogr tok sl la w.heap.size n).toArray 69)) := by go_grown
  have hb5 : Below wr.heap.size wr ((w5.alloc (.cells (entL oc ot os otr ogr 0).toArray 62)).alloc (.cells (lockL oc ot os otr ogr tok sl la w.heap.size n).toArray 69)) := hb.trans (h5.mono hb.size)
  constructor
  · exact hB.below.trans (hb5.mono (by omega))
  · intro j hj
    refine cell_later h5 ?_
    simp only [World.cell?, hg]
    simp [ptrL, hj]
  · exact fun j hj => cell_later hb5 (hB.ptr j hj)
  · exact fun j hj => rangeAt_later (hB.val j hj) hb5
  · exact fun j hj => rangeAt_later (hB.ent j hj) hb5
  · exact World.rangeAt_alloc (rangeAt_new _ _ _) _
  · have := rangeAt_new (w5.alloc (.cells (entL oc ot os otr ogr 0).toArray 62)) (lockL oc ot os otr ogr tok sl la w.heap.size n) 69
    rwa [World.size_alloc] at this

theorem watcher_ready {B n Pt O L : Nat} {C T S : Nat → Int} {Tr Gr : Nat → Bool} {oc ot os : Int} {otr ogr : Bool} {tok sl la : Int} {w wx : World} (h : Ready B n Pt O L C T S Tr Gr oc ot os otr ogr tok sl la w wx) :
    Calls Yba.prog 10 #[.pointer (some ⟨L, 0, none⟩)] wx fun e w' => e = .returned (.pointer (wantA ogr n (C 0) (T 0) oc ot (Tr 0) L (B + 4))) ∧ Below wx.heap.size wx w' := by
  have l0 := h.lock 0 _ rfl
  have l1 := h.lock 1 _ rfl
  have l8 := h.lock 8 _ rfl
  have l11 := h.lock 11 _ rfl
  simp only [Nat.zero_add] at l0 l1 l8 l11
  refine watcher_any L n n B (B + 4) (C 0) (T 0) oc ot (Tr 0) ogr wx l0 l1 l8 l11 (fun hn => ?_)
  have e0 := h.ent 0 hn 0 _ rfl
  have e1 := h.ent 0 hn 1 _ rfl
  have e7 := h.ent 0 hn 7 _ rfl
  have p0 := h.hp 0 hn
  simp only [Nat.zero_add, Nat.mul_zero, Nat.add_zero] at e0 e1 e7 p0
  exact ⟨p0, e0, e1, e7⟩

theorem cmpR_lt (c1 t1 c2 t2 : Int) : cmpR c1 t1 c2 t2 < 0 ↔ t1 < t2 ∨ (t1 = t2 ∧ c1 < c2) := by
  unfold cmpR cmpI
  by_cases a : t1 < t2
  · simp [a]
  · by_cases b : t2 < t1
    · simp [a, b]; omega
    · have : t1 = t2 := by omega
      subst this
      by_cases c : c1 < c2
      · simp [c]
      · by_cases d : c2 < c1 <;> simp [c, d]

end Go.Proofs.Ybulkdrpg
