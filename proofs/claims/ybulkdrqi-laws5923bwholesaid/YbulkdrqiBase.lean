import Derived.Test.YbulkdrqiRows
import Derived.WalkKit
import Derived.WalkSpells
import Derived.WalkLawsBesides
import Derived.Deep.QuietTactic
import Derived.BigQuiet
import Derived.Handy
import Derived.Deep.RegionHeld3
import Derived.Deep.OwnRows
import Derived.Deep.MidRow
import Derived.Laws.CopyOwn
import Derived.Deep.DeepCutAuto
import Derived.Deep.DeepMust
import Derived.LaidEqlPtr
import Derived.Laws.LoneSync
import Derived.ArgAppend
import Derived.Laws.Pointers
namespace Go.Proofs.Ybulkdrqi
open Go.RowKit

theorem ret_int {k : IntKind} {a b : Int} (h : a = b) : Ending.returned (.int k a) = .returned (.int k b) := by rw [h]

/-- 'make([]T, n)', whatever T's cells. -/
theorem run_make_any {P : Program} (t e : TypeId) (z : Value) (size bytes : Nat) (ht : P.underlying t = some (.slice e)) (hinfo : (P.info? e).map (fun i => (i.zero, i.size, i.bytes)) = some (some z, size, bytes))
    (kl kc : IntKind) (n : Nat) (hbytes : bytes * n ≤ 281474976710656) (h63 : n ≤ 9223372036854775807) (w : World) :
    (Instr.makeSlice t (.int kl (n : Int)) (.int kc (n : Int))).run P w = .ok (.slice (some ⟨w.heap.size, 0, none⟩) n n) (w.alloc (.cells (madeCells z.cells (n * size)) e)) := by
  obtain ⟨i, hi, hzz⟩ := Option.map_eq_some_iff.1 hinfo
  simp only [Prod.mk.injEq] at hzz
  obtain ⟨hz, hs, hb⟩ := hzz
  have hb' : (i.bytes : Int) * (n : Int) ≤ 281474976710656 := by
    have h : ((i.bytes * n : Nat) : Int) ≤ 281474976710656 := by rw [hb]; omega
    rwa [Int.natCast_mul] at h
  have hr := run_make (P := P) w t e i z ht hi hz kl kc n n (by omega) (Int.le_refl _) hb' (by omega)
  simp only [Int.toNat_natCast, hs] at hr
  exact hr

theorem size_setCells (b : Nat) : ∀ (vs : List Value) (o : Nat) (w : World), (w.setCells b o vs).heap.size = w.heap.size
  | [], _, _ => rfl
  | v :: r, o, w => by rw [World.setCells, size_setCells b r (o + 1)]; simp [World.setCell]

theorem block_setCells (b k : Nat) (h : k ≠ b) : ∀ (vs : List Value) (o : Nat) (w : World), (w.setCells b o vs).heap[k]? = w.heap[k]?
  | [], _, _ => rfl
  | v :: r, o, w => by rw [World.setCells, block_setCells b k h r (o + 1), Below.heap_setCell _ _ _ _ h]

theorem os_setCells (b : Nat) : ∀ (vs : List Value) (o : Nat) (w : World), (w.setCells b o vs).os = w.os ∧ (w.setCells b o vs).tape = w.tape ∧ (w.setCells b o vs).output = w.output
  | [], _, _ => ⟨rfl, rfl, rfl⟩
  | v :: r, o, w => by rw [World.setCells]; exact os_setCells b r (o + 1) _

theorem below_setCells {B b o : Nat} {w0 w : World} (hb : Below B w0 w) (hBb : B ≤ b) (vs : List Value) : Below B w0 (w.setCells b o vs) :=
  have h := os_setCells b vs o w
  hb.trans ⟨h.1, h.2.1, h.2.2, by rw [size_setCells]; exact Nat.le_refl _, fun k hk => block_setCells b k (by omega) vs o w⟩

/-- A whole struct stored into the midst of a block: the world behind it under a name. (The operation stands written out in the conclusion: 'with_reducible refine' then fails fast where it does not fit.) -/
theorem wpList_store_hid {P : Program} {ops : Array Oper} {rest : List Oper} {d : Option Tmp} {tt : TypeId} {ps : String} {af : Array Edge} {a : Act} {w : World} {Q : Exit → Act → World → Prop} (ty : TypeId) (x y : Operand)
    (b o : Nat) (cells : Array Value) (N : Nat) (hx : a.eval x = .pointer (some ⟨b, o, none⟩)) (hy : a.eval y = .agg cells)
    (ht : w.there b o N) (hi : (P.info? ty).map (·.size) = some N) (hN : cells.size = N) (h1 : cells.all (·.oneCell') = true)
    (h : ∀ w', Hid (w' = w.setCells b o cells.toList) → w'.heap.size = w.heap.size → wpList P ops Q rest (a.put d undef) w') : wpList P ops Q (⟨d, .store ty x y, tt, ps, af, none⟩ :: rest) a w :=
  wpList_store_mid rfl ty x y rfl b o cells hx hy (by rw [hN]; exact ht) (by rw [hN]; exact hi) h1 (h _ rfl (size_setCells _ _ _ _))

/-- A whole struct loaded out of the midst of a block. -/
theorem wpList_load_lit {P : Program} {ops : Array Oper} {rest : List Oper} {d : Option Tmp} {tt : TypeId} {ps : String} {af : Array Edge} {a : Act} {w : World} {Q : Exit → Act → World → Prop} (ty : TypeId) (x : Operand)
    (b o : Nat) (cs : List Value) (D : TypeDesc) (N : Nat) (hx : a.eval x = .pointer (some ⟨b, o, none⟩)) (hc : w.rangeAt b o cs)
    (hu : P.underlying ty = some D) (hd : D.isRow = true) (hi : (P.info? ty).map (·.size) = some N) (hN : cs.length = N)
    (h : wpList P ops Q rest (a.put d (.agg cs.toArray)) w) : wpList P ops Q (⟨d, .load ty x, tt, ps, af, none⟩ :: rest) a w :=
  wpList_load_mid rfl ty x rfl b o hx cs D hc hu hd (by rw [hN]; exact hi) h

/-- Cells that were just laid lie there. -/
theorem rangeAt_new (w : World) (cs : List Value) (t : TypeId) : (w.alloc (.cells cs.toArray t)).rangeAt w.heap.size 0 cs := fun j v hv => by
  simpa using hv

/-- What lies where it lies, in a world whose block is the same. -/
theorem rangeAt_block {w w' : World} {b o : Nat} {cs : List Value} (h : w.rangeAt b o cs) (e : w'.heap[b]? = w.heap[b]?) : w'.rangeAt b o cs := fun j v hv => by
  rw [World.cell?_of_block (w := w) e]; exact h j v hv
theorem there_block {w w' : World} {b o n : Nat} (h : w.there b o n) (e : w'.heap[b]? = w.heap[b]?) : w'.there b o n := fun j hj => by
  rw [World.cell?_of_block (w := w) e, World.frozen?_of_block (w := w) e]; exact h j hj

theorem there_made (w : World) (z : Array Value) (m : Nat) (t : TypeId) : (w.alloc (.cells (madeCells z m) t)).there w.heap.size 0 m := fun j hj => by
  have hj' : j < (madeCells z m).size := by rw [size_madeCells]; exact hj
  refine ⟨?_, by simp⟩
  rw [World.cell?_alloc_at _ _ _ _ rfl, Nat.zero_add, Array.getElem?_eq_getElem hj']
  rfl

/-- copy into a row of the call's own, laid just now: the operation written out. -/
theorem wpList_copy_lit {P : Program} {w : World} {ops : Array Oper} {rest : List Oper} {dd : Option Tmp} {tt : TypeId} {ps : String} {af : Array Edge} {a : Act} {Q : Exit → Act → World → Prop} (d s : Operand) (dT sT : TypeId)
    (elem : TypeId) (hu : P.underlying dT = some (.slice elem)) (hsz : (P.info? elem).map (·.size) = some 1)
    (dp sp : Option Addr) (dLen dCap sLen sCap : Nat) (hd : a.eval d = .slice dp dLen dCap) (hs : a.eval s = .slice sp sLen sCap)
    (g off : Nat) (cur : List Value) (t : TypeId) (hg : w.heap[g]? = some (.cells cur.toArray t (0, 0))) (cs : List Value) (hn : cs.length = Nat.min sLen dLen)
    (hpos : 0 < cs.length → dp = some ⟨g, off, none⟩ ∧ ∃ ad, sp = some ad ∧ ∀ j v, cs[j]? = some v → w.cell? (ad.add j) = some v)
    (hfit : off + cs.length ≤ cur.length) (h1 : ∀ v ∈ cs, v.oneCell' = true) (B : Nat) (w0 : World) (hb : Below B w0 w) (hBg : B ≤ g)
    (h : ∀ w', Hid (w'.heap[g]? = some (.cells (splice cur off cs).toArray t (0, 0))) → Below B w0 w' → wpList P ops Q rest (a.put dd (goInt cs.length)) w') :
    wpList P ops Q (⟨dd, .call { callee := .builtin .copy, args := #[d, s], argTypes := #[dT, sT] }, tt, ps, af, none⟩ :: rest) a w :=
  wpList_copy_splice rfl d s dT sT rfl elem hu hsz dp sp dLen dCap sLen sCap hd hs g off cur t hg cs hn hpos hfit h1 B w0 hb hBg h

theorem rangeAt_later {w wx : World} {b o : Nat} {cs : List Value} (h : w.rangeAt b o cs) (hb : Below w.heap.size w wx) : wx.rangeAt b o cs := fun j v hv => cell_later hb (h j v hv)

theorem splice_full {α : Type} (Z X : List α) (h : Z.length = X.length) : splice Z 0 X = X := by
  simp [splice, h]

theorem run_neq_ptr_same {P : Program} (w : World) {tp te : TypeId} {j : TypeInfo} (x : Option Addr) (hp : P.underlying tp = some (.pointer te)) (hte : P.info? te = some j) :
    (binOp .neq tp (.pointer x) (.pointer x)).run P w = .ok (.bool false) w := by
  have h : ∀ d : Nat, (Op.equalIn (d + 1) tp (.pointer x) (.pointer x)).run P w = .ok true w := fun d => by
    cases x with
    | none => simp [Op.equalIn, run_underlying hp]
    | some a => simp [Op.equalIn, run_underlying hp, sizeOf, typeInfo, hte, run_sameAddr_same]
  simp only [binOp]
  simp [Op.equal, Op.maxDepth, h 9999]

theorem rangeAt_of_cells {W : World} {b off n : Nat} {cs : List Value} (h : W.cells? 0 ⟨b, off, none⟩ n = some cs) : W.rangeAt b off cs := fun j v hv => by
  obtain ⟨_, hl, hc⟩ := World.cells?_some h
  have hj : j < cs.length := (List.getElem?_eq_some_iff.1 hv).1
  have := hc j (by omega)
  rw [Addr.add_mid] at this
  rw [this]; exact hv

end Go.Proofs.Ybulkdrqi
