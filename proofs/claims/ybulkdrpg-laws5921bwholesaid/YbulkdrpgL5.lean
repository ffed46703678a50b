import Derived.Test.YbulkdrpgL4
import Derived.Maps.OwnSet
import Derived.Maps.StringElems
import Derived.Maps.Views
namespace Go.Proofs.Ybulkdrpg
open Go.RowKit Go.Maps Go.WideMaps Go.WideElems

/-! ### the two kinds of map -/
def kS (s : ByteArray) : Lit := .string s.data.toList
theorem kS_inj {s t : ByteArray} (h : kS s = kS t) : s = t := by
  simp only [kS, Lit.string.injEq] at h
  cases s; cases t
  simp only [ByteArray.mk.injEq]
  exact Array.toList_inj.1 h
def kI (c : Int) : Lit := .int .u64 c
theorem kI_inj {a b : Int} (h : kI a = kI b) : a = b := by simpa [kI] using h

/-- How a pointer to a client reads. -/
def ptrElem : Value → Option (DataW Nat × List MemPlace)
  | .pointer none => some (.nil, [])
  | .pointer (some a) => if a.off = 0 ∧ a.spot = none then some (.held a.block, []) else none
  | _ => none
theorem ptrElem_mk (b : Nat) : ptrElem (pt b) = some (.held b, []) := by simp [ptrElem]
theorem ptrElem_nil : ptrElem np = some (.nil, []) := rfl
theorem ptrElem_held {v : Value} {b : Nat} {ps : List MemPlace} (h : ptrElem v = some (.held b, ps)) : v = pt b := by
  unfold ptrElem at h
  split at h
  · simp at h
  · rename_i a
    split at h
    · rename_i ha
      simp at h
      obtain ⟨ab, ao, asp⟩ := a
      simp at ha h
      obtain ⟨rfl, rfl⟩ := ha
      rw [h.1]
    · cases h
  · cases h
theorem ptrElem_none {v : Value} {ps : List MemPlace} (h : ptrElem v = some (.nil, ps)) : v = np := by
  unfold ptrElem at h
  split at h
  · rfl
  · split at h <;> simp at h
  · cases h

theorem law9 : Keyed Yba.prog 9 := string_keyed Yba.underlying9
theorem law23 : Keyed Yba.prog 23 := int_keyed Yba.underlying23
theorem key9 {s : ByteArray} (h : s.size ≤ maxLen) : keyOf Yba.prog 9 (.string s) = some (kS s) := keyOf_string_mk Yba.underlying9 h
theorem key23 {c : Int} (h : (Lit.int .u64 c).wf = true) : keyOf Yba.prog 23 (.int .u64 c) = some (kI c) := keyOf_int_mk Yba.underlying23 h
theorem isKey9 (s : ByteArray) : WideAt.IsKeyLit (kS s) := trivial
theorem isKey23 (c : Int) : WideAt.IsKeyLit (kI c) := trivial
theorem zero72 (w : World) : (zeroValue 72).run Yba.prog w = .ok np w := by kernel_rfl
theorem zero88 (w : World) : (zeroValue 88).run Yba.prog w = .ok (.agg #[]) w := by kernel_rfl

abbrev OL (w : World) (b n : Nat) (D : DataW Unit) : Prop := w.ownsMap Yba.prog 9 (unitElem (H := Unit)) b n D
abbrev OB (w : World) (b n : Nat) (D : DataW Nat) : Prop := w.ownsMap Yba.prog 23 ptrElem b n D

theorem own_tight {H : Type} {P : Program} {k : TypeId} {R : Value → Option (DataW H × List MemPlace)} {w : World} {b n : Nat} {D : DataW H} (h : w.ownsMap P k R b n D) : w.ownsMap P k R b (Maps.size D) D := by
  obtain ⟨es, clock, hb, F, _, rfl⟩ := h
  exact ⟨es, clock, hb, F, by simp [Maps.size, length_sorted], rfl⟩
theorem own_same {H : Type} {P : Program} {k : TypeId} {R : Value → Option (DataW H × List MemPlace)} {w w' : World} {b n : Nat} {D : DataW H} (h : w.ownsMap P k R b n D) (e : w'.heap[b]? = w.heap[b]?) : w'.ownsMap P k R b n D := by
  obtain ⟨es, clock, hb, r⟩ := h
  exact ⟨es, clock, e.trans hb, r⟩
theorem own_lt {H : Type} {P : Program} {k : TypeId} {R : Value → Option (DataW H × List MemPlace)} {w : World} {b n : Nat} {D : DataW H} (h : w.ownsMap P k R b n D) : b < w.heap.size := h.lt
theorem only_grown {S : Nat → Prop} {w w' : World} {b : Nat} (h : w.grownBy w' (some b)) (hb : S b) : Only S w w' :=
  ⟨h.os, h.tape, h.output, h.size, fun k hk a => h.block k hk (fun e => a (by cases e; exact hb))⟩

theorem look_known {w : World} {b n : Nat} {D : DataW Nat} {c : Int} {R : Nat} (h : OB w b n D) (hw : (Lit.int .u64 c).wf = true) (ha : D.atKey (kI c) .nil = .held R) :
    (Instr.lookup 24 (.map (some b)) (.int .u64 c) false).run Yba.prog w = .ok (pt R) w := by
  obtain ⟨v, ps, hrun, hv⟩ := h.lookup law23 Yba.underlying24 (zero72 w) ptrElem_nil (key23 hw)
  rw [ha] at hv
  rw [hrun, ptrElem_held hv]
theorem look_unknown {w : World} {b n : Nat} {D : DataW Nat} {c : Int} (h : OB w b n D) (hw : (Lit.int .u64 c).wf = true) (ha : D.atKey (kI c) .nil = .nil) :
    (Instr.lookup 24 (.map (some b)) (.int .u64 c) false).run Yba.prog w = .ok np w := by
  obtain ⟨v, ps, hrun, hv⟩ := h.lookup law23 Yba.underlying24 (zero72 w) ptrElem_nil (key23 hw)
  rw [ha] at hv
  rw [hrun, ptrElem_none hv]
theorem look_nil {w : World} {c : Int} (hw : (Lit.int .u64 c).wf = true) : (Instr.lookup 24 (.map none) (.int .u64 c) false).run Yba.prog w = .ok np w := by
  have := Maps.look_nil (w := w) false law23 Yba.underlying24 (zero72 w) (key23 hw)
  simpa using this
theorem look_name {w : World} {b n : Nat} {D : DataW Unit} {s : ByteArray} (h : OL w b n D) (hs : s.size ≤ maxLen) :
    (Instr.lookup 76 (.map (some b)) (.string s) true).run Yba.prog w = .ok (.tuple #[.agg #[], .bool (Maps.has D (kS s))]) w := by
  obtain ⟨v, ps, hrun, hv⟩ := h.look_ok law9 Yba.underlying76 (zero88 w) unitElem_mk (key9 hs)
  rw [hrun, (unitElem_inv hv).1]
end Go.Proofs.Ybulkdrpg
