import Derived.Test.YbulkdrtaBase
import Derived.Maps.OwnSet
import Derived.Maps.StringElems
namespace Go.Proofs.Ybulkdrta
open Go.RowKit Go.Maps Go.WideMaps Go.WideElems

/-- A string as a map's key, as an element. -/
def kS (s : ByteArray) : Lit := .string s.data.toList
def dS (s : ByteArray) : DataW Unit := .lit (.string s.data.toList)
theorem dS_inj {s t : ByteArray} (h : dS s = dS t) : s = t := by
  simp only [dS, DataW.lit.injEq, Lit.string.injEq] at h
  cases s; cases t
  simp only [ByteArray.mk.injEq]
  exact Array.toList_inj.1 h
theorem kS_inj {s t : ByteArray} (h : kS s = kS t) : s = t := by
  simp only [kS, Lit.string.injEq] at h
  cases s; cases t
  simp only [ByteArray.mk.injEq]
  exact Array.toList_inj.1 h

theorem law9 : Keyed Yba.prog 9 := string_keyed Yba.underlying9
theorem zero9 (w : World) : (zeroValue 9).run Yba.prog w = .ok (.string ByteArray.empty) w := by kernel_rfl
theorem key9 {s : ByteArray} (h : s.size ≤ maxLen) : keyOf Yba.prog 9 (.string s) = some (kS s) := keyOf_string_mk Yba.underlying9 h
theorem isKey9 (s : ByteArray) : WideAt.IsKeyLit (kS s) := trivial

/-- Block b holds a map[string]string of at most n entries that reads as D. -/
abbrev OM (w : World) (b n : Nat) (D : DataW Unit) : Prop := w.ownsMap Yba.prog 9 (plainElem (H := Unit) Yba.prog 9) b n D

theorem run_makeMap_hint (n : Nat) (w : World) : (Instr.makeMap 36 (some (.int .i64 (n : Int)))).run Yba.prog w = .ok (.map (some w.heap.size)) (w.alloc (.map #[] 0)) := by
  simp [Instr.makeMap, run_underlying Yba.underlying36, asInt, asIntOf, newObj, go_sem]
  rfl

theorem lookS {w : World} {b n : Nat} {D : DataW Unit} (h : OM w b n D) {key : ByteArray} (hk : key.size ≤ maxLen) :
    ∃ s : ByteArray, s.size ≤ maxLen ∧ dS s = D.atKey (kS key) (dS ByteArray.empty) ∧ (Instr.lookup 36 (.map (some b)) (.string key) false).run Yba.prog w = .ok (.string s) w := by
  obtain ⟨v, ps, hrun, hv⟩ := h.lookup law9 Yba.underlying36 (zero9 w) (plainElem_string Yba.underlying9 (by decide)) (key9 hk)
  obtain ⟨s, rfl, hs, hl⟩ := plainElem_string_inv Yba.underlying9 hv
  simp only [Prod.mk.injEq] at hs
  exact ⟨s, hl, hs.1.symm, hrun⟩
theorem lookOk {w : World} {b n : Nat} {D : DataW Unit} (h : OM w b n D) {key : ByteArray} (hk : key.size ≤ maxLen) :
    ∃ s : ByteArray, s.size ≤ maxLen ∧ dS s = D.atKey (kS key) (dS ByteArray.empty) ∧ (Instr.lookup 36 (.map (some b)) (.string key) true).run Yba.prog w = .ok (.tuple #[.string s, .bool (Maps.has D (kS key))]) w := by
  obtain ⟨v, ps, hrun, hv⟩ := h.look_ok law9 Yba.underlying36 (zero9 w) (plainElem_string Yba.underlying9 (by decide)) (key9 hk)
  obtain ⟨s, rfl, hs, hl⟩ := plainElem_string_inv Yba.underlying9 hv
  simp only [Prod.mk.injEq] at hs
  exact ⟨s, hl, hs.1.symm, hrun⟩

/-- 'm[k] = v', the operation written out. -/
theorem wpList_put_lit {w : World} {ops : Array Oper} {rest : List Oper} {dd : Option Tmp} {tt : TypeId} {pos : String} {af : Array Edge} {a : Act} {Q : Exit → Act → World → Prop} (m x v : Operand) (b n : Nat) (D : DataW Unit) (key val : ByteArray)
    (hm : a.eval m = .map (some b)) (hx : a.eval x = .string key) (hv : a.eval v = .string val) (hown : OM w b n D) (hn : n < maxLen) (hk : key.size ≤ maxLen) (hl : val.size ≤ maxLen)
    (h : ∀ w', OM w' b (n + 1) (D.put (kS key) (dS val)) → w.grownBy w' (some b) → wpList Yba.prog ops Q rest (a.put dd undef) w') :
    wpList Yba.prog ops Q (⟨dd, .mapUpdate 36 m x v, tt, pos, af, none⟩ :: rest) a w :=
  wpList_mapUpdate_own w rfl m x v 36 rfl 9 9 law9 Yba.underlying36 _ b n D hm hown hn _ _ (kS key) hx hv (key9 hk) (dS val) [] (plainElem_string Yba.underlying9 hl) h
theorem wpList_len_lit {w : World} {ops : Array Oper} {rest : List Oper} {dd : Option Tmp} {tt : TypeId} {pos : String} {af : Array Edge} {a : Act} {Q : Exit → Act → World → Prop} (m : Operand) (b n : Nat) (D : DataW Unit)
    (hm : a.eval m = .map (some b)) (hown : OM w b n D) (h : wpList Yba.prog ops Q rest (a.put dd (.int .i64 (Maps.size D))) w) :
    wpList Yba.prog ops Q (⟨dd, .call { callee := .builtin .len, args := #[m], argTypes := #[36] }, tt, pos, af, none⟩ :: rest) a w :=
  wpList_len_own w rfl m 36 rfl 9 9 Yba.underlying36 _ b n D hm hown h

/-- addFirst where the key is there. -/
theorem addFirst_has {b n : Nat} {D : DataW Unit} (key val : ByteArray) (w : World) (hown : OM w b n D) (hk : key.size ≤ maxLen) (hh : Maps.has D (kS key) = true) :
    Calls Yba.prog 6 #[.map (some b), .string key, .string val] w fun e w' => e = .returned (.tuple #[]) ∧ w' = w := by
  obtain ⟨s, _, _, hrun⟩ := lookOk hown hk
  rw [hh] at hrun
  go_enter Yba.func6, Yba.ntmps6
  go_wp2_with fail
  go_end0
  exact ⟨rfl, rfl⟩
/-- addFirst where the key is not there. -/
theorem addFirst_new {b n : Nat} {D : DataW Unit} (key val : ByteArray) (w : World) (hown : OM w b n D) (hk : key.size ≤ maxLen) (hv : val.size ≤ maxLen) (hn : n < maxLen) (hh : Maps.has D (kS key) = false) :
    Calls Yba.prog 6 #[.map (some b), .string key, .string val] w fun e w' => e = .returned (.tuple #[]) ∧ OM w' b (n + 1) (D.put (kS key) (dS val)) ∧ w.grownBy w' (some b) := by
  obtain ⟨s, _, _, hrun⟩ := lookOk hown hk
  rw [hh] at hrun
  go_enter Yba.func6, Yba.ntmps6
  go_wp2_with ((with_reducible refine wpList_put_lit (.tmp 16) (.tmp 17) (.tmp 18) b n D key val ?_ ?_ ?_ hown hn hk hv ?_); simp [Act.eval]; simp [Act.eval]; simp [Act.eval]; intro w1 h1 h2)
  go_end0
  exact ⟨rfl, h1, h2⟩

/-- What addFirst makes of a map. -/
def addD (D : DataW Unit) (key val : ByteArray) : DataW Unit := if Maps.has D (kS key) then D else D.put (kS key) (dS val)
theorem addFirst_any {b n : Nat} {D : DataW Unit} (key val : ByteArray) (w : World) (hown : OM w b n D) (hk : key.size ≤ maxLen) (hv : val.size ≤ maxLen) (hn : n < maxLen) :
    Calls Yba.prog 6 #[.map (some b), .string key, .string val] w fun e w' => e = .returned (.tuple #[]) ∧ OM w' b (n + 1) (addD D key val) ∧ w.grownBy w' (some b) := by
  cases hh : Maps.has D (kS key)
  · refine (addFirst_new key val w hown hk hv hn hh).mono fun e w' ⟨h1, h2, h3⟩ => ⟨h1, ?_, h3⟩
    simpa [addD, hh] using h2
  · refine (addFirst_has key val w hown hk hh).mono fun e w' ⟨h1, h2⟩ => ?_
    subst h2
    refine ⟨h1, ?_, World.grownBy.refl _ _⟩
    simpa [addD, hh] using hown.mono (Nat.le_succ _)
theorem addD_other {D : DataW Unit} {key val k' : ByteArray} (h : k' ≠ key) (z : DataW Unit) : (addD D key val).atKey (kS k') z = D.atKey (kS k') z := by
  unfold addD
  split
  · rfl
  · exact atKey_put_other (fun e => h (kS_inj e)) _ _
theorem addD_has {D : DataW Unit} {key val k' : ByteArray} (h : k' ≠ key) : Maps.has (addD D key val) (kS k') = Maps.has D (kS k') := by
  unfold addD
  split
  · rfl
  · exact has_put_other (fun e => h (kS_inj e)) _

/-- What both maps read as after k rounds. -/
def Dm (K V : Nat → ByteArray) : Nat → DataW Unit
  | 0 => .map []
  | k + 1 => (Dm K V k).put (kS (K k)) (dS (V k))
theorem Dm_isMap (K V : Nat → ByteArray) : ∀ k, IsMap (Dm K V k)
  | 0 => isMap_empty
  | k + 1 => (Dm_isMap K V k).put _ _
theorem Dm_tidy (K V : Nat → ByteArray) : ∀ k, Tidy (Dm K V k)
  | 0 => tidy_empty
  | k + 1 => (Dm_tidy K V k).put (isKey9 _) _
theorem Dm_has (K V : Nat → ByteArray) : ∀ k j, j < k → Maps.has (Dm K V k) (kS (K j)) = true
  | 0, j, h => absurd h (by omega)
  | k + 1, j, h => by
    simp only [Dm]
    by_cases e : kS (K j) = kS (K k)
    · rw [e]; exact has_put_same (Dm_isMap K V k) (isKey9 _) _
    · rw [has_put_other e]
      refine Dm_has K V k j ?_
      by_cases e2 : j = k
      · subst e2; exact absurd rfl e
      · omega
end Go.Proofs.Ybulkdrta
