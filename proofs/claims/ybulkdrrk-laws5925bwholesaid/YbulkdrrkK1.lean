import Derived.Test.YbulkdrrkBase
namespace Go.Proofs.Ybulkdrrk
open Go.RowKit

/-! ### copy between slices whose elements have several cells -/
theorem run_copy_wide {P : Program} (w : World) (dT sT ty elem : TypeId) (sz b o dLen dCap : Nat) (a : Addr) (sLen sCap : Nat) (cs : List Value)
    (hu : P.underlying dT = some (.slice elem)) (hs : (P.info? elem).map (·.size) = some sz) (hn : cs.length = Nat.min sLen dLen * sz)
    (hsrc : ∀ j v, cs[j]? = some v → w.cell? (a.add j) = some v) (ht : w.there b o cs.length) (h1 : ∀ v ∈ cs, v.oneCell' = true) :
    (Builtin.copy_ #[dT, sT] ty #[.slice (some ⟨b, o, none⟩) dLen dCap, .slice (some a) sLen sCap]).run P w = .ok (goInt (Nat.min sLen dLen)) (w.setCells b o cs) := by
  have hl := run_loadCells_list (P := P) w a cs hsrc
  have hst := run_storeCells_cells (P := P) b o cs 0 w (by simpa using fun j hj => (ht j hj).1) (by simpa using fun j hj => (ht j hj).2) h1
  cases hq : P.info? elem with
  | none => simp [hq] at hs
  | some i =>
    have hi : i.size = sz := by simpa [hq] using hs
    simp [Builtin.copy_, run_underlying hu, Builtin.lenOf, Builtin.firstCells, sizeOf, typeInfo, hq, hi, ← hn, hl, hst]

theorem run_copy_zero {P : Program} (w : World) (dT sT ty elem : TypeId) (sz : Nat) (d a : Option Addr) (dLen dCap sLen sCap : Nat) (hu : P.underlying dT = some (.slice elem)) (hs : (P.info? elem).map (·.size) = some sz) (hn : Nat.min sLen dLen = 0) :
    (Builtin.copy_ #[dT, sT] ty #[.slice d dLen dCap, .slice a sLen sCap]).run P w = .ok (goInt (Nat.min sLen dLen)) w := by
  cases hq : P.info? elem with
  | none => simp [hq] at hs
  | some i =>
    have hl : ∀ (x : Addr), (loadCells x 0).run P w = .ok #[] w := fun x => by simpa using run_loadCells_list (P := P) w x [] (by simp)
    cases d <;> cases a <;> simp [Builtin.copy_, run_underlying hu, Builtin.lenOf, Builtin.firstCells, sizeOf, typeInfo, hq, hn, storeCells, hl]

theorem wpList_copy_wide {P : Program} {w : World} {ops : Array Oper} {rest : List Oper} {dd : Option Tmp} {tt : TypeId} {ps : String} {af : Array Edge} {a : Act} {Q : Exit → Act → World → Prop} (d s : Operand) (dT sT : TypeId)
    (elem : TypeId) (sz : Nat) (hu : P.underlying dT = some (.slice elem)) (hsz : (P.info? elem).map (·.size) = some sz)
    (dp sp : Option Addr) (dLen dCap sLen sCap b o : Nat) (cs : List Value) (hd : a.eval d = .slice dp dLen dCap) (hs : a.eval s = .slice sp sLen sCap)
    (hn : cs.length = Nat.min sLen dLen * sz) (hpos : 0 < Nat.min sLen dLen → dp = some ⟨b, o, none⟩ ∧ ∃ ad, sp = some ad ∧ ∀ j v, cs[j]? = some v → w.cell? (ad.add j) = some v)
    (ht : w.there b o cs.length) (h1 : ∀ v ∈ cs, v.oneCell' = true)
    (h : ∀ w', Hid (w' = w.setCells b o cs) → w'.heap.size = w.heap.size → wpList P ops Q rest (a.put dd (goInt (Nat.min sLen dLen))) w') :
    wpList P ops Q (⟨dd, .call { callee := .builtin .copy, args := #[d, s], argTypes := #[dT, sT] }, tt, ps, af, none⟩ :: rest) a w := by
  by_cases h0 : Nat.min sLen dLen = 0
  · have hcs : cs = [] := List.eq_nil_of_length_eq_zero (by rw [hn, h0, Nat.zero_mul])
    refine wpList_plain rfl fun K hK => ?_
    have hrun := run_copy_zero (P := P) w dT sT tt elem sz dp sp dLen dCap sLen sCap hu hsz h0
    unfold Oper.wp
    simp [execOp, resolve, invoke, builtin, hd, hs, hrun, Result.andThen]
    exact hK _ _ (h w (show _ = _ by rw [hcs]; rfl) rfl)
  · obtain ⟨rfl, ad, rfl, hsrc⟩ := hpos (by omega)
    refine wpList_plain rfl fun K hK => ?_
    have hrun := run_copy_wide (P := P) w dT sT tt elem sz b o dLen dCap ad sLen sCap cs hu hsz hn hsrc ht h1
    unfold Oper.wp
    simp [execOp, resolve, invoke, builtin, hd, hs, hrun, Result.andThen]
    exact hK _ _ (h _ rfl (size_setCells _ _ _ _))

/-! ### the strings -/
/-- The prefix that zzs5925bprefix answers. -/
def pfx (k : Nat) : ByteArray :=
  if k % 5 = 0 then ⟨#[114, 117, 110, 116, 105, 109, 101, 46]⟩ else if k % 5 = 1 then ⟨#[115, 121, 110, 99, 46]⟩ else if k % 5 = 2 then ⟨#[105, 110, 116, 101, 114, 110, 97, 108, 47]⟩
  else if k % 5 = 3 then ⟨#[109, 97, 105, 110, 46]⟩ else ⟨#[]⟩
theorem pfx_size (k : Nat) : (pfx k).size ≤ 9 := by
  unfold pfx; repeat (split; · decide)
  decide

set_option maxHeartbeats 400000 in
theorem prefix_any (k : Nat) (hk : k ≤ 255) (w : World) : Calls Yba.prog 4 #[.int .u8 (k : Int)] w fun e w' => e = .returned (.string (pfx k)) ∧ w' = w := by
  rcases (show k % 5 = 0 ∨ k % 5 = 1 ∨ k % 5 = 2 ∨ k % 5 = 3 ∨ k % 5 = 4 from by omega) with h | h | h | h | h
  all_goals
    have h0 : ((k : Int) % 5 == 0) = decide (k % 5 = 0) := by rw [h]; simp; omega
    have h1 : ((k : Int) % 5 == 1) = decide (k % 5 = 1) := by rw [h]; simp; omega
    have h2 : ((k : Int) % 5 == 2) = decide (k % 5 = 2) := by rw [h]; simp; omega
    have h3 : ((k : Int) % 5 == 3) = decide (k % 5 = 3) := by rw [h]; simp; omega
    rw [h] at h0 h1 h2 h3
    simp only [Nat.reduceEqDiff, decide_true, decide_false] at h0 h1 h2 h3
    have hp : pfx k = pfx k := rfl
    unfold pfx at hp
    have HP : Hid _ := h
    clear hp h
    go_enter Yba.func4, Yba.ntmps4
    go_wp2
    go_ret
    exact ⟨by simp [pfx, HP.out], rfl⟩
end Go.Proofs.Ybulkdrrk
