import Derived.Test.YbulkdrqiY2
import Derived.Deep.RegionHeld3
namespace Go.Proofs.Ybulkdrqi
open Go.RowKit Go.Conc

/-! ### atomic.Bool -/
def u1 (x : Bool) : Int := if x then 1 else 0

theorem b32_any (x : Bool) (w : World) : Calls Yba.prog 17 #[.bool x] w fun e w' => e = .returned (.int .u32 (u1 x)) ∧ w' = w := by
  cases x
  all_goals
    go_enter Yba.func17, Yba.ntmps17
    go_wp2
    go_ret
    exact ⟨rfl, rfl⟩

theorem bload (b o : Nat) (x : Bool) (w : World) (h : w.cell? ⟨b, o, none⟩ = some (.int .u32 (u1 x))) :
    Calls Yba.prog 11 #[.pointer (some ⟨b, o, none⟩)] w fun e w' => e = .returned (.bool x) ∧ w' = w := by
  have hl := run_call_load (P := Yba.prog) Yba.func21 (by kernel_rfl) (by kernel_rfl) (by kernel_rfl) .u32 (by kernel_rfl) h
  cases x
  all_goals
    simp only [u1, if_true, if_false, Bool.false_eq_true] at hl
    go_enter Yba.func11, Yba.ntmps11
    go_wp2
    go_ret
    exact ⟨rfl, rfl⟩

theorem run_call_swap {P : Program} {f : FuncId} {fn : Func} (hf : P.funcs[f]? = some fn) (hname : (fn.name == "runtime.NumGoroutine") = false) (hb : fn.body.isNone = true) (hn : Extern.findNext fn = none) (k : IntKind)
    (he : Extern.find fn = some (Extern.Atomic.swapT (.int k))) {a : Addr} {x y : Int} {w : World} (hc : w.cell? a = some (.int k x)) (hz : w.frozen? a = false) :
    (callFunc f #[.pointer (some a), .int k y]).run P w = .ok (.value (.int k x)) (w.setCell a (.int k y)) := by
  rw [run_callFunc_extern hf hname hb hn he]
  change (Sem.run P (do
    let a' ← asAddr (.pointer (some a))
    let old ← Extern.Atomic.read (.int k) a'
    store a' (.int k y) .atomic
    pure old) w).andThen _ = _
  simp [Extern.Atomic.read, asAddr, hc, hz, run_store P w a (.int k y) .atomic rfl, Result.andThen]

theorem bstore (b o : Nat) (y : Bool) (u : Value) (w : World) (h : w.cell? ⟨b, o, none⟩ = some u) (hf : w.frozen? ⟨b, o, none⟩ = false) :
    Calls Yba.prog 6 #[.pointer (some ⟨b, o, none⟩), .bool y] w fun e w' => e = .returned (.tuple #[]) ∧ w' = (w.setCell ⟨b, o, none⟩ (.int .u32 (u1 y))).drew := by
  have hl := run_call_store (P := Yba.prog) (w := w.drew) Yba.func16 (by kernel_rfl) (by kernel_rfl) (by kernel_rfl) (by kernel_rfl) (k := .u32) (y := u1 y) h hf
  go_enter Yba.func6, Yba.ntmps6
  go_region_held3 (fun _ => True) (trivial) (first | (go_at_call 17; refine (b32_any y _).mono ?_; rintro e w' ⟨rfl, rfl⟩))
  go_end0
  exact ⟨rfl, rfl⟩

theorem bswap (b o : Nat) (x y : Bool) (w : World) (h : w.cell? ⟨b, o, none⟩ = some (.int .u32 (u1 x))) (hf : w.frozen? ⟨b, o, none⟩ = false) :
    Calls Yba.prog 29 #[.pointer (some ⟨b, o, none⟩), .bool y] w fun e w' => e = .returned (.bool x) ∧ w' = (w.setCell ⟨b, o, none⟩ (.int .u32 (u1 y))).drew := by
  have hl := run_call_swap (P := Yba.prog) (w := w.drew) Yba.func38 (by kernel_rfl) (by kernel_rfl) (by kernel_rfl) .u32 (by kernel_rfl) (y := u1 y) h hf
  have hx : (u1 x != 0) = x := by cases x <;> rfl
  go_enter Yba.func29, Yba.ntmps29
  go_wp2_with fail
  go_region_held3 (fun _ => True) (trivial) (first | (go_at_call 17; refine (b32_any y _).mono ?_; rintro e w' ⟨rfl, rfl⟩))
  go_wp2_with fail
  go_ret
  exact ⟨rfl, rfl⟩

theorem bcas (b o : Nat) (x y : Bool) (w : World) (h : w.cell? ⟨b, o, none⟩ = some (.int .u32 (u1 x))) (hf : w.frozen? ⟨b, o, none⟩ = false) :
    Calls Yba.prog 30 #[.pointer (some ⟨b, o, none⟩), .bool x, .bool y] w fun e w' => e = .returned (.bool true) ∧ w' = (w.setCell ⟨b, o, none⟩ (.int .u32 (u1 y))).drew := by
  have hl := run_call_cas_hit (P := Yba.prog) (w := w.drew) Yba.func39 (by kernel_rfl) (by kernel_rfl) (by kernel_rfl) .u32 (by kernel_rfl) (y := u1 y) h hf
  go_enter Yba.func30, Yba.ntmps30
  go_wp2_with fail
  go_region_held3 (fun _ => True) (trivial) (first | (go_at_call 17; refine (b32_any x _).mono ?_; rintro e w' ⟨rfl, rfl⟩) | (go_at_call 17; refine (b32_any y _).mono ?_; rintro e w' ⟨rfl, rfl⟩))
  go_wp2_with fail
  go_ret
  exact ⟨rfl, rfl⟩
end Go.Proofs.Ybulkdrqi
