import Derived.Test.YbulkdrpgRows
import Derived.WalkKit
import Derived.WalkSpells
import Derived.WalkLawsBesides
import Derived.Deep.QuietTactic
import Derived.BigQuiet
import Derived.Handy
import Derived.Deep.RegionHeld3
namespace Go.Proofs.Ybulkdrpg
open Go.RowKit

theorem ret_int {k : IntKind} {a b : Int} (h : a = b) : Ending.returned (.int k a) = .returned (.int k b) := by rw [h]

/-- cmp.Compare on two numbers. -/
def cmpI (x y : Int) : Int := if x < y then -1 else if y < x then 1 else 0

set_option maxHeartbeats 400000 in
theorem cmp64 (x y : Int) (w : World) :
    Calls Yba.prog 33 #[.int .i64 x, .int .i64 y] w fun e w' => e = .returned (.int .i64 (cmpI x y)) ∧ w' = w := by
  go_enter Yba.func33, Yba.ntmps33
  go_wp2
  all_goals (go_ret; exact ⟨ret_int (by unfold cmpI; split <;> (try split) <;> omega), rfl⟩)

set_option maxHeartbeats 400000 in
theorem cmpU64 (x y : Int) (w : World) :
    Calls Yba.prog 34 #[.int .u64 x, .int .u64 y] w fun e w' => e = .returned (.int .i64 (cmpI x y)) ∧ w' = w := by
  go_enter Yba.func34, Yba.ntmps34
  go_wp2
  all_goals (go_ret; exact ⟨ret_int (by unfold cmpI; split <;> (try split) <;> omega), rfl⟩)

/-- Request.Compare: -1, 0 or 1. -/
def cmpR (c1 t1 c2 t2 : Int) : Int := if cmpI t1 t2 = 0 then cmpI c1 c2 else cmpI t1 t2

set_option maxHeartbeats 400000 in
theorem compare_any (c1 t1 c2 t2 : Int) (w : World) :
    Calls Yba.prog 29 #[.agg #[.int .u64 c1, .int .i64 t1], .agg #[.int .u64 c2, .int .i64 t2]] w fun e w' => e = .returned (.int .i64 (cmpR c1 t1 c2 t2)) ∧
      ∃ a b : Array Value, w' = (w.alloc (.cells a 50)).alloc (.cells b 50) := by
  go_enter Yba.func29, Yba.ntmps29
  go_wp2_with (first | (go_at_call 33; refine (cmp64 _ _ _).mono ?_; rintro e w' ⟨rfl, rfl⟩) | (go_at_call 34; refine (cmpU64 _ _ _).mono ?_; rintro e w' ⟨rfl, rfl⟩))
  · go_ret
    rename_i hne
    exact ⟨ret_int (by unfold cmpR; rw [if_neg (by simpa using hne)]), _, _, rfl⟩
  · go_ret
    rename_i he
    exact ⟨ret_int (by unfold cmpR; rw [if_pos (by simpa using he)]), _, _, rfl⟩

/-- (*queue).first: nothing waits. -/
theorem first_none (b o c : Nat) (a : Option Addr) (w : World) (h : w.cell? ⟨b, o, none⟩ = some (.slice a 0 c)) :
    Calls Yba.prog 28 #[.pointer (some ⟨b, o, none⟩)] w fun e w' => e = .returned (.pointer none) ∧ w' = w := by
  go_enter Yba.func28, Yba.ntmps28
  go_wp2
  go_ret
  exact ⟨rfl, rfl⟩

/-- (*queue).first: the first slot. -/
theorem first_some (b o n c hb ho : Nat) (v : Option Addr) (w : World) (hn : 0 < n) (h : w.cell? ⟨b, o, none⟩ = some (.slice (some ⟨hb, ho, none⟩) n c))
    (h2 : w.cell? ⟨hb, ho, none⟩ = some (.pointer v)) :
    Calls Yba.prog 28 #[.pointer (some ⟨b, o, none⟩)] w fun e w' => e = .returned (.pointer v) ∧ w' = w := by
  have hn0 : ((n : Int) == 0) = false := by simp; omega
  go_enter Yba.func28, Yba.ntmps28
  go_wp2
  go_ret
  exact ⟨rfl, rfl⟩

/-- (*lock).earlier: nothing waits. -/
theorem earlier_none (b c : Nat) (a : Option Addr) (rc rt : Int) (w : World) (h : w.cell? ⟨b, 11, none⟩ = some (.slice a 0 c)) :
    Calls Yba.prog 22 #[.pointer (some ⟨b, 0, none⟩), .agg #[.int .u64 rc, .int .i64 rt]] w fun e w' => e = .returned (.bool false) ∧ Below w.heap.size w w' := by
  go_enter Yba.func22, Yba.ntmps22
  go_wp2_with (go_at_call 28; refine (first_none _ _ c a _ ?_).mono ?_; exact cell_later (by go_grown) h; rintro e w' ⟨rfl, rfl⟩)
  go_quiet (fail)
  go_wp2
  go_ret
  exact ⟨rfl, below_drewN (by go_grown) _⟩

/-- (*lock).earlier: the first slot is asked. -/
theorem earlier_some (b n c hb ho pb po : Nat) (fc ft rc rt : Int) (w : World) (hn : 0 < n) (h : w.cell? ⟨b, 11, none⟩ = some (.slice (some ⟨hb, ho, none⟩) n c))
    (h2 : w.cell? ⟨hb, ho, none⟩ = some (.pointer (some ⟨pb, po, none⟩))) (k0 : w.cell? ⟨pb, po, none⟩ = some (.int .u64 fc)) (k1 : w.cell? ⟨pb, po + 1, none⟩ = some (.int .i64 ft)) :
    Calls Yba.prog 22 #[.pointer (some ⟨b, 0, none⟩), .agg #[.int .u64 rc, .int .i64 rt]] w fun e w' => e = .returned (.bool (decide (cmpR fc ft rc rt < 0))) ∧ Below w.heap.size w w' := by
  have hlt : pb < w.heap.size := block_lt_of_cell k0
  go_enter Yba.func22, Yba.ntmps22
  go_wp2_with (go_at_call 28; refine (first_some _ _ n c hb ho (some ⟨pb, po, none⟩) _ hn ?_ ?_).mono ?_; exact cell_later (by go_grown) h; exact cell_later (by go_grown) h2; rintro e w' ⟨rfl, rfl⟩)
  go_region_held3 (fun w' => w'.cell? ⟨pb, po, none⟩ = some (.int .u64 fc) ∧ w'.cell? ⟨pb, po + 1, none⟩ = some (.int .i64 ft) ∧ w'.cell? ⟨w.heap.size, 0, none⟩ = some (.int .u64 rc) ∧ w'.cell? ⟨w.heap.size, 1, none⟩ = some (.int .i64 rt)) (refine ⟨cell_later (w := w) (by go_grown) k0, cell_later (w := w) (by go_grown) k1, ?_, ?_⟩ <;> simp [go_sem, World.cell?_alloc_past])
    (first | (go_at_call 29; refine (compare_any fc ft rc rt _).mono ?_; rintro e w' ⟨rfl, o1, o2, rfl⟩))
  go_wp2
  go_ret
  exact ⟨rfl, by go_grown⟩

/-- (*lock).tryAhead where the first slot is earlier than the owner: it, if it is a try's, else nil. -/
theorem tryAhead_some (b n c hb ho pb po : Nat) (fc ft rc rt : Int) (tr : Bool) (w : World) (hn : 0 < n) (g0 : w.cell? ⟨b, 0, none⟩ = some (.int .u64 rc)) (g1 : w.cell? ⟨b, 1, none⟩ = some (.int .i64 rt))
    (h : w.cell? ⟨b, 11, none⟩ = some (.slice (some ⟨hb, ho, none⟩) n c))
    (h2 : w.cell? ⟨hb, ho, none⟩ = some (.pointer (some ⟨pb, po, none⟩))) (k0 : w.cell? ⟨pb, po, none⟩ = some (.int .u64 fc)) (k1 : w.cell? ⟨pb, po + 1, none⟩ = some (.int .i64 ft))
    (k7 : w.cell? ⟨pb, po + 7, none⟩ = some (.bool tr)) (hc : decide (cmpR fc ft rc rt < 0) = true) :
    Calls Yba.prog 23 #[.pointer (some ⟨b, 0, none⟩)] w fun e w' => e = .returned (if tr then .pointer (some ⟨pb, po, none⟩) else .pointer none) ∧ Below w.heap.size w w' := by
  cases tr <;> simp only [if_true, if_false, Bool.false_eq_true]
  all_goals
    go_enter Yba.func23, Yba.ntmps23
    go_wp2_with fail
    refine (first_some _ _ n c hb ho (some ⟨pb, po, none⟩) _ hn h h2).mono ?_
    rintro e w' ⟨rfl, rfl⟩
    go_wp2_with fail
    refine (earlier_some b n c hb ho pb po fc ft rc rt _ hn h h2 k0 k1).mono ?_
    rintro e w' ⟨rfl, hbel⟩
    rw [hc]
    have k7' := cell_later hbel k7
    go_wp2
    go_ret
    exact ⟨rfl, hbel⟩

/-- (*lock).watcher: the owner is granted. -/
theorem watcher_granted (b : Nat) (w : World) (g8 : w.cell? ⟨b, 8, none⟩ = some (.bool true)) :
    Calls Yba.prog 10 #[.pointer (some ⟨b, 0, none⟩)] w fun e w' => e = .returned (.pointer none) ∧ Below w.heap.size w w' := by
  go_enter Yba.func10, Yba.ntmps10
  go_wp2
  go_ret
  exact ⟨rfl, by go_grown⟩

/-- (*lock).watcher: nothing waits. -/
theorem watcher_alone (b c : Nat) (a : Option Addr) (rc rt : Int) (w : World) (g0 : w.cell? ⟨b, 0, none⟩ = some (.int .u64 rc)) (g1 : w.cell? ⟨b, 1, none⟩ = some (.int .i64 rt))
    (g8 : w.cell? ⟨b, 8, none⟩ = some (.bool false)) (h : w.cell? ⟨b, 11, none⟩ = some (.slice a 0 c)) :
    Calls Yba.prog 10 #[.pointer (some ⟨b, 0, none⟩)] w fun e w' => e = .returned (.pointer (some ⟨b, 0, none⟩)) ∧ Below w.heap.size w w' := by
  go_enter Yba.func10, Yba.ntmps10
  go_wp2_with fail
  refine (earlier_none b c a rc rt _ h).mono ?_
  rintro e w' ⟨rfl, hbel⟩
  go_wp2
  go_ret
  exact ⟨rfl, hbel⟩

/-- (*lock).watcher: the first slot is not earlier than the owner. -/
theorem watcher_owner (b n c hb ho pb po : Nat) (fc ft rc rt : Int) (w : World) (hn : 0 < n) (g0 : w.cell? ⟨b, 0, none⟩ = some (.int .u64 rc)) (g1 : w.cell? ⟨b, 1, none⟩ = some (.int .i64 rt))
    (g8 : w.cell? ⟨b, 8, none⟩ = some (.bool false)) (h : w.cell? ⟨b, 11, none⟩ = some (.slice (some ⟨hb, ho, none⟩) n c))
    (h2 : w.cell? ⟨hb, ho, none⟩ = some (.pointer (some ⟨pb, po, none⟩))) (k0 : w.cell? ⟨pb, po, none⟩ = some (.int .u64 fc)) (k1 : w.cell? ⟨pb, po + 1, none⟩ = some (.int .i64 ft))
    (hc : decide (cmpR fc ft rc rt < 0) = false) :
    Calls Yba.prog 10 #[.pointer (some ⟨b, 0, none⟩)] w fun e w' => e = .returned (.pointer (some ⟨b, 0, none⟩)) ∧ Below w.heap.size w w' := by
  go_enter Yba.func10, Yba.ntmps10
  go_wp2_with fail
  refine (earlier_some b n c hb ho pb po fc ft rc rt _ hn h h2 k0 k1).mono ?_
  rintro e w' ⟨rfl, hbel⟩
  rw [hc]
  go_wp2
  go_ret
  exact ⟨rfl, hbel⟩

/-- (*lock).watcher: the first slot is earlier than the owner. -/
theorem watcher_first (b n c hb ho pb po : Nat) (fc ft rc rt : Int) (tr : Bool) (w : World) (hn : 0 < n) (g0 : w.cell? ⟨b, 0, none⟩ = some (.int .u64 rc)) (g1 : w.cell? ⟨b, 1, none⟩ = some (.int .i64 rt))
    (g8 : w.cell? ⟨b, 8, none⟩ = some (.bool false)) (h : w.cell? ⟨b, 11, none⟩ = some (.slice (some ⟨hb, ho, none⟩) n c))
    (h2 : w.cell? ⟨hb, ho, none⟩ = some (.pointer (some ⟨pb, po, none⟩))) (k0 : w.cell? ⟨pb, po, none⟩ = some (.int .u64 fc)) (k1 : w.cell? ⟨pb, po + 1, none⟩ = some (.int .i64 ft))
    (k7 : w.cell? ⟨pb, po + 7, none⟩ = some (.bool tr)) (hc : decide (cmpR fc ft rc rt < 0) = true) :
    Calls Yba.prog 10 #[.pointer (some ⟨b, 0, none⟩)] w fun e w' => e = .returned (if tr then .pointer (some ⟨pb, po, none⟩) else .pointer none) ∧ Below w.heap.size w w' := by
  go_enter Yba.func10, Yba.ntmps10
  go_wp2_with fail
  refine (earlier_some b n c hb ho pb po fc ft rc rt _ hn h h2 k0 k1).mono ?_
  rintro e w' ⟨rfl, hbel⟩
  rw [hc]
  go_wp2_with fail
  refine (tryAhead_some b n c hb ho pb po fc ft rc rt tr _ hn (cell_later hbel g0) (cell_later hbel g1) (cell_later hbel h) (cell_later hbel h2) (cell_later hbel k0) (cell_later hbel k1) (cell_later hbel k7) hc).mono ?_
  rintro e w'' ⟨rfl, hbel2⟩
  cases tr
  all_goals
    go_wp2
    go_ret
    exact ⟨rfl, hbel.trans (hbel2.mono hbel.size)⟩
end Go.Proofs.Ybulkdrpg
