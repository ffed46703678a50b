import Derived.Test.YbulkdrqiY4
namespace Go.Proofs.Ybulkdrqi
open Go.RowKit Go.Conc
variable {w w' : World} {P : Nat} {v : PV}

set_option maxRecDepth 100000 in
theorem waited_any (b o : Nat) (u : Value) (w : World) (h : w.cell? ⟨b, o + 5, none⟩ = some u) (hf : w.frozen? ⟨b, o + 5, none⟩ = false) :
    Calls Yba.prog 26 #[.pointer (some ⟨b, o, none⟩)] w fun e w' => e = .returned (.tuple #[]) ∧ w' = w.setCell ⟨b, o + 5, none⟩ (.int .i64 0) := by
  go_enter Yba.func26, Yba.ntmps26
  go_wp2
  go_end0
  exact ⟨rfl, rfl⟩

theorem queued_none (b : Nat) (x : Int) (w : World) (h : w.cell? ⟨b, 66, none⟩ = some (.int .u64 x)) (h2 : w.cell? ⟨b, 131, none⟩ = some (.int .u64 x)) :
    Calls Yba.prog 28 #[.pointer (some ⟨b, 0, none⟩)] w fun e w' => e = .returned (.int .i64 0) ∧ w' = w := by
  go_enter Yba.func28, Yba.ntmps28
  go_wp2_with (first
    | (go_at_call 12; refine (load64 b 66 x _ h).mono ?_; rintro e w1 ⟨rfl, hw⟩; obtain rfl := hw.symm)
    | (go_at_call 12; refine (load64 b 131 x _ h2).mono ?_; rintro e w1 ⟨rfl, hw⟩; obtain rfl := hw.symm))
  go_ret
  exact ⟨by simp, rfl⟩

set_option maxRecDepth 100000 in
theorem rouse_none (b : Nat) (a : Option Addr) (n cap K : Nat) (u : Value) (w : World) (h : w.cell? ⟨b, 276, none⟩ = some (.slice a n cap)) (hn : n ≤ 1000000) (ha : 0 < n → a = some ⟨K, 0, none⟩) (hk : 0 < n → w.cell? ⟨K, 0, none⟩ = some u) :
    Calls Yba.prog 27 #[.pointer (some ⟨b, 0, none⟩), .int .i64 0] w fun e w' => e = .returned (.tuple #[]) ∧ w' = w := by
  have HA : Hid _ := ha
  have HK : Hid _ := hk
  clear ha hk
  go_enter Yba.func27, Yba.ntmps27
  go_wp2_with fail
  go_loopw [1, 11] (fun m i wr => m = .int .i64 0 ∧ i = .int .i64 0 ∧ wr = w) (fun _ _ _ => 0)
  case atStart => exact ⟨rfl, rfl, rfl⟩
  case round =>
    obtain ⟨rfl, rfl, hw⟩ := hrel
    obtain rfl := hw.symm
    by_cases hp : n = 0
    · subst hp
      go_wp2_with fail
      go_end0
      exact ⟨rfl, rfl⟩
    · obtain rfl := HA.out (by omega)
      have c0 := HK.out (by omega)
      have i1 : (0 : Int) < (n : Int) := by omega
      have i2 : decide ((0 : Int) < (n : Int)) = true := decide_eq_true i1
      go_wp2_with fail
      exact bodyPost_ret (results_none Yba.results27 _ _ _) rfl ⟨rfl, rfl⟩

theorem Touch.drewSet {Q C : Nat} {w w1 : World} (h : Touch Q C w w1) (o : Nat) (x : Value) : Touch Q C w (w1.setCell ⟨Q, o, none⟩ x).drew :=
  (h.trans (Touch.setQ _ o x)).trans (Touch.drew _)
theorem Touch.cell {Q C : Nat} {w w1 : World} (h : Touch Q C w w1) {b o : Nat} {x : Value} (hc : w.cell? ⟨b, o, none⟩ = some x) (h1 : b ≠ Q) (h2 : b ≠ C) : w1.cell? ⟨b, o, none⟩ = some x := by
  have := h.block b (block_lt_of_cell hc) h1 h2
  rw [← hc]; exact World.cell?_of_block this
theorem Touch.setChan {Q C : Nat} (w : World) (cap : Nat) (buf : Array Value) (cl : Bool) (s r : Nat) (tm : Bool) : Touch Q C w (w.setChan C cap buf cl s r tm) :=
  ⟨rfl, rfl, rfl, by simp [World.setChan], fun k _ _ h2 => by simp only [World.setChan]; rw [Array.getElem?_setIfInBounds_ne (fun e => h2 e.symm)]⟩

def n1 (x : Bool) : Nat := if x then 1 else 0
/-- The wake channel holds k tokens. -/
def Wk (w : World) (c : Nat) (tm : Bool) (k : Nat) : Prop := ∃ buf s r, w.heap[c]? = some (.chan 1 buf false s r tm) ∧ buf.size = k

set_option maxRecDepth 100000 in
set_option maxHeartbeats 4000000 in
/-- wait. -/
theorem wait_any (a : Option Addr) (n cap K : Nat) (u : Value) (x : Int) (s r : Nat) (tm : Bool) (h : Pp w P v) (hcr : v.crew = .slice a n cap) (hn : n ≤ 1000000) (ha : 0 < n → a = some ⟨K, 0, none⟩) (hk : 0 < n → w.cell? ⟨K, 0, none⟩ = some u) (hKP : K ≠ P) (hKw : K ≠ v.wake)
    (q1 : w.cell? ⟨v.QB, 66, none⟩ = some (.int .u64 x)) (q2 : w.cell? ⟨v.QB, 131, none⟩ = some (.int .u64 x)) (hQP : v.QB ≠ P) (hQw : v.QB ≠ v.wake) (hwk : w.heap[v.wake]? = some (.chan 1 #[.agg #[]] false s r tm)) (hwP : v.wake ≠ P) :
    Calls Yba.prog 19 #[.pointer (some ⟨P, 0, none⟩)] w fun e w' => e = .returned (.tuple #[]) ∧ Pp w' P { v with si := 0, wt := !(v.fl || v.us), us := v.us && v.fl } ∧ Touch P v.wake w w' ∧
      Wk w' v.wake tm (n1 (v.fl || v.us)) := by
  obtain ⟨done, wake, crew, fault, wt, rd, us, fl, col, yi, si, QB⟩ := v
  simp only at hcr hKw q1 q2 hQP hQw hwk hwP ⊢
  subst hcr
  have c287 := h.c287
  have f287 := h.free 287 (by omega)
  have H : Hid (Pp w P ⟨done, wake, .slice a n cap, fault, wt, rd, us, fl, col, yi, si, QB⟩) := h
  have HA : Hid _ := ha
  have HK : Hid _ := hk
  have HW : Hid (w.heap[wake]? = some (.chan 1 #[.agg #[]] false s r tm)) := hwk
  clear h ha hk hwk
  refine calls_of_wpN Yba.func19 rfl ?_
  simp only [Yba.ntmps19, List.size_toArray, List.length_cons, List.length_nil, Nat.reduceAdd, Nat.reduceSub, Array.replicate_succ, Array.replicate_zero, List.push_toArray, List.append_toArray, List.nil_append, List.cons_append]
  refine wpN_seq_wp ?_
  go_wp2_with (first
    | (go_at_call 26; refine (waited_any P 282 _ _ c287 f287).mono ?_; rintro e w1 ⟨rfl, rfl⟩))
  have H1 : Pp (w.setCell ⟨P, 287, none⟩ (.int .i64 0)) P ⟨done, wake, .slice a n cap, fault, wt, rd, us, fl, col, yi, 0, QB⟩ := H.out.setSi 0
  have T1 : Touch P wake w (w.setCell ⟨P, 287, none⟩ (.int .i64 0)) := Touch.setQ w 287 _
  have W1 : (w.setCell ⟨P, 287, none⟩ (.int .i64 0)).heap[wake]? = some (.chan 1 #[.agg #[]] false s r tm) := (Below.heap_setCell _ _ _ _ hwP).trans HW.out
  clear c287 f287 HW
  generalize w.setCell ⟨P, 287, none⟩ (.int .i64 0) = w1 at *
  have c73 := H1.c73
  have f73 := H1.free 73 (by omega)
  refine wpN_seq_wp ?_
  go_wp2_with (first
    | (go_at_call 6; refine (bstore P 73 true _ _ c73 f73).mono ?_; rintro e w2 ⟨rfl, rfl⟩))
  have H2 : Pp (w1.setCell ⟨P, 73, none⟩ (.int .u32 (u1 true))).drew P ⟨done, wake, .slice a n cap, fault, true, rd, us, fl, col, yi, 0, QB⟩ := (H1.setWt true).drew
  have T2 := T1.drewSet 73 (.int .u32 (u1 true))
  have W2 : (w1.setCell ⟨P, 73, none⟩ (.int .u32 (u1 true))).drew.heap[wake]? = some (.chan 1 #[.agg #[]] false s r tm) := (Below.heap_setCell _ _ _ _ hwP).trans W1
  clear c73 f73 H1 T1 W1
  generalize (w1.setCell ⟨P, 73, none⟩ (.int .u32 (u1 true))).drew = w2 at *
  have c5 := H2.c5
  have c276 := H2.c276
  have hq := queued_none QB x w2 (T2.cell q1 hQP hQw) (T2.cell q2 hQP hQw)
  have hro := rouse_none P a n cap K u w2 c276 hn HA.out (fun hp => T2.cell (HK.out hp) hKP hKw)
  simp only at c5 c276
  refine wpN_seq_wp ?_
  go_wp2_with (first
    | (go_at_call 28; refine hq.mono ?_; rintro e w3 ⟨rfl, hw⟩; obtain rfl := hw.symm)
    | (go_at_call 27; refine hro.mono ?_; rintro e w3 ⟨rfl, hw⟩; obtain rfl := hw.symm))
  clear c5 c276 hq hro H HA HK q1 q2
  have c206 := H2.c206
  have c140 := H2.c140
  have f140 := H2.free 140 (by omega)
  have c73 := H2.c73
  have f73 := H2.free 73 (by omega)
  simp only at c206 c140 c73
  cases fl with
  | true =>
    refine wpN_of_wp ?_
    go_wp2_with (first
      | (go_at_call 11; refine (bload P 206 true _ c206).mono ?_; rintro e w3 ⟨rfl, hw⟩; obtain rfl := hw.symm)
      | (go_at_call 30; refine (bcas P 73 true false _ c73 f73).mono ?_; rintro e w3 ⟨rfl, rfl⟩))
    refine bodyPost_ret (results_none Yba.results19 _ _ _) rfl ⟨rfl, ?_, T2.drewSet 73 _, ?_⟩
    · have := (H2.setWt false).drew
      simpa using this
    · exact ⟨#[.agg #[]], s, r, (Below.heap_setCell _ _ _ _ hwP).trans W2, by simp [n1]⟩
  | false =>
    cases us with
    | true =>
      refine wpN_of_wp ?_
      go_upto_region 4 with (first
        | (go_at_call 11; refine (bload P 206 false _ c206).mono ?_; rintro e w3 ⟨rfl, hw⟩; obtain rfl := hw.symm)
        | (go_at_call 11; refine (bload P 140 true _ c140).mono ?_; rintro e w3 ⟨rfl, hw⟩; obtain rfl := hw.symm)
        | (go_at_call 29; refine (bswap P 140 true false _ c140 f140).mono ?_; rintro e w3 ⟨rfl, rfl⟩))
      have H3 : Pp ((w2.setCell ⟨P, 140, none⟩ (.int .u32 (u1 false))).drew) P ⟨done, wake, .slice a n cap, fault, true, rd, false, false, col, yi, 0, QB⟩ := (H2.setUs false).drew
      have T3 := T2.drewSet 140 (.int .u32 (u1 false))
      have W3 : ((w2.setCell ⟨P, 140, none⟩ (.int .u32 (u1 false))).drew).heap[wake]? = some (.chan 1 #[.agg #[]] false s r tm) := (Below.heap_setCell _ _ _ _ hwP).trans W2
      clear c206 c140 f140 c73 f73 H2 T2 W2
      generalize (w2.setCell ⟨P, 140, none⟩ (.int .u32 (u1 false))).drew = w3 at *
      have c73 := H3.c73
      have f73 := H3.free 73 (by omega)
      simp only at c73
      go_wp2_with (first
        | (go_at_call 30; refine (bcas P 73 true false _ c73 f73).mono ?_; rintro e w4 ⟨rfl, rfl⟩))
      refine bodyPost_ret (results_none Yba.results19 _ _ _) rfl ⟨rfl, ?_, T3.drewSet 73 _, ?_⟩
      · have := (H3.setWt false).drew
        simpa using this
      · exact ⟨#[.agg #[]], s, r, (Below.heap_setCell _ _ _ _ hwP).trans W3, by simp [n1]⟩
    | false =>
      refine wpN_seq_wp ?_
      go_wp2_with (first
        | (go_at_call 11; refine (bload P 206 false _ c206).mono ?_; rintro e w3 ⟨rfl, hw⟩; obtain rfl := hw.symm)
        | (go_at_call 11; refine (bload P 140 false _ c140).mono ?_; rintro e w3 ⟨rfl, hw⟩; obtain rfl := hw.symm))
      have c209 := H2.c209
      simp only at c209
      refine wpN_region ?_
      refine Rg.op (i := 0) (rest := [1, 2, 3, 4]) (v := .pointer (some ⟨P, 0, none⟩)) (w' := w2) rfl rfl ?_ ?_
      · simp [go_sem, execOp, Act.eval]
      refine Rg.op (i := 1) (rest := [2, 3, 4]) (v := .pointer (some ⟨P, 0, none⟩)) (w' := w2) rfl rfl ?_ ?_
      · simp [go_sem, execOp, Act.eval, Act.put]
      refine Rg.op (i := 2) (rest := [3, 4]) (v := .pointer (some ⟨P, 209, none⟩)) (w' := w2) rfl rfl ?_ ?_
      · simp [go_sem, execOp, Act.eval, Act.put]
      refine Rg.op (i := 3) (rest := [4]) (v := .chan (some wake)) (w' := w2) rfl rfl ?_ ?_
      · simp [go_sem, execOp, Act.eval, Act.put, c209]
      refine Rg.recv (i := 4) (rest := []) (c := wake) (z := .agg #[]) rfl rfl ?_ W2 (by simp) (Rg.nil ?_)
      · simp [go_sem, execOp, Act.eval, Act.put, rcase]
      go_frame
      go_end0
      refine ⟨rfl, ?_, T2.trans (Touch.setChan w2 _ _ _ _ _ _), ?_⟩
      · refine H2.same ?_
        simp only [World.setChan]
        rw [Array.getElem?_setIfInBounds_ne (fun e => hwP e)]
      · exact ⟨_, _, _, heap_setChan w2 wake _ _ _ _ _ _ (Array.getElem?_eq_some_iff.1 W2).1, by simp [n1]⟩
end Go.Proofs.Ybulkdrqi
