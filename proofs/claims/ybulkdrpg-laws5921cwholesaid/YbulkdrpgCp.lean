import Derived.Test.YbulkdrpgC3
import Derived.ProofKit
import Derived.OpenShut
import Derived.Deep.Slices
namespace Go.Proofs.Ybulkdrpg
open Go.ChangeShapes Go.WideShapes Go.ChangeAt Go.RowKit Go.Deep

theorem Yba.own : ownKnob Yba.prog.godebug = none := by kernel_rfl
theorem Yba.laidOut : laidOutB Yba.prog = true := by kernel_rfl
theorem Yba.cells48 : Yba.prog.cellsOf 48 = 5 := by kernel_rfl
theorem Yba.cells23 : Yba.prog.cellsOf 23 = 1 := by kernel_rfl
theorem Yba.cells2 : Yba.prog.cellsOf 2 = 1 := by kernel_rfl
theorem Yba.cells4 : Yba.prog.cellsOf 4 = 1 := by kernel_rfl

theorem list5 {α : Type} {l : List α} (h : l.length = 5) : ∃ a b c d e, l = [a, b, c, d, e] := by
  match l, h with
  | [a, b, c, d, e], _ => exact ⟨a, b, c, d, e, rfl⟩

/-- One queued element's cells. -/
theorem open_ent {H : Type} {enc : TypeId × Value → H} {W : World} {fuel : Nat} {cs : List Value} {x : DataW H × List MemPlace} (h : DataW.trod enc Yba.prog W 0 (fun _ => true) true fuel 48 cs = some x) :
    ∃ (c t s : Int) (tr gr : Bool), cs = [.int .u64 c, .int .i64 t, .bool tr, .bool gr, .int .u64 s] := by
  obtain ⟨xs, n, _, rfl, hl, hlen, hf⟩ := DataW.trod_struct Yba.underlying48 h
  rw [Yba.cells48] at hl
  obtain ⟨a0, a1, a2, a3, a4, rfl⟩ := list5 hl
  obtain ⟨y0, y1, y2, y3, y4, rfl⟩ := list5 hlen
  have h0 := hf 0 _ rfl
  have h1 := hf 1 _ rfl
  have h2 := hf 2 _ rfl
  have h3 := hf 3 _ rfl
  have h4 := hf 4 _ rfl
  simp [Yba.cells23, Yba.cells2, Yba.cells4] at h0 h1 h2 h3 h4
  obtain ⟨c, e0, _, _⟩ := DataW.trod_int Yba.underlying23 h0
  obtain ⟨t, e1, _, _⟩ := DataW.trod_int Yba.underlying2 h1
  obtain ⟨tr, e2, _⟩ := DataW.trod_bool Yba.underlying4 h2
  obtain ⟨gr, e3, _⟩ := DataW.trod_bool Yba.underlying4 h3
  obtain ⟨s, e4, _, _⟩ := DataW.trod_int Yba.underlying23 h4
  simp at e0 e1 e2 e3 e4
  subst e0 e1 e2 e3 e4
  exact ⟨c, t, s, tr, gr, rfl⟩

theorem rangeAt_of_cells {W : World} {b off n : Nat} {cs : List Value} (h : W.cells? 0 ⟨b, off, none⟩ n = some cs) : W.rangeAt b off cs := fun j v hv => by
  obtain ⟨_, hl, hc⟩ := World.cells?_some h
  have hj : j < cs.length := (List.getElem?_eq_some_iff.1 hv).1
  have := hc j (by omega)
  rw [Addr.add_mid] at this
  rw [this]; exact hv

theorem len_le {H : Type} {enc : TypeId × Value → H} {W : World} {fuel : Nat} {a0 : Option Addr} {len cap : Nat} {x : DataW H × List MemPlace} (h : DataW.trod enc Yba.prog W 0 (fun _ => true) true fuel 43 [.slice a0 len cap] = some x) : len ≤ maxLen := by
  rcases open_slice Yba.underlying43 h with ⟨hcs, _⟩ | ⟨a, l, c, m, n, D, Pl, hcs, _, hl, hm, hmm, _, hx⟩
  · simp at hcs; omega
  · simp at hcs; omega

/-- The queued elements as the walk wants them. -/
theorem open_queue {H : Type} {enc : TypeId × Value → H} {W : World} {fuel : Nat} {a0 : Option Addr} {len cap : Nat} {x : DataW H × List MemPlace} (h : DataW.trod enc Yba.prog W 0 (fun _ => true) true fuel 43 [.slice a0 len cap] = some x) :
    ∃ (b off : Nat) (C T S : Nat → Int) (Tr Gr : Nat → Bool), (0 < len → a0 = some ⟨b, off, none⟩) ∧
      ∀ j, j < len → W.rangeAt b (off + j * 5) [.int .u64 (C j), .int .i64 (T j), .bool (Tr j), .bool (Gr j), .int .u64 (S j)] := by
  rcases open_slice Yba.underlying43 h with ⟨hcs, _⟩ | ⟨a, l, c, m, n, D, Pl, hcs, _, hl, hm, hmm, _, hx⟩
  · simp at hcs
    obtain ⟨rfl, rfl, rfl⟩ := hcs
    exact ⟨0, 0, fun _ => 0, fun _ => 0, fun _ => 0, fun _ => false, fun _ => false, fun h => absurd h (by omega), fun j h => absurd h (by omega)⟩
  · simp at hcs
    obtain ⟨rfl, rfl, rfl⟩ := hcs
    simp at hmm
    rw [Yba.cells48] at hx
    by_cases h0 : len = 0
    · subst h0
      exact ⟨0, 0, fun _ => 0, fun _ => 0, fun _ => 0, fun _ => false, fun _ => false, fun h => absurd h (by omega), fun j h => absurd h (by omega)⟩
    obtain ⟨b, off, spot⟩ := a
    obtain ⟨cs0, hc0, _⟩ := hx 0 (by omega)
    have hspot : spot = none := by
      obtain ⟨_, hl0, hcell⟩ := World.cells?_some hc0
      have hc := hcell 0 (by omega)
      have hcs0 : (0 : Nat) < cs0.length := by omega
      rw [List.getElem?_eq_getElem hcs0] at hc
      simpa [Addr.add] using World.cell?_spot hc
    subst hspot
    obtain ⟨f, hf⟩ := choose_lt (α := Int × Int × Int × Bool × Bool) (n := len) (p := fun j y => W.rangeAt b (off + j * 5) [.int .u64 y.1, .int .i64 y.2.1, .bool y.2.2.2.1, .bool y.2.2.2.2, .int .u64 y.2.2.1]) (fun j hj => by
      obtain ⟨cs, hc, ht⟩ := hx j (by omega)
      obtain ⟨c', t', s', tr', gr', rfl⟩ := open_ent ht
      rw [Addr.add_mid] at hc
      exact ⟨(c', t', s', tr', gr'), rangeAt_of_cells hc⟩)
    exact ⟨b, off, fun j => (f j).1, fun j => (f j).2.1, fun j => (f j).2.2.1, fun j => (f j).2.2.2.1, fun j => (f j).2.2.2.2, fun _ => rfl, hf⟩

set_option maxHeartbeats 400000 in
set_option maxRecDepth 100000 in
theorem lawC_big (oc ot os : Int) (otr ogr : Bool) (a0 : Option Addr) (n cap : Nat) (tok sl la : Int) (w : World) (hn : 1048576 < n) (hm : n ≤ maxLen) :
    Calls Yba.prog 4 #[.int .u64 oc, .int .i64 ot, .bool otr, .bool ogr, .int .u64 os, .slice a0 n cap, .int .u64 tok, .int .i64 sl, .int .i64 la] w fun e w' => e = .returned (.bool true) ∧ Below w.heap.size w w' := by
  unfold maxLen at hm
  have hd : decide ((1048576 : Int) < (n : Int)) = true := decide_eq_true (by omega)
  go_enter Yba.func4, Yba.ntmps4
  go_wp2_with fail
  go_ret
  exact ⟨rfl, Below.refl _ _⟩

set_option maxRecDepth 100000 in
theorem lawC_lifted (os : Os) (started : os.Started) (H : Type) (enc : TypeId × Value → H) :
    ReturnsInHanded {} Yba.checked os 4 .any (Rows.lawS5921CWholeSpec.pre6 enc Yba.prog Yba.f4 Rows.lawS5921CWholeRow.domain false) (Rows.lawS5921CWholeSpec.post enc Yba.prog Yba.f4 false true false false) := by
  refine returnsInHanded_of_change (C := Yba.checked) Yba.own started (by kernel_rfl) Yba.func4
    (ChangeSpec.witness6 (enc := enc) (C := Yba.checked) false ⟨#[], #[.int .u64 0, .int .i64 0, .bool false, .bool false, .int .u64 0, .slice none 0 0, .int .u64 0, .int .i64 0, .int .i64 0], []⟩ 8 (by kernel_rfl) (by kernel_rfl) (by kernel_rfl) (by kernel_rfl)) ?_
  intro W base args ds gs before hval0 hW hcnd _
  have hval : ∀ (j : Nat) t v, Yba.f4.params[j]? = some t → args[j]? = some v → Value.okWide Yba.prog W .any base t v := hval0
  have hW' := hW
  obtain ⟨p, q, hA0, hV, rfl, hfz, hnd⟩ := hW
  have hA : DataW.TrodAll enc Yba.prog W 0 (fun _ => true) true Yba.f4.params.toList args.toList ds p := hA0
  rw [Yba.params4] at hA hval
  obtain ⟨v0, vs0, d0, ds0, p0, q0, hargs, rfl, rfl, h0, r0⟩ := trodAll_cons hA
  obtain ⟨v1, vs1, d1, ds1, p1, q1, rfl, rfl, rfl, h1, r1⟩ := trodAll_cons r0
  obtain ⟨v2, vs2, d2, ds2, p2, q2, rfl, rfl, rfl, h2, r2⟩ := trodAll_cons r1
  obtain ⟨v3, vs3, d3, ds3, p3, q3, rfl, rfl, rfl, h3, r3⟩ := trodAll_cons r2
  obtain ⟨v4, vs4, d4, ds4, p4, q4, rfl, rfl, rfl, h4, r4⟩ := trodAll_cons r3
  obtain ⟨v5, vs5, d5, ds5, p5, q5, rfl, rfl, rfl, h5, r5⟩ := trodAll_cons r4
  obtain ⟨v6, vs6, d6, ds6, p6, q6, rfl, rfl, rfl, h6, r6⟩ := trodAll_cons r5
  obtain ⟨v7, vs7, d7, ds7, p7, q7, rfl, rfl, rfl, h7, r7⟩ := trodAll_cons r6
  obtain ⟨v8, vs8, d8, ds8, p8, q8, rfl, rfl, rfl, h8, r8⟩ := trodAll_cons r7
  obtain ⟨rfl, rfl, rfl⟩ := trodAll_nil r8
  obtain rfl : args = #[v0, v1, v2, v3, v4, v5, v6, v7, v8] := by cases args; simp_all
  obtain ⟨rfl, rfl⟩ := trodVars_none hV
  obtain ⟨a0, rfl, rfl, rfl, w0⟩ := open_int Yba.underlying23 (hval 0 23 v0 rfl rfl) h0
  obtain ⟨a1, rfl, rfl, rfl, w1⟩ := open_int Yba.underlying2 (hval 1 2 v1 rfl rfl) h1
  obtain ⟨a2, rfl, rfl, rfl⟩ := open_bool Yba.underlying4 (hval 2 4 v2 rfl rfl) h2
  obtain ⟨a3, rfl, rfl, rfl⟩ := open_bool Yba.underlying4 (hval 3 4 v3 rfl rfl) h3
  obtain ⟨a4, rfl, rfl, rfl, w4⟩ := open_int Yba.underlying23 (hval 4 23 v4 rfl rfl) h4
  obtain ⟨a5, len5, cap5, rfl⟩ := okWide_slice Yba.underlying43 (hval 5 43 v5 rfl rfl)
  have k5 := h5
  have lt5 : ∀ x ∈ p5, x.block < W.heap.size := by obtain ⟨m, hm⟩ := k5; exact DataW.trod_lt m _ _ _ hm
  obtain ⟨a6, rfl, rfl, rfl, w6⟩ := open_int Yba.underlying23 (hval 6 23 v6 rfl rfl) h6
  obtain ⟨a7, rfl, rfl, rfl, w7⟩ := open_int Yba.underlying3 (hval 7 3 v7 rfl rfl) h7
  obtain ⟨a8, rfl, rfl, rfl, w8⟩ := open_int Yba.underlying2 (hval 8 2 v8 rfl rfl) h8
  clear hA0 hval0
  obtain ⟨fuel, hf⟩ := h5
  have hwalk : Calls Yba.prog 4 #[.int .u64 a0, .int .i64 a1, .bool a2, .bool a3, .int .u64 a4, .slice a5 len5 cap5, .int .u64 a6, .int .i64 a7, .int .i64 a8] W fun e w' => e = .returned (.bool true) ∧ Below W.heap.size W w' := by
    by_cases hl : 1048576 < len5
    · exact lawC_big a0 a1 a4 a2 a3 a5 len5 cap5 a6 a7 a8 W hl (len_le (by simpa [Value.cells] using hf))
    · obtain ⟨b, off, C, T, S, Tr, Gr, e0, eq⟩ := open_queue (by simpa [Value.cells] using hf)
      exact lawC a0 a1 a4 a2 a3 a5 len5 cap5 b off a6 a7 a8 C T S Tr Gr W (by omega) e0 eq
  refine hwalk.mono fun e W' ⟨he, bel⟩ => ?_
  subst he
  exact ⟨_, rfl, _, _, _, [], _, [], hW', trodAll_mk1 (shut_bool Yba.underlying4 _), (trodAll_cons_mk (shut_int Yba.underlying23 w0) (trodAll_cons_mk (shut_int Yba.underlying2 w1) (trodAll_cons_mk (shut_bool Yba.underlying4 _) (trodAll_cons_mk (shut_bool Yba.underlying4 _) (trodAll_cons_mk (shut_int Yba.underlying23 w4)
    (trodAll_cons_mk (Below.trod Yba.laidOut (by kernel_rfl) (of_decide_eq_true (by kernel_rfl)) k5 bel lt5) (trodAll_cons_mk (shut_int Yba.underlying23 w6) (trodAll_cons_mk (shut_int Yba.underlying3 w7) (trodAll_cons_mk (shut_int Yba.underlying2 w8) trodAll_mk0))))))))), rfl, bel.frame _, fun h => by cases h⟩

theorem lawS5921CWhole_holds : Rows.LawS5921CWholeSaid :=
  OpenClaim.holds_of_wide 4 Yba.f4 rfl rfl rfl rfl rfl rfl rfl ⟨rfl, rfl, rfl, rfl, rfl⟩ rfl rfl rfl rfl rfl (by kernel_rfl) Yba.func4 (by kernel_rfl)
    (of_decide_eq_true (by kernel_rfl)) (by unfold Func.isWrapper; first | (rw [if_pos (by decide +kernel)]; kernel_rfl) | (rw [if_neg (by decide +kernel)]; exact ⟨rfl, rfl⟩))
    (fun os started H enc _ => lawC_lifted os started H enc)

end Go.Proofs.Ybulkdrpg
