import Derived.Test.YbulkdrrkK5
import Derived.ProofKit
import Derived.OpenShut
import Derived.SizedLaws
import Derived.Lib.SmallJoins
import Derived.Deep.Slices
namespace Go.Proofs.Ybulkdrrk
open Go.ChangeShapes Go.WideShapes Go.ChangeAt Go.RowKit Go.Deep Go.Joins
open Go.ChangeMaps (open_string shut_string)

theorem Yba.own : ownKnob Yba.prog.godebug = none := by kernel_rfl
theorem Yba.laidOut : laidOutB Yba.prog = true := by kernel_rfl
theorem Yba.cells25 : Yba.prog.cellsOf 25 = 4 := by kernel_rfl
theorem Yba.cells9 : Yba.prog.cellsOf 9 = 1 := by kernel_rfl
theorem Yba.cells3 : Yba.prog.cellsOf 3 = 1 := by kernel_rfl
theorem Yba.cells5 : Yba.prog.cellsOf 5 = 1 := by kernel_rfl

theorem list4 {α : Type} {l : List α} (h : l.length = 4) : ∃ a b c d, l = [a, b, c, d] := by
  match l, h with
  | [a, b, c, d], _ => exact ⟨a, b, c, d, rfl⟩
theorem byte_of_wf {x : Int} (h : (Lit.int .u8 x).wf = true) : ∃ k : Nat, x = k ∧ k ≤ 255 := by
  simp [Lit.wf, IntKind.min, IntKind.max, IntKind.signed, IntKind.bits] at h
  exact ⟨x.toNat, by omega, by omega⟩

/-- One element: its cells and what it reads as. -/
theorem open_zz {H : Type} {enc : TypeId × Value → H} {W : World} {fuel : Nat} {cs : List Value} {x : DataW H × List MemPlace} (h : DataW.trod enc Yba.prog W 0 (fun _ => true) true fuel 25 cs = some x) :
    ∃ (k : Nat) (n f : ByteArray) (l : Int), cs = zzL k n f l ∧ k ≤ 255 ∧ x.1 = .agg [.lit (.int .u8 (k : Int)), .lit (.string n.data.toList), .lit (.string f.data.toList), .lit (.int .i64 l)] := by
  obtain ⟨xs, n, _, rfl, hl, hlen, hf⟩ := DataW.trod_struct Yba.underlying25 h
  rw [Yba.cells25] at hl
  obtain ⟨a0, a1, a2, a3, rfl⟩ := list4 hl
  obtain ⟨y0, y1, y2, y3, rfl⟩ := list4 hlen
  have h0 := hf 0 _ rfl
  have h1 := hf 1 _ rfl
  have h2 := hf 2 _ rfl
  have h3 := hf 3 _ rfl
  simp [Yba.cells9, Yba.cells3, Yba.cells5] at h0 h1 h2 h3
  obtain ⟨k, e0, x0, w0⟩ := DataW.trod_int Yba.underlying5 h0
  obtain ⟨c, e1, x1, _⟩ := DataW.trod_string Yba.underlying9 h1
  obtain ⟨t, e2, x2, _⟩ := DataW.trod_string Yba.underlying9 h2
  obtain ⟨l, e3, x3, _⟩ := DataW.trod_int Yba.underlying3 h3
  obtain ⟨kn, rfl, hk⟩ := byte_of_wf w0
  simp at e0 e1 e2 e3
  subst e0 e1 e2 e3 x0 x1 x2 x3
  exact ⟨kn, c, t, l, rfl, hk, rfl⟩

theorem weightsAll_mem {H : Type} {P : Program} {e : TypeId} : ∀ {l : List (DataW H)} {d : DataW H}, d ∈ l → ∀ n ∈ d.weights P e, n ∈ DataW.weightsAll P e l
  | d' :: r, d, hd, n, hn => by
    simp only [DataW.weightsAll, List.mem_append]
    rcases List.mem_cons.1 hd with rfl | h
    · exact Or.inl hn
    · exact Or.inr (weightsAll_mem h n hn)

/-- A name within the reach: of an element's datum. -/
theorem zz_weight {H : Type} (k : Nat) (n f : ByteArray) (l : Int) : n.size ∈ DataW.weights (H := H) Yba.prog 25 (.agg [.lit (.int .u8 (k : Int)), .lit (.string n.data.toList), .lit (.string f.data.toList), .lit (.int .i64 l)]) := by
  simp [DataW.weights, DataW.weightsEach, Yba.underlying25]

theorem open_frames {H : Type} {enc : TypeId × Value → H} {W : World} {fuel : Nat} {a0 : Option Addr} {len cap : Nat} {d : DataW H} {p : List MemPlace} (h : DataW.trod enc Yba.prog W 0 (fun _ => true) true fuel 23 [.slice a0 len cap] = some (d, p))
    (hw : ∀ n ∈ d.weights Yba.prog 23, n ≤ reachBytes) :
    len ≤ maxLen ∧ (a0 = none → len = 0 ∧ cap = 0) ∧ ∃ (b off : Nat) (Kd : Nat → Nat) (Nm Fl : Nat → ByteArray) (Ln : Nat → Int), (0 < len → a0 = some ⟨b, off, none⟩) ∧ (∀ j, j < len → Kd j ≤ 255) ∧ (∀ j, j < len → (Nm j).size ≤ 140737488351232) ∧
      ∀ j, j < len → W.rangeAt b (off + j * 4) (zzL (Kd j) (Nm j) (Fl j) (Ln j)) := by
  rcases open_slice Yba.underlying23 h with ⟨hcs, _⟩ | ⟨a, l, c, m, n, D, Pl, hcs, _, hl, hm, hmm, hd, hx⟩
  · simp at hcs
    obtain ⟨rfl, rfl, rfl⟩ := hcs
    exact ⟨by omega, fun _ => ⟨rfl, rfl⟩, 0, 0, fun _ => 0, fun _ => ByteArray.empty, fun _ => ByteArray.empty, fun _ => 0, fun h => absurd h (by omega), fun j h => absurd h (by omega), fun j h => absurd h (by omega), fun j h => absurd h (by omega)⟩
  · simp at hcs
    obtain ⟨rfl, rfl, rfl⟩ := hcs
    simp only [Prod.mk.injEq] at hd
    obtain ⟨rfl, _⟩ := hd
    simp at hmm
    rw [Yba.cells25] at hx
    refine ⟨by omega, fun h => (by cases h), ?_⟩
    by_cases h0 : len = 0
    · subst h0
      exact ⟨0, 0, fun _ => 0, fun _ => ByteArray.empty, fun _ => ByteArray.empty, fun _ => 0, fun h => absurd h (by omega), fun j h => absurd h (by omega), fun j h => absurd h (by omega), fun j h => absurd h (by omega)⟩
    obtain ⟨b, off, spot⟩ := a
    obtain ⟨cs0, hc0, _⟩ := hx 0 (by omega)
    have hspot : spot = none := by
      obtain ⟨_, hl0, hcell⟩ := World.cells?_some hc0
      have hc := hcell 0 (by omega)
      have hcs0 : (0 : Nat) < cs0.length := by omega
      rw [List.getElem?_eq_getElem hcs0] at hc
      simpa [Addr.add] using World.cell?_spot hc
    subst hspot
    obtain ⟨f, hf⟩ := choose_lt (α := Nat × ByteArray × ByteArray × Int) (n := len) (p := fun j y => W.rangeAt b (off + j * 4) (zzL y.1 y.2.1 y.2.2.1 y.2.2.2) ∧ y.1 ≤ 255 ∧ y.2.1.size ≤ 140737488351232) (fun j hj => by
      obtain ⟨cs, hc, ht⟩ := hx j (by omega)
      obtain ⟨k', n', f', l', rfl, hk', hd'⟩ := open_zz ht
      rw [Addr.add_mid] at hc
      refine ⟨(k', n', f', l'), rangeAt_of_cells hc, hk', ?_⟩
      have hd2 : D j = .agg [.lit (.int .u8 (k' : Int)), .lit (.string n'.data.toList), .lit (.string f'.data.toList), .lit (.int .i64 l')] := hd'
      refine hw n'.size ?_
      simp only [DataW.weights, Yba.underlying23, List.mem_cons, List.mem_append]
      refine .inr (.inl (weightsAll_mem (d := D j) (List.mem_map.2 ⟨j, List.mem_range.2 hj, rfl⟩) _ ?_))
      rw [hd2]
      exact zz_weight k' n' f' l')
    exact ⟨b, off, fun j => (f j).1, fun j => (f j).2.1, fun j => (f j).2.2.1, fun j => (f j).2.2.2, fun _ => rfl, fun j hj => (hf j hj).2.1, fun j hj => (hf j hj).2.2, fun j hj => (hf j hj).1⟩

set_option maxHeartbeats 400000 in
set_option maxRecDepth 100000 in
theorem lawB_big (id : Int) (reason : ByteArray) (leaked : Bool) (a0 : Option Addr) (n cap : Nat) (ck : Nat) (cn cf : ByteArray) (cl : Int) (w : World) (hn : 1048576 < n) (hm : n ≤ maxLen) :
    Calls Yba.prog 3 #[.int .u64 id, .string reason, .bool leaked, .slice a0 n cap, .agg #[.int .u8 (ck : Int), .string cn, .string cf, .int .i64 cl]] w fun e w' => e = .returned (.bool true) ∧ Below w.heap.size w w' := by
  unfold maxLen at hm
  have hd : decide ((1048576 : Int) < (n : Int)) = true := decide_eq_true (by omega)
  go_enter Yba.func3, Yba.ntmps3
  go_wp2_with fail
  go_ret
  exact ⟨rfl, by go_grown⟩

set_option maxRecDepth 100000 in
theorem lawB_lifted (os : Os) (started : os.Started) (H : Type) (enc : TypeId × Value → H) :
    ReturnsInHanded {} Yba.checked os 3 .any (Rows.lawS5925BWholeSpec.pre6 enc Yba.prog Yba.f3 Rows.lawS5925BWholeRow.domain false) (Rows.lawS5925BWholeSpec.post enc Yba.prog Yba.f3 false true false false) := by
  refine returnsInHanded_of_change_sized (C := Yba.checked) Yba.own started (by kernel_rfl) Yba.func3
    (ChangeSpec.witness6 (enc := enc) (C := Yba.checked) false ⟨#[], #[.int .u64 0, .string ByteArray.empty, .bool false, .slice none 0 0, .agg #[.int .u8 0, .string ByteArray.empty, .string ByteArray.empty, .int .i64 0]], []⟩ 8 (by kernel_rfl) (by kernel_rfl) (by kernel_rfl) (by kernel_rfl)) ?_
  intro W base args ds gs before hval0 hW hcnd hsz0 _
  have hsz : (DataW.weightsEach Yba.prog (Yba.f3.params.toList ++ Rows.lawS5925BWholeSpec.plain.varTypes Yba.prog) (ds ++ gs)).all (· ≤ reachBytes) = true := hsz0
  have hval : ∀ (j : Nat) t v, Yba.f3.params[j]? = some t → args[j]? = some v → Value.okWide Yba.prog W .any base t v := hval0
  have hW' := hW
  obtain ⟨p, q, hA0, hV, rfl, hfz, hnd⟩ := hW
  have hA : DataW.TrodAll enc Yba.prog W 0 (fun _ => true) true Yba.f3.params.toList args.toList ds p := hA0
  rw [Yba.params3] at hA hval hsz
  obtain ⟨v0, vs0, d0, ds0, p0, q0, hargs, rfl, rfl, h0, r0⟩ := trodAll_cons hA
  obtain ⟨v1, vs1, d1, ds1, p1, q1, rfl, rfl, rfl, h1, r1⟩ := trodAll_cons r0
  obtain ⟨v2, vs2, d2, ds2, p2, q2, rfl, rfl, rfl, h2, r2⟩ := trodAll_cons r1
  obtain ⟨v3, vs3, d3, ds3, p3, q3, rfl, rfl, rfl, h3, r3⟩ := trodAll_cons r2
  obtain ⟨v4, vs4, d4, ds4, p4, q4, rfl, rfl, rfl, h4, r4⟩ := trodAll_cons r3
  obtain ⟨rfl, rfl, rfl⟩ := trodAll_nil r4
  obtain rfl : args = #[v0, v1, v2, v3, v4] := by cases args; simp_all
  obtain ⟨rfl, rfl⟩ := trodVars_none hV
  obtain ⟨a0, rfl, rfl, rfl, w0⟩ := open_int Yba.underlying22 (hval 0 22 v0 rfl rfl) h0
  obtain ⟨s1, rfl, rfl, rfl, w1⟩ := open_string Yba.underlying9 (hval 1 9 v1 rfl rfl) h1
  obtain ⟨b2, rfl, rfl, rfl⟩ := open_bool Yba.underlying4 (hval 2 4 v2 rfl rfl) h2
  obtain ⟨a3, len3, cap3, rfl⟩ := okWide_slice Yba.underlying23 (hval 3 23 v3 rfl rfl)
  have k3 := h3
  have lt3 : ∀ x ∈ p3, x.block < W.heap.size := by obtain ⟨m, hm⟩ := k3; exact DataW.trod_lt m _ _ _ hm
  have k4 := h4
  have lt4 : ∀ x ∈ p4, x.block < W.heap.size := by obtain ⟨m, hm⟩ := k4; exact DataW.trod_lt m _ _ _ hm
  have hw3 : ∀ n ∈ d3.weights Yba.prog 23, n ≤ reachBytes := fun n hn => of_decide_eq_true (List.all_eq_true.1 hsz _ (DataW.weights_mem_each (j := 3) (t := 23) rfl rfl n hn))
  have hw4 : ∀ n ∈ d4.weights Yba.prog 25, n ≤ reachBytes := fun n hn => of_decide_eq_true (List.all_eq_true.1 hsz _ (DataW.weights_mem_each (j := 4) (t := 25) rfl rfl n hn))
  clear hA0 hval0 hsz hsz0
  obtain ⟨c0, c1, c2, c3, y0, y1, y2, y3, m4, rfl, rfl, rfl, z0, z1, z2, z3⟩ := open_agg4 Yba.underlying25 (by kernel_rfl) Yba.cells25 (hval 4 25 v4 rfl rfl) h4
  obtain ⟨x0, e0, f0, wx0⟩ := DataW.trod_int Yba.underlying5 z0
  obtain ⟨cn, e1, f1, _⟩ := DataW.trod_string Yba.underlying9 z1
  obtain ⟨cf, e2, f2, _⟩ := DataW.trod_string Yba.underlying9 z2
  obtain ⟨cl, e3, f3, _⟩ := DataW.trod_int Yba.underlying3 z3
  simp at e0 e1 e2 e3
  subst e0 e1 e2 e3 f0 f1 f2 f3
  obtain ⟨ck, rfl, hck⟩ := byte_of_wf wx0
  have hcn : cn.size ≤ 140737488351232 := hw4 cn.size (zz_weight ck cn cf cl)
  obtain ⟨fuel, hf⟩ := h3
  have hwalk : Calls Yba.prog 3 #[.int .u64 a0, .string s1, .bool b2, .slice a3 len3 cap3, .agg #[.int .u8 (ck : Int), .string cn, .string cf, .int .i64 cl]] W fun e w' => e = .returned (.bool true) ∧ Below W.heap.size W w' := by
    obtain ⟨hm, hnil, b, off, Kd, Nm, Fl, Ln, g0, g1, g2, g3⟩ := open_frames (by simpa [Value.cells] using hf) hw3
    by_cases hl : 1048576 < len3
    · exact lawB_big a0 s1 b2 a3 len3 cap3 ck cn cf cl W hl hm
    · exact lawB a0 s1 b2 a3 len3 cap3 b off Kd Nm Fl Ln ck cn cf cl W (by omega) hnil g0 hck hcn g1 g2 g3
  refine hwalk.mono fun e W' ⟨he, bel⟩ => ?_
  subst he
  exact ⟨_, rfl, _, _, _, [], _, [], hW', trodAll_mk1 (shut_bool Yba.underlying4 _), (trodAll_cons_mk (shut_int Yba.underlying22 w0) (trodAll_cons_mk (shut_string Yba.underlying9 w1) (trodAll_cons_mk (shut_bool Yba.underlying4 _)
    (trodAll_cons_mk (Below.trod Yba.laidOut (by kernel_rfl) (of_decide_eq_true (by kernel_rfl)) k3 bel lt3) (trodAll_cons_mk (Below.trod Yba.laidOut (by kernel_rfl) (of_decide_eq_true (by kernel_rfl)) k4 bel lt4) trodAll_mk0))))), rfl, bel.frame _, fun h => by cases h⟩

theorem lawS5925BWhole_holds : Rows.LawS5925BWholeSaid :=
  OpenClaim.holds_of_wide 3 Yba.f3 rfl rfl rfl rfl rfl rfl rfl ⟨rfl, rfl, rfl, rfl, rfl⟩ rfl rfl rfl rfl rfl (by kernel_rfl) Yba.func3 (by kernel_rfl)
    (of_decide_eq_true (by kernel_rfl)) (by unfold Func.isWrapper; first | (rw [if_pos (by decide +kernel)]; kernel_rfl) | (rw [if_neg (by decide +kernel)]; exact ⟨rfl, rfl⟩))
    (fun os started H enc _ => lawB_lifted os started H enc)

end Go.Proofs.Ybulkdrrk
