import Derived.Test.YbulkdrpgP5
import Derived.ProofKit
import Derived.OpenShut
import Derived.Deep.Slices
namespace Go.Proofs.Ybulkdrpg
open Go.ChangeShapes Go.WideShapes Go.ChangeAt Go.RowKit Go.Deep
open Go.ChangeMaps (open_string shut_string)

theorem Yba.own : ownKnob Yba.prog.godebug = none := by kernel_rfl
theorem Yba.laidOut : laidOutB Yba.prog = true := by kernel_rfl
theorem Yba.cells35 : Yba.prog.cellsOf 35 = 4 := by kernel_rfl
theorem Yba.cells23 : Yba.prog.cellsOf 23 = 1 := by kernel_rfl
theorem Yba.cells9 : Yba.prog.cellsOf 9 = 1 := by kernel_rfl
theorem Yba.cells5 : Yba.prog.cellsOf 5 = 1 := by kernel_rfl

theorem list4 {α : Type} {l : List α} (h : l.length = 4) : ∃ a b c d, l = [a, b, c, d] := by
  match l, h with
  | [a, b, c, d], _ => exact ⟨a, b, c, d, rfl⟩
theorem byte_of_wf {x : Int} (h : (Lit.int .u8 x).wf = true) : 0 ≤ x ∧ x < 256 := by
  simp [Lit.wf, IntKind.min, IntKind.max, IntKind.signed, IntKind.bits] at h
  omega

/-- One step's cells. -/
theorem open_step {H : Type} {enc : TypeId × Value → H} {W : World} {fuel : Nat} {cs : List Value} {x : DataW H × List MemPlace} (h : DataW.trod enc Yba.prog W 0 (fun _ => true) true fuel 35 cs = some x) :
    ∃ (o c : Int) (n : ByteArray) (s : Int), cs = [.int .u8 o, .int .u64 c, .string n, .int .u64 s] ∧ (0 ≤ o ∧ o < 256) ∧ (Lit.int .u64 c).wf = true ∧ n.size ≤ maxLen := by
  obtain ⟨xs, n, _, rfl, hl, hlen, hf⟩ := DataW.trod_struct Yba.underlying35 h
  rw [Yba.cells35] at hl
  obtain ⟨a0, a1, a2, a3, rfl⟩ := list4 hl
  obtain ⟨y0, y1, y2, y3, rfl⟩ := list4 hlen
  have h0 := hf 0 _ rfl
  have h1 := hf 1 _ rfl
  have h2 := hf 2 _ rfl
  have h3 := hf 3 _ rfl
  simp [Yba.cells9, Yba.cells23, Yba.cells5] at h0 h1 h2 h3
  obtain ⟨o, e0, _, w0⟩ := DataW.trod_int Yba.underlying5 h0
  obtain ⟨c, e1, _, w1⟩ := DataW.trod_int Yba.underlying23 h1
  obtain ⟨t, e2, _, w2⟩ := DataW.trod_string Yba.underlying9 h2
  obtain ⟨s, e3, _, _⟩ := DataW.trod_int Yba.underlying23 h3
  simp at e0 e1 e2 e3
  subst e0 e1 e2 e3
  exact ⟨o, c, t, s, rfl, byte_of_wf w0, w1, w2⟩

theorem len_le {H : Type} {enc : TypeId × Value → H} {W : World} {fuel : Nat} {a0 : Option Addr} {len cap : Nat} {x : DataW H × List MemPlace} (h : DataW.trod enc Yba.prog W 0 (fun _ => true) true fuel 22 [.slice a0 len cap] = some x) : len ≤ maxLen := by
  rcases open_slice Yba.underlying22 h with ⟨hcs, _⟩ | ⟨a, l, c, m, n, D, Pl, hcs, _, hl, hm, hmm, _, hx⟩
  · simp at hcs; omega
  · simp at hcs; omega

/-- The steps as the walk wants them. -/
theorem open_steps {H : Type} {enc : TypeId × Value → H} {W : World} {fuel : Nat} {a0 : Option Addr} {len cap : Nat} {x : DataW H × List MemPlace} (h : DataW.trod enc Yba.prog W 0 (fun _ => true) true fuel 22 [.slice a0 len cap] = some x) :
    ∃ (b off : Nat) (Oq Cc Sn : Nat → Int) (Nm : Nat → ByteArray), (0 < len → a0 = some ⟨b, off, none⟩) ∧
      ∀ j, j < len → W.rangeAt b (off + j * 4) [.int .u8 (Oq j), .int .u64 (Cc j), .string (Nm j), .int .u64 (Sn j)] ∧ (0 ≤ Oq j ∧ Oq j < 256) ∧ (Lit.int .u64 (Cc j)).wf = true ∧ (Nm j).size ≤ maxLen := by
  rcases open_slice Yba.underlying22 h with ⟨hcs, _⟩ | ⟨a, l, c, m, n, D, Pl, hcs, _, hl, hm, hmm, _, hx⟩
  · simp at hcs
    obtain ⟨rfl, rfl, rfl⟩ := hcs
    exact ⟨0, 0, fun _ => 0, fun _ => 0, fun _ => 0, fun _ => ByteArray.empty, fun h => absurd h (by omega), fun j h => absurd h (by omega)⟩
  · simp at hcs
    obtain ⟨rfl, rfl, rfl⟩ := hcs
    simp at hmm
    rw [Yba.cells35] at hx
    by_cases h0 : len = 0
    · subst h0
      exact ⟨0, 0, fun _ => 0, fun _ => 0, fun _ => 0, fun _ => ByteArray.empty, fun h => absurd h (by omega), fun j h => absurd h (by omega)⟩
    obtain ⟨b, off, spot⟩ := a
    obtain ⟨cs0, hc0, _⟩ := hx 0 (by omega)
    have hspot : spot = none := by
      obtain ⟨_, hl0, hcell⟩ := World.cells?_some hc0
      have hc := hcell 0 (by omega)
      have hcs0 : (0 : Nat) < cs0.length := by omega
      rw [List.getElem?_eq_getElem hcs0] at hc
      simpa [Addr.add] using World.cell?_spot hc
    subst hspot
    obtain ⟨f, hf⟩ := choose_lt (α := Int × Int × Int × ByteArray) (n := len) (p := fun j y => W.rangeAt b (off + j * 4) [.int .u8 y.1, .int .u64 y.2.1, .string y.2.2.2, .int .u64 y.2.2.1] ∧ (0 ≤ y.1 ∧ y.1 < 256) ∧ (Lit.int .u64 y.2.1).wf = true ∧ y.2.2.2.size ≤ maxLen) (fun j hj => by
      obtain ⟨cs, hc, ht⟩ := hx j (by omega)
      obtain ⟨o', c', n', s', rfl, q1, q2, q3⟩ := open_step ht
      rw [Addr.add_mid] at hc
      exact ⟨(o', c', s', n'), rangeAt_of_cells hc, q1, q2, q3⟩)
    exact ⟨b, off, fun j => (f j).1, fun j => (f j).2.1, fun j => (f j).2.2.1, fun j => (f j).2.2.2, fun _ => rfl, hf⟩

set_option maxRecDepth 100000 in
theorem lawB_lifted (os : Os) (started : os.Started) (H : Type) (enc : TypeId × Value → H) :
    ReturnsInHanded {} Yba.checked os 3 .any (Rows.lawS5921BWholeSpec.pre6 enc Yba.prog Yba.f3 Rows.lawS5921BWholeRow.domain false) (Rows.lawS5921BWholeSpec.post enc Yba.prog Yba.f3 false true false false) := by
  refine returnsInHanded_of_change (C := Yba.checked) Yba.own started (by kernel_rfl) Yba.func3
    (ChangeSpec.witness6 (enc := enc) (C := Yba.checked) false ⟨#[], #[.slice none 0 0, .int .u64 0, .string ByteArray.empty, .int .u64 0], []⟩ 8 (by kernel_rfl) (by kernel_rfl) (by kernel_rfl) (by kernel_rfl)) ?_
  intro W base args ds gs before hval0 hW hcnd _
  have hval : ∀ (j : Nat) t v, Yba.f3.params[j]? = some t → args[j]? = some v → Value.okWide Yba.prog W .any base t v := hval0
  have hW' := hW
  obtain ⟨p, q, hA0, hV, rfl, hfz, hnd⟩ := hW
  have hA : DataW.TrodAll enc Yba.prog W 0 (fun _ => true) true Yba.f3.params.toList args.toList ds p := hA0
  rw [Yba.params3] at hA hval
  obtain ⟨v0, vs0, d0, ds0, p0, q0, hargs, rfl, rfl, h0, r0⟩ := trodAll_cons hA
  obtain ⟨v1, vs1, d1, ds1, p1, q1, rfl, rfl, rfl, h1, r1⟩ := trodAll_cons r0
  obtain ⟨v2, vs2, d2, ds2, p2, q2, rfl, rfl, rfl, h2, r2⟩ := trodAll_cons r1
  obtain ⟨v3, vs3, d3, ds3, p3, q3, rfl, rfl, rfl, h3, r3⟩ := trodAll_cons r2
  obtain ⟨rfl, rfl, rfl⟩ := trodAll_nil r3
  obtain rfl : args = #[v0, v1, v2, v3] := by cases args; simp_all
  obtain ⟨rfl, rfl⟩ := trodVars_none hV
  obtain ⟨a0, len0, cap0, rfl⟩ := okWide_slice Yba.underlying22 (hval 0 22 v0 rfl rfl)
  have k0 := h0
  have lt0 : ∀ x ∈ p0, x.block < W.heap.size := by obtain ⟨m, hm⟩ := k0; exact DataW.trod_lt m _ _ _ hm
  obtain ⟨a1, rfl, rfl, rfl, w1⟩ := open_int Yba.underlying23 (hval 1 23 v1 rfl rfl) h1
  obtain ⟨s2, rfl, rfl, rfl, w2⟩ := open_string Yba.underlying9 (hval 2 9 v2 rfl rfl) h2
  obtain ⟨a3, rfl, rfl, rfl, w3⟩ := open_int Yba.underlying23 (hval 3 23 v3 rfl rfl) h3
  clear hA0 hval0
  obtain ⟨fuel, hf⟩ := h0
  have hwalk : Calls Yba.prog 3 #[.slice a0 len0 cap0, .int .u64 a1, .string s2, .int .u64 a3] W fun e w' => e = .returned (.bool true) ∧ Below W.heap.size W w' := by
    by_cases hl : 4096 < len0
    · exact lawB_big a0 len0 cap0 a1 a3 s2 W hl (len_le (by simpa [Value.cells] using hf))
    · obtain ⟨b, off, Oq, Cc, Sn, Nm, e0, eq⟩ := open_steps (by simpa [Value.cells] using hf)
      exact lawB a0 len0 cap0 b off a1 a3 s2 Oq Cc Sn Nm W (by omega) e0 (fun j hj => (eq j hj).1) (fun j hj => (eq j hj).2.2.1) (fun j hj => (eq j hj).2.1) (fun j hj => (eq j hj).2.2.2) w1 w2
  refine hwalk.mono fun e W' ⟨he, bel⟩ => ?_
  subst he
  exact ⟨_, rfl, _, _, _, [], _, [], hW', trodAll_mk1 (shut_bool Yba.underlying4 _), (trodAll_cons_mk (Below.trod Yba.laidOut (by kernel_rfl) (of_decide_eq_true (by kernel_rfl)) k0 bel lt0) (trodAll_cons_mk (shut_int Yba.underlying23 w1) (trodAll_cons_mk (shut_string Yba.underlying9 w2) (trodAll_cons_mk (shut_int Yba.underlying23 w3) trodAll_mk0)))), rfl, bel.frame _, fun h => by cases h⟩

theorem lawS5921BWhole_holds : Rows.LawS5921BWholeSaid :=
  OpenClaim.holds_of_wide 3 Yba.f3 rfl rfl rfl rfl rfl rfl rfl ⟨rfl, rfl, rfl, rfl, rfl⟩ rfl rfl rfl rfl rfl (by kernel_rfl) Yba.func3 (by kernel_rfl)
    (of_decide_eq_true (by kernel_rfl)) (by unfold Func.isWrapper; first | (rw [if_pos (by decide +kernel)]; kernel_rfl) | (rw [if_neg (by decide +kernel)]; exact ⟨rfl, rfl⟩))
    (fun os started H enc _ => lawB_lifted os started H enc)

end Go.Proofs.Ybulkdrpg
