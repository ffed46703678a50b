import Derived.Test.YbulkdrtaB2
import Derived.ProofKit
import Derived.OpenShut
import Derived.Deep.Slices
namespace Go.Proofs.Ybulkdrta.LawB
open Go.ChangeShapes Go.WideShapes Go.ChangeAt Go.RowKit Go.Deep
open Go.ChangeMaps (open_string shut_string)

theorem own : ownKnob Yba.prog.godebug = none := by kernel_rfl
theorem laidOut : laidOutB Yba.prog = true := by kernel_rfl
theorem cells9 : Yba.prog.cellsOf 9 = 1 := by kernel_rfl

theorem open_strs {H : Type} {enc : TypeId × Value → H} {W : World} {fuel : Nat} {a0 : Option Addr} {len cap : Nat} {x : DataW H × List MemPlace} (h : DataW.trod enc Yba.prog W 0 (fun _ => true) true fuel 35 [.slice a0 len cap] = some x) :
    len ≤ maxLen ∧ ∃ (b off : Nat) (K : Nat → ByteArray), Strs a0 len b off K W := by
  rcases open_slice1 Yba.underlying35 cells9 h with ⟨hcs, _⟩ | ⟨a, l, c, m, n, V, D, Pl, hcs, _, hl, hm, hmm, _, hx⟩
  · simp at hcs
    obtain ⟨rfl, rfl, rfl⟩ := hcs
    exact ⟨by omega, 0, 0, fun _ => ByteArray.empty, fun h => absurd h (by omega), fun j h => absurd h (by omega), fun j h => absurd h (by omega)⟩
  · simp at hcs
    obtain ⟨rfl, rfl, rfl⟩ := hcs
    simp at hmm
    refine ⟨by omega, ?_⟩
    by_cases h0 : len = 0
    · subst h0
      exact ⟨0, 0, fun _ => ByteArray.empty, fun h => absurd h (by omega), fun j h => absurd h (by omega), fun j h => absurd h (by omega)⟩
    obtain ⟨b, off, spot⟩ := a
    have hspot : spot = none := by simpa [Addr.add] using World.cell?_spot (hx 0 (by omega)).1
    subst hspot
    obtain ⟨f, hf⟩ := choose_lt (α := ByteArray) (n := len) (p := fun j y => W.cell? ⟨b, off + j, none⟩ = some (.string y) ∧ y.size ≤ maxLen) (fun j hj => by
      obtain ⟨hc, ht⟩ := hx j (by omega)
      obtain ⟨s, e, _, hs⟩ := DataW.trod_string Yba.underlying9 ht
      simp at e
      rw [Addr.add_mid] at hc
      exact ⟨s, by rw [hc, e], hs⟩)
    exact ⟨b, off, f, fun _ => rfl, fun j hj => (hf j hj).1, fun j hj => (hf j hj).2⟩

set_option maxHeartbeats 400000 in
set_option maxRecDepth 100000 in
theorem big (ka va : Option Addr) (nk ck nv cv : Nat) (pick : Int) (key value : ByteArray) (w : World) (hn : 1048576 < nk) (hm : nk ≤ maxLen) :
    Calls Yba.prog 4 #[.slice ka nk ck, .slice va nv cv, .int .u8 pick, .string key, .string value] w fun e w' => e = .returned (.bool true) ∧ Below w.heap.size w w' := by
  unfold maxLen at hm
  have hd : decide ((1048576 : Int) < (nk : Int)) = true := decide_eq_true (by omega)
  go_enter Yba.func4, Yba.ntmps4
  go_wp2_with fail
  go_ret
  exact ⟨rfl, Below.refl _ _⟩

theorem byte_of_wf {x : Int} (h : (Lit.int .u8 x).wf = true) : 0 ≤ x ∧ x ≤ 255 := by
  simp [Lit.wf, IntKind.min, IntKind.max, IntKind.signed, IntKind.bits] at h
  exact ⟨by omega, by omega⟩

set_option maxRecDepth 100000 in
theorem lifted (os : Os) (started : os.Started) (H : Type) (enc : TypeId × Value → H) :
    ReturnsInHanded {} Yba.checked os 4 .any (Rows.lawS5928BWholeSpec.pre6 enc Yba.prog Yba.f4 Rows.lawS5928BWholeRow.domain false) (Rows.lawS5928BWholeSpec.post enc Yba.prog Yba.f4 false true false false) := by
  refine returnsInHanded_of_change (C := Yba.checked) own started (by kernel_rfl) Yba.func4
    (ChangeSpec.witness6 (enc := enc) (C := Yba.checked) false ⟨#[], #[.slice none 0 0, .slice none 0 0, .int .u8 0, .string ByteArray.empty, .string ByteArray.empty], []⟩ 8 (by kernel_rfl) (by kernel_rfl) (by kernel_rfl) (by kernel_rfl)) ?_
  intro W base args ds gs before hval0 hW hcnd _
  have hval : ∀ (j : Nat) t v, Yba.f4.params[j]? = some t → args[j]? = some v → Value.okWide Yba.prog W .any base t v := hval0
  have hW' := hW
  obtain ⟨p, q, hA0, hV, rfl, hfz, hnd⟩ := hW
  have hA : DataW.TrodAll enc Yba.prog W 0 (fun _ => true) true Yba.f4.params.toList args.toList ds p := hA0
  rw [Yba.params4] at hA hval
  obtain ⟨v0, vs0, d0, ds0, p0, q0, hargs, rfl, rfl, h0, r0⟩ := trodAll_cons hA
  obtain ⟨v1, vs1, d1, ds1, p1, q1, rfl, rfl, rfl, h1, r1⟩ := trodAll_cons r0
  obtain ⟨v2, vs2, d2, ds2, p2, q2, rfl, rfl, rfl, h2, r2⟩ := trodAll_cons r1
  obtain ⟨v3, vs3, d3, ds3, p3, q3, rfl, rfl, rfl, h3, r3⟩ := trodAll_cons r2
  obtain ⟨v4, vs4, d4, ds4, p4, q4, rfl, rfl, rfl, h4, r4⟩ := trodAll_cons r3
  obtain ⟨rfl, rfl, rfl⟩ := trodAll_nil r4
  obtain rfl : args = #[v0, v1, v2, v3, v4] := by cases args; simp_all
  obtain ⟨rfl, rfl⟩ := trodVars_none hV
  obtain ⟨a0, len0, cap0, rfl⟩ := okWide_slice Yba.underlying35 (hval 0 35 v0 rfl rfl)
  obtain ⟨a1, len1, cap1, rfl⟩ := okWide_slice Yba.underlying35 (hval 1 35 v1 rfl rfl)
  have k0 := h0
  have lt0 : ∀ x ∈ p0, x.block < W.heap.size := by obtain ⟨m, hm⟩ := k0; exact DataW.trod_lt m _ _ _ hm
  have k1 := h1
  have lt1 : ∀ x ∈ p1, x.block < W.heap.size := by obtain ⟨m, hm⟩ := k1; exact DataW.trod_lt m _ _ _ hm
  obtain ⟨a2, rfl, rfl, rfl, w2⟩ := open_int Yba.underlying5 (hval 2 5 v2 rfl rfl) h2
  obtain ⟨s3, rfl, rfl, rfl, w3⟩ := open_string Yba.underlying9 (hval 3 9 v3 rfl rfl) h3
  obtain ⟨s4, rfl, rfl, rfl, w4⟩ := open_string Yba.underlying9 (hval 4 9 v4 rfl rfl) h4
  clear hA0 hval0
  obtain ⟨fuel0, hf0⟩ := h0
  obtain ⟨fuel1, hf1⟩ := h1
  have hwalk : Calls Yba.prog 4 #[.slice a0 len0 cap0, .slice a1 len1 cap1, .int .u8 a2, .string s3, .string s4] W fun e w' => e = .returned (.bool true) ∧ Below W.heap.size W w' := by
    obtain ⟨m0, kb, ko, K, SK⟩ := open_strs (by simpa [Value.cells] using hf0)
    obtain ⟨m1, vb, vo, V, SV⟩ := open_strs (by simpa [Value.cells] using hf1)
    by_cases hl : 1048576 < len0
    · exact big a0 a1 len0 cap0 len1 cap1 a2 s3 s4 W hl m0
    · have hb := byte_of_wf w2
      refine lawB a0 a1 len0 cap0 len1 cap1 kb ko vb vo a2 s3 s4 K (fun j => if j < len1 then V j else ⟨#[]⟩) W (by omega) m1 hb.1 hb.2 w3 w4 SK ⟨SV.ad, fun j hj => ?_, fun j hj => ?_⟩ (fun j hj => ?_)
      · rw [if_pos hj]; exact SV.cell j hj
      · rw [if_pos hj]; exact SV.size j hj
      · rw [if_neg (by omega)]
  refine hwalk.mono fun e W' ⟨he, bel⟩ => ?_
  subst he
  exact ⟨_, rfl, _, _, _, [], _, [], hW', trodAll_mk1 (shut_bool Yba.underlying4 _), (trodAll_cons_mk (Below.trod laidOut (by kernel_rfl) (of_decide_eq_true (by kernel_rfl)) k0 bel lt0) (trodAll_cons_mk (Below.trod laidOut (by kernel_rfl) (of_decide_eq_true (by kernel_rfl)) k1 bel lt1)
    (trodAll_cons_mk (shut_int Yba.underlying5 w2) (trodAll_cons_mk (shut_string Yba.underlying9 w3) (trodAll_cons_mk (shut_string Yba.underlying9 w4) trodAll_mk0))))), rfl, bel.frame _, fun h => by cases h⟩

end Go.Proofs.Ybulkdrta.LawB
namespace Go.Proofs.Ybulkdrta
theorem lawS5928BWhole_holds : Rows.LawS5928BWholeSaid :=
  OpenClaim.holds_of_wide 4 Yba.f4 rfl rfl rfl rfl rfl rfl rfl ⟨rfl, rfl, rfl, rfl, rfl⟩ rfl rfl rfl rfl rfl (by kernel_rfl) Yba.func4 (by kernel_rfl)
    (of_decide_eq_true (by kernel_rfl)) (by unfold Func.isWrapper; first | (rw [if_pos (by decide +kernel)]; kernel_rfl) | (rw [if_neg (by decide +kernel)]; exact ⟨rfl, rfl⟩))
    (fun os started H enc _ => LawB.lifted os started H enc)
end Go.Proofs.Ybulkdrta
