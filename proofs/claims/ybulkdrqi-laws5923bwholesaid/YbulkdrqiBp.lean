import Derived.Test.YbulkdrqiBq
namespace Go.Proofs.Ybulkdrqi
open Go.ChangeShapes Go.WideShapes Go.ChangeAt Go.RowKit Go.Deep Go.Joins

theorem Yba.ownB : ownKnob Yba.prog.godebug = none := by kernel_rfl
theorem Yba.laidOutB : laidOutB Yba.prog = true := by kernel_rfl

theorem open_workers {H : Type} {enc : TypeId × Value → H} {W : World} {fuel : Nat} {a0 : Option Addr} {len cap : Nat} {d : DataW H} {p : List MemPlace} (h : DataW.trod enc Yba.prog W 0 (fun _ => true) true fuel 22 [.slice a0 len cap] = some (d, p))
    (hw : ∀ n ∈ d.weights Yba.prog 22, n ≤ reachBytes) :
    len ≤ maxLen ∧ ∃ (b off : Nat) (Ad : Nat → Option Addr) (ln Cp Vb Vo : Nat → Nat) (V : Nat → Nat → Int) (fl : Nat → Bool), (0 < len → a0 = some ⟨b, off, none⟩) ∧
      ∀ i, i < len → W.cell? ⟨b, off + i * 2, none⟩ = some (.slice (Ad i) (ln i) (Cp i)) ∧ W.cell? ⟨b, off + i * 2 + 1, none⟩ = some (.bool (fl i)) ∧ ln i ≤ 140737488355328 ∧ (0 < ln i → Ad i = some ⟨Vb i, Vo i, none⟩) ∧ ∀ j, j < ln i → W.cell? ⟨Vb i, Vo i + j, none⟩ = some (.int .i64 (V i j)) := by
  rcases open_slice Yba.underlying22 h with ⟨hcs, _⟩ | ⟨a, l, c, m, n, D, Pl, hcs, _, hl, hm, hmm, hd, hx⟩
  · simp at hcs
    obtain ⟨rfl, rfl, rfl⟩ := hcs
    exact ⟨by omega, 0, 0, fun _ => none, fun _ => 0, fun _ => 0, fun _ => 0, fun _ => 0, fun _ _ => 0, fun _ => false, fun h => absurd h (by omega), fun j h => absurd h (by omega)⟩
  · simp at hcs
    obtain ⟨rfl, rfl, rfl⟩ := hcs
    simp only [Prod.mk.injEq] at hd
    obtain ⟨rfl, _⟩ := hd
    simp at hmm
    rw [Yba.cells25] at hx
    refine ⟨by omega, ?_⟩
    by_cases h0 : len = 0
    · subst h0
      exact ⟨0, 0, fun _ => none, fun _ => 0, fun _ => 0, fun _ => 0, fun _ => 0, fun _ _ => 0, fun _ => false, fun h => absurd h (by omega), fun j h => absurd h (by omega)⟩
    obtain ⟨b, off, spot⟩ := a
    obtain ⟨cs0, hc0, _⟩ := hx 0 (by omega)
    have hspot : spot = none := by
      obtain ⟨_, hl0, hcell⟩ := World.cells?_some hc0
      have hc := hcell 0 (by omega)
      have hcs0 : (0 : Nat) < cs0.length := by omega
      rw [List.getElem?_eq_getElem hcs0] at hc
      simpa [Addr.add] using World.cell?_spot hc
    subst hspot
    obtain ⟨f, hf⟩ := choose_lt (α := Option Addr × Nat × Nat × Nat × Nat × (Nat → Int) × Bool) (n := len) (p := fun i y => W.cell? ⟨b, off + i * 2, none⟩ = some (.slice y.1 y.2.1 y.2.2.1) ∧ W.cell? ⟨b, off + i * 2 + 1, none⟩ = some (.bool y.2.2.2.2.2.2) ∧ y.2.1 ≤ 140737488355328 ∧ (0 < y.2.1 → y.1 = some ⟨y.2.2.2.1, y.2.2.2.2.1, none⟩) ∧ ∀ j, j < y.2.1 → W.cell? ⟨y.2.2.2.1, y.2.2.2.2.1 + j, none⟩ = some (.int .i64 (y.2.2.2.2.2.1 j))) (fun i hi => by
      obtain ⟨cs, hc, ht⟩ := hx i (by omega)
      obtain ⟨a', l', c', vb, vo, V', f', rfl, g1, g2, g3⟩ := open_worker ht (fun n hn => by
        refine hw n ?_
        simp only [DataW.weights, Yba.underlying22, List.mem_cons, List.mem_append]
        exact .inr (.inl (weightsAll_mem (d := D i) (List.mem_map.2 ⟨i, List.mem_range.2 hi, rfl⟩) _ hn)))
      rw [Addr.add_mid] at hc
      have hr := rangeAt_of_cells hc
      exact ⟨(a', l', c', vb, vo, V', f'), hr 0 _ rfl, hr 1 _ rfl, g1, g2, g3⟩)
    exact ⟨b, off, fun i => (f i).1, fun i => (f i).2.1, fun i => (f i).2.2.1, fun i => (f i).2.2.2.1, fun i => (f i).2.2.2.2.1, fun i => (f i).2.2.2.2.2.1, fun i => (f i).2.2.2.2.2.2, fun _ => rfl, hf⟩

set_option maxHeartbeats 4000000 in
set_option maxRecDepth 100000 in
theorem lawB_big (b1 b2 b3 b4 b5 : Bool) (si col yi : Int) (a0 : Option Addr) (n cap stn : Nat) (w : World) (hn : 65536 < n) (hm : n ≤ maxLen) :
    Calls Yba.prog 3 #[.bool b1, .bool b2, .bool b3, .bool b4, .bool b5, .int .i64 si, .int .i64 col, .int .i64 yi, .slice a0 n cap, .int .u8 (stn : Int)] w fun e w' => e = .returned (.bool true) ∧ Below w.heap.size w w' := by
  unfold maxLen at hm
  have hd : decide ((65536 : Int) < (n : Int)) = true := decide_eq_true (by omega)
  refine calls_of_wpN Yba.func3 rfl ?_
  simp only [Yba.ntmps3, List.size_toArray, List.length_cons, List.length_nil, Nat.reduceAdd, Nat.reduceSub, Array.replicate_succ, Array.replicate_zero, List.push_toArray, List.append_toArray, List.nil_append, List.cons_append]
  refine wpN_seq_wp ?_
  go_wp2_with fail
  refine wpN_seq_wp ?_
  go_wp2_with fail
  go_ret
  exact ⟨rfl, by go_grown⟩

set_option maxRecDepth 100000 in
theorem lawB_lifted (os : Os) (started : os.Started) (H : Type) (enc : TypeId × Value → H) :
    ReturnsInHanded {} Yba.checked os 3 .any (Rows.lawS5923BWholeSpec.pre6 enc Yba.prog Yba.f3 Rows.lawS5923BWholeRow.domain false) (Rows.lawS5923BWholeSpec.post enc Yba.prog Yba.f3 false true false false) := by
  refine returnsInHanded_of_change_sized (C := Yba.checked) Yba.ownB started (by kernel_rfl) Yba.func3
    (ChangeSpec.witness6 (enc := enc) (C := Yba.checked) false ⟨#[], #[.bool false, .bool false, .bool false, .bool false, .bool false, .int .i64 0, .int .i64 0, .int .i64 0, .slice none 0 0, .int .u8 0], []⟩ 8 (by kernel_rfl) (by kernel_rfl) (by kernel_rfl) (by kernel_rfl)) ?_
  intro W base args ds gs before hval0 hW hcnd hsz0 _
  have hsz : (DataW.weightsEach Yba.prog (Yba.f3.params.toList ++ Rows.lawS5923BWholeSpec.plain.varTypes Yba.prog) (ds ++ gs)).all (· ≤ reachBytes) = true := hsz0
  have hval : ∀ (j : Nat) t v, Yba.f3.params[j]? = some t → args[j]? = some v → Value.okWide Yba.prog W .any base t v := hval0
  have hW' := hW
  obtain ⟨p, q, hA0, hV, rfl, hfz, hnd⟩ := hW
  have hA : DataW.TrodAll enc Yba.prog W 0 (fun _ => true) true Yba.f3.params.toList args.toList ds p := hA0
  rw [Yba.params3] at hA hval hsz
  obtain ⟨v0, vs0, d0, ds0, p0, q0, hargs, rfl, rfl, h0, r0⟩ := trodAll_cons hA
  obtain ⟨v1, vs1, d1, ds1, p1, q1, rfl, rfl, rfl, h1, r1⟩ := trodAll_cons r0
  obtain ⟨v2, vs2, d2, ds2, p2, q2, rfl, rfl, rfl, h2, r2⟩ := trodAll_cons r1
  obtain ⟨v3, vs3, d3, ds3, p3, q3, rfl, rfl, rfl, h3, r3⟩ := trodAll_cons r2
  obtain ⟨v4, vs4, d4, ds4, p4, q4, rfl, rfl, rfl, h4, r4⟩ := trodAll_cons r3
  obtain ⟨v5, vs5, d5, ds5, p5, q5, rfl, rfl, rfl, h5, r5⟩ := trodAll_cons r4
  obtain ⟨v6, vs6, d6, ds6, p6, q6, rfl, rfl, rfl, h6, r6⟩ := trodAll_cons r5
  obtain ⟨v7, vs7, d7, ds7, p7, q7, rfl, rfl, rfl, h7, r7⟩ := trodAll_cons r6
  obtain ⟨v8, vs8, d8, ds8, p8, q8, rfl, rfl, rfl, h8, r8⟩ := trodAll_cons r7
  obtain ⟨v9, vs9, d9, ds9, p9, q9, rfl, rfl, rfl, h9, r9⟩ := trodAll_cons r8
  obtain ⟨rfl, rfl, rfl⟩ := trodAll_nil r9
  obtain rfl : args = #[v0, v1, v2, v3, v4, v5, v6, v7, v8, v9] := by cases args; simp_all
  obtain ⟨rfl, rfl⟩ := trodVars_none hV
  obtain ⟨b0, rfl, rfl, rfl⟩ := open_bool Yba.underlying4 (hval 0 4 v0 rfl rfl) h0
  obtain ⟨b1, rfl, rfl, rfl⟩ := open_bool Yba.underlying4 (hval 1 4 v1 rfl rfl) h1
  obtain ⟨b2, rfl, rfl, rfl⟩ := open_bool Yba.underlying4 (hval 2 4 v2 rfl rfl) h2
  obtain ⟨b3, rfl, rfl, rfl⟩ := open_bool Yba.underlying4 (hval 3 4 v3 rfl rfl) h3
  obtain ⟨b4, rfl, rfl, rfl⟩ := open_bool Yba.underlying4 (hval 4 4 v4 rfl rfl) h4
  obtain ⟨si, rfl, rfl, rfl, w5⟩ := open_int Yba.underlying3 (hval 5 3 v5 rfl rfl) h5
  obtain ⟨col, rfl, rfl, rfl, w6⟩ := open_int Yba.underlying3 (hval 6 3 v6 rfl rfl) h6
  obtain ⟨yi, rfl, rfl, rfl, w7⟩ := open_int Yba.underlying3 (hval 7 3 v7 rfl rfl) h7
  obtain ⟨a8, len8, cap8, rfl⟩ := okWide_slice Yba.underlying22 (hval 8 22 v8 rfl rfl)
  obtain ⟨st, rfl, rfl, rfl, w9⟩ := open_int Yba.underlying5 (hval 9 5 v9 rfl rfl) h9
  have k8 := h8
  have lt8 : ∀ x ∈ p8, x.block < W.heap.size := by obtain ⟨m, hm⟩ := k8; exact DataW.trod_lt m _ _ _ hm
  have hw8 : ∀ n ∈ d8.weights Yba.prog 22, n ≤ reachBytes := fun n hn => of_decide_eq_true (List.all_eq_true.1 hsz _ (DataW.weights_mem_each (j := 8) (t := 22) rfl rfl n hn))
  clear hA0 hval0 hsz hsz0
  obtain ⟨fuel, hf⟩ := h8
  have hwalk : Calls Yba.prog 3 #[.bool b0, .bool b1, .bool b2, .bool b3, .bool b4, .int .i64 si, .int .i64 col, .int .i64 yi, .slice a8 len8 cap8, .int .u8 st] W fun e w' => e = .returned (.bool true) ∧ Below W.heap.size W w' := by
    obtain ⟨stn, rfl, hst⟩ := byte_of_wf w9
    obtain ⟨hm, b, off, Ad, ln, Cp, Vb, Vo, V, fl, g0, g1⟩ := open_workers (by simpa [Value.cells] using hf) hw8
    by_cases hl : 65536 < len8
    · exact lawB_big b0 b1 b2 b3 b4 si col yi a8 len8 cap8 stn W hl hm
    · exact lawB b0 b1 b2 b3 b4 si col yi a8 len8 cap8 b off stn Ad ln Cp Vb Vo V fl W (by omega) g0 g1 hst (wrap_of_wf w5) (wrap_of_wf w6) (wrap_of_wf w7)
  refine hwalk.mono fun e W' ⟨he, bel⟩ => ?_
  subst he
  exact ⟨_, rfl, _, _, _, [], _, [], hW', trodAll_mk1 (shut_bool Yba.underlying4 _), (trodAll_cons_mk (shut_bool Yba.underlying4 _) (trodAll_cons_mk (shut_bool Yba.underlying4 _) (trodAll_cons_mk (shut_bool Yba.underlying4 _) (trodAll_cons_mk (shut_bool Yba.underlying4 _) (trodAll_cons_mk (shut_bool Yba.underlying4 _)
    (trodAll_cons_mk (shut_int Yba.underlying3 w5) (trodAll_cons_mk (shut_int Yba.underlying3 w6) (trodAll_cons_mk (shut_int Yba.underlying3 w7)
    (trodAll_cons_mk (Below.trod Yba.laidOutB (by kernel_rfl) (of_decide_eq_true (by kernel_rfl)) k8 bel lt8) (trodAll_cons_mk (shut_int Yba.underlying5 w9) trodAll_mk0)))))))))), rfl, bel.frame _, fun h => by cases h⟩

theorem lawS5923BWhole_holds : Rows.LawS5923BWholeSaid :=
  OpenClaim.holds_of_wide 3 Yba.f3 rfl rfl rfl rfl rfl rfl rfl ⟨rfl, rfl, rfl, rfl, rfl⟩ rfl rfl rfl rfl rfl (by kernel_rfl) Yba.func3 (by kernel_rfl)
    (of_decide_eq_true (by kernel_rfl)) (by unfold Func.isWrapper; first | (rw [if_pos (by decide +kernel)]; kernel_rfl) | (rw [if_neg (by decide +kernel)]; exact ⟨rfl, rfl⟩))
    (fun os started H enc _ => lawB_lifted os started H enc)

end Go.Proofs.Ybulkdrqi
