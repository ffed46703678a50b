import Derived.Test.YbulkdrrkDoorD2
import Derived.ProofKit
import Derived.LaidMore
import Derived.OpenShut
import Derived.Stop.Joined
import Derived.Stop.LaidErr
import Derived.Lib.LaidTab
import Derived.Stop.FmtTextKit
import Derived.Test.YbulkdrrkDoorTie
import Derived.Test.YbulkdrrkDoorCards
import Derived.SevenTiedAt
namespace Go.Proofs.YbulkdrrkDoor
open Go.ChangeShapes Go.WideShapes Go.ChangeAt Go.RowKit

theorem Ybad.own : ownKnob Ybad.prog.godebug = none := by kernel_rfl
theorem gTabType : (Ybad.prog.globals[0]?).map (·.type) = some 37 := by kernel_rfl

/-- The door's own heap meets the condition. -/
theorem door_met (os : Os) (args : Array Value) : laidMetH Ybad.prog Rows.lawS5925AWholeRow.laid ((World.doorLaid Ybad.prog 24 os).forCall (fun _ _ => 0) ⟨#[], args, []⟩).memory :=
  laidMetH_of_parts3 (fuel := 8) (laidMet_of_run' 8 (by kernel_rfl) (by kernel_rfl)) (by kernel_rfl) (by kernel_rfl)

theorem laid_eq : (Rows.laid_internal_strconv_uint64pow10 : DataW Unit) = Lib.tabData .u64 Lib.pow10Tab := by
  rfl

theorem tab_of_laid {W : World} (h : laidMetH Ybad.prog Rows.lawS5925AWholeRow.laid W) : Tab W := by
  rw [MakeChecks.laidMetH_plain _ _ _ (by kernel_rfl)] at h
  have h2 : laidMet Ybad.prog [(tabName, Lib.tabData .u64 Lib.pow10Tab)] W := by
    rw [← laid_eq]
    exact h.tail.tail
  exact Lib.tabIs_of_head Ybad.gTab gTabType Ybad.underlying37 Ybad.underlying27 (by kernel_rfl) (by kernel_rfl) h2

set_option maxRecDepth 100000 in
theorem lawS5925AWhole_lifted (os : Os) (started : os.Started) (H : Type) (enc : TypeId × Value → H) :
    ReturnsInHanded {} Ybad.checked os 3 .any (fun w args => (Rows.lawS5925AWholeSpec.pre enc Ybad.prog Ybad.f3 [] false w args ∧ laidMetH Ybad.prog Rows.lawS5925AWholeRow.laid w) ∧ sizedMet enc Ybad.prog Ybad.f3 (OpenSpec.ofChange Rows.lawS5925AWholeSpec) false w args)
      (Rows.lawS5925AWholeSpec.post enc Ybad.prog Ybad.f3 false true false false) := by
  refine returnsInHanded_of_change_and (C := Ybad.checked) (X := fun w _ => laidMetH Ybad.prog Rows.lawS5925AWholeRow.laid w) (fun _ _ _ hh h => h.of_heap hh) Ybad.own started (by kernel_rfl) Ybad.func3
    (ChangeSpec.witness_shaped (enc := enc) (C := Ybad.checked) (os := os) (X := fun w _ => laidMetH Ybad.prog Rows.lawS5925AWholeRow.laid w) false (World.doorLaid Ybad.prog 24 os) #[.string ⟨#[]⟩, .string ⟨#[]⟩, .int .i64 0] 8 rfl (World.shaped_of_RefB (by kernel_rfl) (by kernel_rfl)) (by kernel_rfl) (by kernel_rfl) (by kernel_rfl) (door_met os _)) ?_
  intro W base args ds gs before hval0 hW _ hsz0 hL _
  have hsz : (DataW.weightsEach Ybad.prog (Ybad.f3.params.toList ++ Rows.lawS5925AWholeSpec.plain.varTypes Ybad.prog) (ds ++ gs)).all (· ≤ reachBytes) = true := hsz0
  have hval : ∀ (j : Nat) t v, Ybad.f3.params[j]? = some t → args[j]? = some v → Value.okWide Ybad.prog W .any base t v := hval0
  have hW' := hW
  obtain ⟨p, q, hA0, hV, rfl, hfz, hnd⟩ := hW
  have hA : DataW.TrodAll enc Ybad.prog W 0 (fun _ => true) true Ybad.f3.params.toList args.toList ds p := hA0
  rw [Ybad.params3] at hA hval
  obtain ⟨v0, v1, v2, d0, d1, d2, p0, p1, p2, rfl, rfl, rfl, h0, h1, h2⟩ := trodAll_three hA
  obtain ⟨rfl, rfl⟩ := trodVars_none hV
  obtain ⟨fn, rfl, rfl, rfl, mf⟩ := Go.ChangeMaps.open_string Ybad.underlying9 (hval 0 9 v0 rfl rfl) h0
  obtain ⟨fi, rfl, rfl, rfl, mi⟩ := Go.ChangeMaps.open_string Ybad.underlying9 (hval 1 9 v1 rfl rfl) h1
  obtain ⟨n, rfl, rfl, rfl, wn⟩ := open_int Ybad.underlying3 (hval 2 3 v2 rfl rfl) h2
  have hw0 : fn.size ≤ reachBytes := of_decide_eq_true (List.all_eq_true.1 hsz _ (DataW.weights_mem_each (j := 0) (t := 9) rfl rfl fn.size (by simp [DataW.weights])))
  have hw1 : fi.size ≤ reachBytes := of_decide_eq_true (List.all_eq_true.1 hsz _ (DataW.weights_mem_each (j := 1) (t := 9) rfl rfl fi.size (by simp [DataW.weights])))
  clear hA0 hval0 hsz hsz0
  simp only [List.append_nil] at hW'
  obtain ⟨n0, n1⟩ : -9223372036854775808 ≤ n ∧ n ≤ 9223372036854775807 := by
    have := Go.Extern.FmtText.int_bounds wn
    simpa [IntKind.min, IntKind.max, IntKind.signed, IntKind.bits] using this
  refine (law_any fn fi n n0 n1 W (tab_of_laid hL) (by simp only [reachBytes] at hw0 hw1; omega)).mono fun e W' ⟨he, bel⟩ => ?_
  subst he
  exact ⟨_, rfl, _, _, _, [], _, [], hW', trodAll_mk1 (shut_bool Ybad.underlying4 _), (trodAll_cons_mk (Go.ChangeMaps.shut_string Ybad.underlying9 mf) (trodAll_cons_mk (Go.ChangeMaps.shut_string Ybad.underlying9 mi) (trodAll_cons_mk (shut_int Ybad.underlying3 wn) trodAll_mk0))), rfl, bel.frame _, fun h => by cases h⟩

theorem lawS5925AWhole_holds : Rows.LawS5925AWholeSaid :=
  OpenClaim.holds_of_wide 3 Ybad.f3 rfl rfl rfl rfl rfl rfl rfl ⟨rfl, rfl, rfl, rfl, rfl⟩ rfl rfl rfl rfl rfl (by kernel_rfl) Ybad.func3 (by kernel_rfl)
    (of_decide_eq_true (by kernel_rfl)) (by unfold Func.isWrapper; first | (rw [if_pos (by decide +kernel)]; kernel_rfl) | (rw [if_neg (by decide +kernel)]; exact ⟨rfl, rfl⟩))
    (fun os started H enc _ => lawS5925AWhole_lifted os started H enc)

theorem lawS5925AWholeCard_holds : Rows.LawS5925AWholeCardSaid :=
  Claim7.holds_tied_plain_at .later [] [.data, .data, .data] true Rows.lawS5925AWholeCard.stood.harness false
    lawS5925AWhole_holds (fun _ h => by cases h) (by kernel_rfl) (fun _ h => by cases h) lawS5925AWhole_row_tie rfl ⟨rfl, rfl⟩ (by kernel_rfl) rfl
    (fun f fn hf hfn => by
      obtain rfl : f = 3 := Option.some.inj ((show Ybad.prog.funcNamed Rows.lawS5925AWholeRow.func = some 3 by kernel_rfl).symm.trans hf) |>.symm
      obtain rfl : fn = Ybad.f3 := (Option.some.inj (Ybad.func3.symm.trans hfn)).symm
      exact ⟨by kernel_rfl, fun j t ht => by
        rw [Ybad.params3] at ht
        have h3 : t = 9 ∨ t = 3 := by
          rcases j with _ | _ | _ | j
          · left; simpa using ht.symm
          · left; simpa using ht.symm
          · right; simpa using ht.symm
          · simp at ht
        rcases h3 with rfl | rfl
        · exact (show Ybad.prog.wantsStandIn 9 = false by kernel_rfl)
        · exact (show Ybad.prog.wantsStandIn 3 = false by kernel_rfl)⟩)
    (by kernel_rfl)
end Go.Proofs.YbulkdrrkDoor
