import Derived.Test.YbulkdrqiZ3
namespace Go.Proofs.Ybulkdrqi
open Go.RowKit Go.Conc
variable {w0 w w' : World} {P B n K Fa SA : Nat} {v u : PV} {ft : Value} {sz ln hd : Nat → Nat} {V : Nat → Nat → Int} {fl : Nat → Bool} {st : Int} {l : List Int} {i q : Nat}

set_option maxRecDepth 100000 in
theorem await_cancel (f : Value) (b c cap s r : Nat) (tm : Bool) (w : World) (h : w.cell? ⟨b, 4, none⟩ = some (.chan (some c))) (hc : w.heap[c]? = some (.chan cap #[] true s r tm)) :
    Calls Yba.prog 9 #[.pointer (some ⟨b, 0, none⟩), f] w fun e w' => e = .returned (.bool false) ∧ w' = w := by
  have hcan := cancelled_shut b c cap s r tm w h hc
  clear h hc
  go_enter Yba.func9, Yba.ntmps9
  go_wp2_with (first
    | (go_at_call 18; refine hcan.mono ?_; rintro e w1 ⟨rfl, hw⟩; obtain rfl := hw.symm))
  go_ret
  exact ⟨rfl, rfl⟩

/-- p behind the wait. -/
def vw (v : PV) : PV := { v with si := 0, wt := !(v.fl || v.us), us := v.us && v.fl }

set_option maxRecDepth 100000 in
theorem await_go (stn : Nat) (fo : Option Addr) (x : Int) (s r : Nat) (tm : Bool) (y : Ly P B K Fa SA) (hP : Pp w P v) (hfo : v.fault = .pointer fo) (hcr : v.crew = .slice (some ⟨K, 0, none⟩) n n) (hn : n ≤ 65536) (hst : stn < 256) (hcol : wrap64 v.col = v.col) (hyi : wrap64 v.yi = v.yi)
    (hdn : Dn w B P v.done) (hdw : ∀ c, v.done = .chan (some c) → c ≠ v.wake) (hC : Cr w B n K Fa sz ln (fun _ => 0) V fl) (s0 : Value) (hL : Lg w (B + 4 * n + 2) (B + 4 * n) (B + 4 * n + 1) SA s0 [] (stn : Int)) (hs : B + 4 * n + 2 ≤ w.heap.size) (htot : sm ln n ≤ 65536)
    (q1 : w.cell? ⟨v.QB, 66, none⟩ = some (.int .u64 x)) (q2 : w.cell? ⟨v.QB, 131, none⟩ = some (.int .u64 x)) (hQP : v.QB ≠ P) (hQw : v.QB ≠ v.wake) (hwk : w.heap[v.wake]? = some (.chan 1 #[.agg #[]] false s r tm)) (hwP : v.wake ≠ P) (hwB : v.wake < B) (hwK : v.wake ≠ K) (hwF : v.wake ≠ Fa) (hwS : v.wake ≠ SA) :
    Calls Yba.prog 9 #[.pointer (some ⟨P, 0, none⟩), fv (B + 4 * n) (B + 4 * n + 1) SA] w fun e w' => ∃ w1 i q kd, fin stn ln fl n 0 0 = (i, q, kd) ∧ e = .returned (.bool (kd == 0)) ∧
      Co w1 w' P B n K Fa SA (vw v) (ftv kd v.fault (B + 4 * i)) sz ln V fl (stn : Int) i q ∧ Wk w' v.wake tm (n1 (v.fl || v.us)) ∧ Ch (fun k => k = P ∨ k = v.wake ∨ B ≤ k) (B + 4 * n + 2) w w' := by
  have hcan := cancelled_not hP hdn
  have hy1 := y.p; have hy2 := y.k; have hy3 := y.f; have hy4 := y.s
  have hwt := wait_any (some ⟨K, 0, none⟩) n n K (.pointer (some ⟨B + 4 * 0 + 3, 0, none⟩)) x s r tm hP hcr (by omega) (fun _ => rfl) (fun hp => hC.k 0 hp) (Ne.symm y.pk) (Ne.symm hwK) q1 q2 hQP hQw hwk hwP
  have hco : ∀ w1, Pp w1 P (vw v) → Touch P v.wake w w1 → Calls Yba.prog 20 #[.pointer (some ⟨P, 0, none⟩), fv (B + 4 * n) (B + 4 * n + 1) SA] w1 fun e w' => ∃ i q kd, fin stn ln fl n 0 0 = (i, q, kd) ∧ e = .returned (.bool (kd == 0)) ∧
      Co w1 w' P B n K Fa SA (vw v) (ftv kd v.fault (B + 4 * i)) sz ln V fl (stn : Int) i q := fun w1 h1 ht => by
    have eb : ∀ k, k < w.heap.size → k ≠ P → k ≠ v.wake → w1.heap[k]? = w.heap[k]? := ht.block
    refine collect_any (v := vw v) stn fo y h1 hfo hcr hn hst hcol hyi ?_ ?_ s0 ?_ (Nat.le_trans hs ht.size) htot
    · rcases hdn with hd | ⟨c, cap, s', r', tm', h2, h3, h4, h5⟩
      · exact Or.inl hd
      · exact Or.inr ⟨c, cap, s', r', tm', h2, (eb c (by omega) h5 (hdw c h2)).trans h3, h4, h5⟩
    · exact hC.same (eb _ (by omega) (Ne.symm y.pk) (Ne.symm hwK)) (eb _ (by omega) (Ne.symm y.pf) (Ne.symm hwF)) (fun k h2 h3 => eb k (by omega) (by omega) (by omega))
    · exact hL.same ht.size (eb _ (by omega) (by omega) (by omega)) (eb _ (by omega) (by omega) (by omega)) (eb _ (by omega) (Ne.symm y.ps) (Ne.symm hwS)) (fun k h2 h3 => eb k h3 (by omega) (by omega))
  have HCO : Hid (∀ w1, Pp w1 P (vw v) → Touch P v.wake w w1 → Calls Yba.prog 20 #[.pointer (some ⟨P, 0, none⟩), fv (B + 4 * n) (B + 4 * n + 1) SA] w1 fun e w' => ∃ i q kd, fin stn ln fl n 0 0 = (i, q, kd) ∧ e = .returned (.bool (kd == 0)) ∧
      Co w1 w' P B n K Fa SA (vw v) (ftv kd v.fault (B + 4 * i)) sz ln V fl (stn : Int) i q) := hco
  clear hP hcr hdn hdw hC hL q1 q2 hwk hfo hco
  obtain ⟨f, hf⟩ : ∃ f, f = fv (B + 4 * n) (B + 4 * n + 1) SA := ⟨_, rfl⟩
  have HF : Hid (f = fv (B + 4 * n) (B + 4 * n + 1) SA) := hf
  rw [← hf]
  clear hf
  go_enter Yba.func9, Yba.ntmps9
  go_upto_region 4 with (first
    | (go_at_call 18; refine hcan.mono ?_; rintro e w1 ⟨rfl, hw⟩; obtain rfl := hw.symm)
    | (go_at_call 19; refine hwt.mono ?_; rintro e w1 ⟨rfl, a1, a2, a3⟩
       have hcl := HCO.out w1 a1 a2
       have HT : Hid (Touch P v.wake w w1) := a2
       have HK : Hid (Wk w1 v.wake tm (n1 (v.fl || v.us))) := a3
       clear a1 a2 a3))
  rw [← HF.out] at hcl
  go_wp2_with (first
    | (go_at_call 20; refine hcl.mono ?_; rintro e w2 ⟨i, q, kd, b1, rfl, b2⟩
       have HB1 : Hid (fin stn ln fl n 0 0 = (i, q, kd)) := b1
       have HB2 : Hid (Co w1 w2 P B n K Fa SA (vw v) (ftv kd v.fault (B + 4 * i)) sz ln V fl (stn : Int) i q) := b2
       clear b1 b2))
  go_ret
  refine ⟨w1, i, q, kd, HB1.out, rfl, HB2.out, ?_, ?_⟩
  · obtain ⟨buf, s', r', h1, h2⟩ := HK.out
    exact ⟨buf, s', r', (HB2.out.ch.block v.wake (by omega) (by omega)).trans h1, h2⟩
  · have h1 := HT.out
    have h2 := HB2.out.ch
    exact ⟨h2.os.trans h1.os, h2.tape.trans h1.tape, h2.output.trans h1.output, Nat.le_trans h1.size h2.size, fun k hk hn => (h2.block k hk (by omega)).trans (h1.block k (by omega) (by omega) (by omega))⟩
end Go.Proofs.Ybulkdrqi
