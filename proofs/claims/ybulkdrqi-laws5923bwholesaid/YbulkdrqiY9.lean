import Derived.Test.YbulkdrqiY8
namespace Go.Proofs.Ybulkdrqi
open Go.RowKit Go.Conc
variable {w w' : World} {P L LG CL SA : Nat} {v : PV} {s : Value} {l : List Int} {st : Int}

/-- The context is not done. -/
def Dn (w : World) (B P : Nat) (dn : Value) : Prop := dn = .chan none ∨ ∃ c cap s r tm, dn = .chan (some c) ∧ w.heap[c]? = some (.chan cap #[] false s r tm) ∧ c < B ∧ c ≠ P
theorem Dn.same {B : Nat} {dn : Value} (h : Dn w B P dn) (e : ∀ k, k < B → k ≠ P → w'.heap[k]? = w.heap[k]?) : Dn w' B P dn := by
  rcases h with h | ⟨c, cap, s, r, tm, h1, h2, h3, h4⟩
  · exact Or.inl h
  · exact Or.inr ⟨c, cap, s, r, tm, h1, (e c h3 h4).trans h2, h3, h4⟩
theorem cancelled_not {B : Nat} (h : Pp w P v) (hd : Dn w B P v.done) : Calls Yba.prog 18 #[.pointer (some ⟨P, 0, none⟩)] w fun e w' => e = .returned (.bool false) ∧ w' = w := by
  have c4 := h.c4
  rcases hd with hd | ⟨c, cap, s, r, tm, h1, h2, _, _⟩
  · rw [hd] at c4; exact cancelled_nil P w c4
  · rw [h1] at c4; exact cancelled_open P c cap s r tm w c4 h2

def fv (LG CL SA : Nat) : Value := .func (.func 8) #[] #[.pointer (some ⟨LG, 0, none⟩), .pointer (some ⟨CL, 0, none⟩), .pointer (some ⟨SA, 0, none⟩)]

set_option maxRecDepth 100000 in
theorem deliver_any (B : Nat) (x : Int) (hP : Pp w P v) (hd : Dn w B P v.done) (h : Lg w L LG CL SA s l st) (hL : L ≤ w.heap.size) (h0 : P < L) (h1 : LG < L) (h2 : CL < L) (h3 : SA < L) (hne : LG ≠ CL) (hn1 : SA ≠ LG) (hn2 : SA ≠ CL) (hp1 : P ≠ LG) (hp2 : P ≠ CL) (hp3 : P ≠ SA)
    (hlen : l.length ≤ 1000000) (hst : 0 ≤ st ∧ st < 256) :
    Calls Yba.prog 40 #[.pointer (some ⟨P, 0, none⟩), .int .i64 x, fv LG CL SA] w fun e w' => e = .returned (.bool ((((l.length + 1 : Nat) : Int)) != st)) ∧
      Pp w' P { v with yi := wrap64 (v.yi + 1) } ∧ (∃ s', Lg w' L LG CL SA s' (l ++ [x]) st) ∧ Ch (fun k => k = P ∨ k = LG ∨ k = CL) L w w' := by
  have hcan := cancelled_not hP hd
  have c279 := hP.c279
  have f279 := hP.free 279 (by omega)
  have H : Hid (Pp w P v) := hP
  have HL : Hid (Lg w L LG CL SA s l st) := h
  clear hP h hd
  simp only [fv]
  go_enter Yba.func40, Yba.ntmps40
  go_upto_region 4 with (first
    | (go_at_call 18; refine hcan.mono ?_; rintro e w1 ⟨rfl, hw⟩; obtain rfl := hw.symm))
  have H1 : Pp (w.setCell ⟨P, 279, none⟩ (.int .i64 (wrap64 (v.yi + 1)))) P { v with yi := wrap64 (v.yi + 1) } := H.out.setYi _
  have L1 : Lg (w.setCell ⟨P, 279, none⟩ (.int .i64 (wrap64 (v.yi + 1)))) L LG CL SA s l st := HL.out.same (by simp [World.setCell]) (Below.heap_setCell _ _ _ _ (Ne.symm hp1)) (Below.heap_setCell _ _ _ _ (Ne.symm hp2)) (Below.heap_setCell _ _ _ _ (Ne.symm hp3)) (fun k hk _ => Below.heap_setCell _ _ _ _ (show k ≠ P by omega))
  have C1 : Ch (fun k => k = P ∨ k = LG ∨ k = CL) L w (w.setCell ⟨P, 279, none⟩ (.int .i64 (wrap64 (v.yi + 1)))) := ⟨rfl, rfl, rfl, by simp [World.setCell], fun k _ hn => Below.heap_setCell _ _ _ _ (fun e => hn (Or.inl e))⟩
  have hL1 : L ≤ (w.setCell ⟨P, 279, none⟩ (.int .i64 (wrap64 (v.yi + 1)))).heap.size := by simpa [World.setCell] using hL
  clear hcan c279 f279 H HL
  generalize w.setCell ⟨P, 279, none⟩ (.int .i64 (wrap64 (v.yi + 1))) = w1 at *
  have hy := yield_any x L1 hL1 h1 h2 h3 hne hn1 hn2 hlen hst
  go_wp2_with (first
    | (go_at_call 8; refine hy.mono ?_; rintro e w2 ⟨rfl, ⟨s', L2⟩, C2⟩
       have HL2 : Hid (Lg w2 L LG CL SA s' (l ++ [x]) st) := L2
       have HC2 : Hid (Ch (fun k => k = LG ∨ k = CL) L w1 w2) := C2
       clear L2 C2))
  go_ret
  refine ⟨by simp, H1.same (HC2.out.block P h0 (fun e => by rcases e with e | e; exact hp1 e; exact hp2 e)), ⟨s', HL2.out⟩, C1.trans (HC2.out.mono (fun k _ e => Or.inr e))⟩

set_option maxRecDepth 100000 in
theorem take_any (B : Nat) (ix x : Int) (hP : Pp w P v) (hd : Dn w B P v.done) (hBL : B ≤ L) (h : Lg w L LG CL SA s l st) (hL : L ≤ w.heap.size) (h0 : P < L) (h1 : LG < L) (h2 : CL < L) (h3 : SA < L) (hne : LG ≠ CL) (hn1 : SA ≠ LG) (hn2 : SA ≠ CL) (hp1 : P ≠ LG) (hp2 : P ≠ CL) (hp3 : P ≠ SA)
    (hlen : l.length ≤ 1000000) (hst : 0 ≤ st ∧ st < 256) :
    Calls Yba.prog 32 #[.pointer (some ⟨P, 0, none⟩), .agg #[.int .i64 ix, .int .i64 x], fv LG CL SA] w fun e w' => e = .returned (.bool ((((l.length + 1 : Nat) : Int)) != st)) ∧
      Pp w' P { v with yi := wrap64 (v.yi + 1) } ∧ (∃ s', Lg w' L LG CL SA s' (l ++ [x]) st) ∧ Ch (fun k => k = P ∨ k = LG ∨ k = CL) L w w' := by
  have hbA : Below w.heap.size w (w.alloc (.cells #[.int .i64 ix, .int .i64 x] 83)) := by go_grown
  have hP1 : Pp (w.alloc (.cells #[.int .i64 ix, .int .i64 x] 83)) P v := hP.same (hbA.block P hP.lt)
  have hd1 : Dn (w.alloc (.cells #[.int .i64 ix, .int .i64 x] 83)) B P v.done := hd.same (fun k hk _ => hbA.block k (by omega))
  have hl1 : Lg (w.alloc (.cells #[.int .i64 ix, .int .i64 x] 83)) L LG CL SA s l st := h.same hbA.size (hbA.block _ (by omega)) (hbA.block _ (by omega)) (hbA.block _ (by omega)) (fun k _ hk => hbA.block k hk)
  have hL1 : L ≤ (w.alloc (.cells #[.int .i64 ix, .int .i64 x] 83)).heap.size := Nat.le_trans hL hbA.size
  have C1 : Ch (fun k => k = P ∨ k = LG ∨ k = CL) L w (w.alloc (.cells #[.int .i64 ix, .int .i64 x] 83)) := ⟨hbA.os, hbA.tape, hbA.output, hbA.size, fun k hk _ => hbA.block k (by omega)⟩
  have n0 : (w.alloc (.cells #[.int .i64 ix, .int .i64 x] 83)).cell? ⟨w.heap.size, 1, none⟩ = some (.int .i64 x) := rangeAt_new w [.int .i64 ix, .int .i64 x] 83 1 _ rfl
  have c280 := hP1.c280
  have hdl := deliver_any B x hP1 hd1 hl1 hL1 h0 h1 h2 h3 hne hn1 hn2 hp1 hp2 hp3 hlen hst
  have HP : Hid (Pp w P v) := hP
  clear hbA hP hd h hd1 hl1
  have hfv : ∃ f, f = fv LG CL SA := ⟨_, rfl⟩
  obtain ⟨f, hf⟩ := hfv
  rw [← hf] at hdl ⊢
  clear hf
  go_enter Yba.func32, Yba.ntmps32
  go_wp2_with (first
    | (go_at_call 40; refine hdl.mono ?_; rintro e w2 ⟨rfl, P2, ⟨s', L2⟩, C2⟩
       have HP2 : Hid (Pp w2 P { v with yi := wrap64 (v.yi + 1) }) := P2
       have HL2 : Hid (Lg w2 L LG CL SA s' (l ++ [x]) st) := L2
       have HC2 : Hid (Ch (fun k => k = P ∨ k = LG ∨ k = CL) L _ w2) := C2
       clear P2 L2 C2))
  go_ret
  exact ⟨by simp, HP2.out, ⟨s', HL2.out⟩, C1.trans HC2.out⟩

set_option maxRecDepth 100000 in
theorem keep_nil (b : Nat) (hP : Pp w P v) (hf : v.fault = .pointer none) :
    Calls Yba.prog 33 #[.pointer (some ⟨P, 0, none⟩), .pointer (some ⟨b, 0, none⟩)] w fun e w' => e = .returned (.tuple #[]) ∧ w' = w.setCell ⟨P, 322, none⟩ (.pointer (some ⟨b, 0, none⟩)) := by
  have c := hP.c322
  have f := hP.free 322 (by omega)
  rw [hf] at c
  clear hP
  go_enter Yba.func33, Yba.ntmps33
  go_wp2_with fail
  go_end0
  exact ⟨rfl, rfl⟩
set_option maxRecDepth 100000 in
theorem keep_some (b : Nat) (a : Addr) (hP : Pp w P v) (hf : v.fault = .pointer (some a)) :
    Calls Yba.prog 33 #[.pointer (some ⟨P, 0, none⟩), .pointer (some ⟨b, 0, none⟩)] w fun e w' => e = .returned (.tuple #[]) ∧ w' = w := by
  have c := hP.c322
  rw [hf] at c
  clear hP
  go_enter Yba.func33, Yba.ntmps33
  go_wp2_with fail
  go_end0
  exact ⟨rfl, rfl⟩
end Go.Proofs.Ybulkdrqi
