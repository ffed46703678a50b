import Derived.Test.YbulkdrqiY7
import Derived.ArgAppend
namespace Go.Proofs.Ybulkdrqi
open Go.RowKit Go.Conc

/-- A slice of the call's own: n elements of 'size' cells, the cells cs; nil, or at the head of a block from L on. -/
def Sl (w : World) (L size : Nat) (v : Value) (n : Nat) (cs : List Value) : Prop :=
  cs.length = n * size ∧ ((v = .slice none 0 0 ∧ n = 0) ∨ ∃ g cap, v = .slice (some ⟨g, 0, none⟩) n cap ∧ L ≤ g ∧ g < w.heap.size ∧ (n ≤ cap ∧ cap ≤ maxLen) ∧ w.rangeAt g 0 cs ∧ w.there g 0 (cap * size))

theorem Sl.same {w w' : World} {L size n : Nat} {v : Value} {cs : List Value} (h : Sl w L size v n cs) (hs : w.heap.size ≤ w'.heap.size) (hb : ∀ k, v.ownBlock = some k → w'.heap[k]? = w.heap[k]?) : Sl w' L size v n cs := by
  obtain ⟨hl, h | ⟨g, cap, rfl, h1, h2, h3, h4, h5⟩⟩ := h
  · exact ⟨hl, Or.inl h⟩
  · exact ⟨hl, Or.inr ⟨g, cap, rfl, h1, by omega, h3, rangeAt_block h4 (hb g rfl), there_block h5 (hb g rfl)⟩⟩

theorem Sl.of_own {w : World} {L base size n : Nat} {v : Value} {e : TypeId} {cs : List Value} (h : w.ownsRow base e size v n cs) (hL : L ≤ base) : Sl w L size v n cs := by
  obtain ⟨hl, h2⟩ := h
  rcases h2 with ⟨rfl, h0⟩ | ⟨g, cap, cur, rfl, hg, hh, hn, hcm, hsz, htake⟩
  · exact ⟨hl, Or.inl ⟨rfl, h0⟩⟩
  · have hlt : g < w.heap.size := (Array.getElem?_eq_some_iff.1 hh).1
    refine ⟨hl, Or.inr ⟨g, cap, rfl, by omega, hlt, ⟨hn, hcm⟩, fun j v hv => ?_, fun j hj => ?_⟩⟩
    · have hj : j < n * size := by
        have := (List.getElem?_eq_some_iff.1 hv).1
        omega
      rw [← htake, List.getElem?_take_of_lt hj] at hv
      simp only [World.cell?, hh, Nat.zero_add]
      simpa using hv
    · constructor
      · simp only [World.cell?, hh, Nat.zero_add]
        simp [Array.getElem?_eq_getElem (by omega : j < cur.size)]
      · simp [World.frozen?, hh]

/-- 'append(s, x)', one element, both arms: the operation written out. -/
theorem wpList_append_sl {ops : Array Oper} {rest : List Oper} {d : Option Tmp} {tt : TypeId} {ps : String} {af : Array Edge} {a : Act} {Q' : Exit → Act → World → Prop} (s x : Operand) (t e : TypeId) (i : TypeInfo) (z : Value) (size bytes : Nat)
    (hu : Yba.prog.underlying t = some (.slice e)) (hi : Yba.prog.info? e = some i) (hz : i.zero = some z) (hsz : i.size = size) (hby : i.bytes = bytes) (hzc : z.cells.size = size) (hs0 : 0 < size)
    (w : World) (L : Nat) (v : Value) (n : Nat) (cs : List Value) (hs : a.eval s = v) (hS : Sl w L size v n cs) (hlen : n ≤ 1000000000) (hb100 : bytes ≤ 100) (hL : L ≤ w.heap.size)
    (b c : Nat) (news : List Value) (hx : a.eval x = .slice (some ⟨b, 0, none⟩) 1 c) (hn : news.length = size) (hj : w.rangeAt b 0 news) (h1c : ∀ u ∈ news, u.oneCell' = true)
    (h : ∀ v' w', Sl w' L size v' (n + 1) (cs ++ news) → w.heap.size ≤ w'.heap.size → (∀ k, k < w.heap.size → v.ownBlock ≠ some k → w'.heap[k]? = w.heap[k]?) → (v'.ownBlock = v.ownBlock ∨ ∃ g, v'.ownBlock = some g ∧ w.heap.size ≤ g) →
      w'.os = w.os ∧ w'.tape = w.tape ∧ w'.output = w.output → wpList Yba.prog ops Q' rest (a.put d v') w') :
    wpList Yba.prog ops Q' (⟨d, .call { callee := .builtin .append, args := #[s, x], argTypes := #[t, t] }, tt, ps, af, none⟩ :: rest) a w := by
  have hc : ∀ j u, news[j]? = some u → w.cell? ((⟨b, 0, none⟩ : Addr).add j) = some u := fun j u hu => by rw [Addr.add_mid]; exact hj j u hu
  have hbound : (n + 1) * bytes ≤ 140737488355328 := Nat.le_trans (Nat.mul_le_mul_left _ hb100) (by omega)
  have hgrow : ∀ v' w', w'.ownsRow w.heap.size e size v' (n + 1) (cs ++ news) → w.grownBy w' none → wpList Yba.prog ops Q' rest (a.put d v') w' := fun v' w' ho hg => by
    refine h v' w' (Sl.of_own ho hL) hg.size (fun k hk _ => hg.block k hk (by simp)) ?_ ⟨hg.os, hg.tape, hg.output⟩
    obtain ⟨_, h2⟩ := ho
    rcases h2 with ⟨_, h0⟩ | ⟨g, cap, cur, rfl, hg', _⟩
    · omega
    · exact Or.inr ⟨g, rfl, hg'⟩
  obtain ⟨hl, ⟨rfl, rfl⟩ | ⟨g, cap, rfl, g1, g2, g3, g4, g5⟩⟩ := hS
  · obtain rfl : cs = [] := List.length_eq_zero_iff.1 (by omega)
    exact wpList_append_grows w rfl s x t rfl e i z size bytes hu hi hz hsz hby hzc hs0 none 0 0 [] hs (fun _ => ⟨rfl, rfl⟩) (by simp) (fun b hb => by cases hb) ⟨b, 0, none⟩ 1 c news hx (by omega) hc h1c (by decide) (by decide) hbound hgrow
  · refine wpList_append_arg w rfl s x t rfl e i z size bytes hu hi hz hsz hby hzc hs0 g 0 n cap cs hs hl g4 ⟨b, 0, none⟩ 1 c news hx (by omega) hc h1c ?_ (by unfold maxLen; omega) hbound ?_ (fun _ => hgrow)
    · intro hr j hj2
      have := g5 (n * size + j) (by have : (n + 1) * size ≤ cap * size := Nat.mul_le_mul_right _ hr; rw [Nat.add_mul] at this; omega)
      rwa [← Nat.add_assoc] at this
    · intro hr
      have hcs : (n + 1) * size ≤ cap * size := Nat.mul_le_mul_right _ hr
      rw [Nat.add_mul] at hcs
      have hth : w.there g (0 + n * size) news.length := fun j hj2 => by
        have := g5 (n * size + j) (by omega)
        rwa [← Nat.add_assoc] at this
      have hos := os_setCells g news (0 + n * size) w
      refine h _ _ ⟨by rw [List.length_append, hl, hn, Nat.add_mul]; omega, Or.inr ⟨g, cap, rfl, g1, by rw [size_setCells]; exact g2, ⟨hr, g3.2⟩, ?_, World.there_setCells g5 _ _ _⟩⟩ (by rw [size_setCells]; exact Nat.le_refl _) (fun k hk hne => block_setCells g k (fun e => hne (by rw [e]; rfl)) _ _ _) (Or.inl rfl) hos
      intro j u hu
      by_cases hlt : j < n * size
      · rw [List.getElem?_append_left (by omega)] at hu
        exact World.rangeAt_setCells_apart g4 g (0 + n * size) news (Or.inr (Or.inl (by omega))) j u hu
      · rw [List.getElem?_append_right (by omega), hl] at hu
        have := World.rangeAt_setCells_same w g (0 + n * size) news hth (j - n * size) u hu
        rw [show 0 + n * size + (j - n * size) = 0 + j by omega] at this
        exact this

theorem Sl.form {w : World} {L n size : Nat} {v : Value} {cs : List Value} (h : Sl w L size v n cs) : ∃ a c, v = .slice a n c := by
  obtain ⟨_, ⟨rfl, rfl⟩ | ⟨g, cap, rfl, _⟩⟩ := h
  · exact ⟨_, _, rfl⟩
  · exact ⟨_, _, rfl⟩
theorem Sl.lt {w : World} {L n size : Nat} {v : Value} {cs : List Value} (h : Sl w L size v n cs) {b : Nat} (hb : v.ownBlock = some b) : b < w.heap.size ∧ L ≤ b := by
  obtain ⟨_, ⟨rfl, _⟩ | ⟨g, cap, rfl, h1, h2, _⟩⟩ := h
  · cases hb
  · cases hb; exact ⟨h2, h1⟩
theorem Yba.info3f : ∃ i, Yba.prog.info? 3 = some i ∧ i.zero = some (.int .i64 0) ∧ i.size = 1 ∧ i.bytes = 8 := by
  have h : (Yba.prog.info? 3).map (fun i => (i.zero, i.size, i.bytes)) = some (some (.int .i64 0), 1, 8) := by kernel_rfl
  obtain ⟨i, hi, e⟩ := Option.map_eq_some_iff.1 h
  simp only [Prod.mk.injEq] at e
  exact ⟨i, hi, e.1, e.2.1, e.2.2⟩
def ints (l : List Int) : List Value := l.map (fun x => Value.int .i64 x)

/-- What the yield closure owns: the log, the count, the stop. -/
structure Lg (w : World) (L LG CL SA : Nat) (s : Value) (l : List Int) (st : Int) : Prop where
  log : w.cell? ⟨LG, 0, none⟩ = some s
  logf : w.frozen? ⟨LG, 0, none⟩ = false
  sl : Sl w L 1 s l.length (ints l)
  cnt : w.cell? ⟨CL, 0, none⟩ = some (.int .i64 (l.length : Int))
  cntf : w.frozen? ⟨CL, 0, none⟩ = false
  stp : w.cell? ⟨SA, 0, none⟩ = some (.int .u8 st)

variable {w w' : World} {L LG CL SA : Nat} {s : Value} {l : List Int} {st : Int}
theorem Lg.same (h : Lg w L LG CL SA s l st) (hs : w.heap.size ≤ w'.heap.size) (e1 : w'.heap[LG]? = w.heap[LG]?) (e2 : w'.heap[CL]? = w.heap[CL]?) (e3 : w'.heap[SA]? = w.heap[SA]?) (e4 : ∀ k, L ≤ k → k < w.heap.size → w'.heap[k]? = w.heap[k]?) : Lg w' L LG CL SA s l st :=
  ⟨(World.cell?_of_block (a := ⟨LG, 0, none⟩) e1).trans h.log, (World.frozen?_of_block (a := ⟨LG, 0, none⟩) e1).trans h.logf, h.sl.same hs (fun k hk => e4 k (h.sl.lt hk).2 (h.sl.lt hk).1), (World.cell?_of_block (a := ⟨CL, 0, none⟩) e2).trans h.cnt, (World.frozen?_of_block (a := ⟨CL, 0, none⟩) e2).trans h.cntf, (World.cell?_of_block (a := ⟨SA, 0, none⟩) e3).trans h.stp⟩

/-- Worlds that part, below L, in a set of blocks alone. -/
structure Ch (S : Nat → Prop) (L : Nat) (w w' : World) : Prop where
  os : w'.os = w.os
  tape : w'.tape = w.tape
  output : w'.output = w.output
  size : w.heap.size ≤ w'.heap.size
  block : ∀ k, k < L → ¬ S k → w'.heap[k]? = w.heap[k]?
theorem Ch.refl (S : Nat → Prop) (L : Nat) (w : World) : Ch S L w w := ⟨rfl, rfl, rfl, Nat.le_refl _, fun _ _ _ => rfl⟩
theorem Ch.trans {S : Nat → Prop} {w1 w2 : World} (h : Ch S L w w1) (k : Ch S L w1 w2) : Ch S L w w2 :=
  ⟨k.os.trans h.os, k.tape.trans h.tape, k.output.trans h.output, Nat.le_trans h.size k.size, fun j hj a => (k.block j hj a).trans (h.block j hj a)⟩
theorem Ch.mono {S S' : Nat → Prop} (h : Ch S L w w') (hs : ∀ k, k < L → S k → S' k) : Ch S' L w w' :=
  ⟨h.os, h.tape, h.output, h.size, fun k hk a => h.block k hk (fun s => a (hs k hk s))⟩

set_option maxRecDepth 100000 in
/-- The yield closure. -/
theorem yield_any (x : Int) (h : Lg w L LG CL SA s l st) (hL : L ≤ w.heap.size) (h1 : LG < L) (h2 : CL < L) (h3 : SA < L) (hne : LG ≠ CL) (hn1 : SA ≠ LG) (hn2 : SA ≠ CL) (hlen : l.length ≤ 1000000) (hst : 0 ≤ st ∧ st < 256) :
    Calls Yba.prog 8 #[.int .i64 x, .pointer (some ⟨LG, 0, none⟩), .pointer (some ⟨CL, 0, none⟩), .pointer (some ⟨SA, 0, none⟩)] w fun e w' => e = .returned (.bool ((((l.length + 1 : Nat) : Int)) != st)) ∧
      (∃ s', Lg w' L LG CL SA s' (l ++ [x]) st) ∧ Ch (fun k => k = LG ∨ k = CL) L w w' := by
  obtain ⟨i3, hi3, hz3, hs3, hb3⟩ := Yba.info3f
  have HI : Hid _ := hi3
  have HZ : Hid _ := hz3
  clear hi3 hz3
  obtain ⟨sa, sc, hsf⟩ := h.sl.form
  subst hsf
  have c1 := h.log
  have hAl : (w.alloc (.cells #[.int .i64 x] 3)).rangeAt w.heap.size 0 [.int .i64 x] := rangeAt_new w [.int .i64 x] 3
  have hbA : Below w.heap.size w (w.alloc (.cells #[.int .i64 x] 3)) := by go_grown
  have hszA : (w.alloc (.cells #[.int .i64 x] 3)).heap.size = w.heap.size + 1 := by simp
  have hSA : Sl (w.alloc (.cells #[.int .i64 x] 3)) L 1 (.slice sa l.length sc) l.length (ints l) := h.sl.same (by omega) (fun k hk => hbA.block k (h.sl.lt hk).1)
  have HAl : Hid _ := hAl
  have HbA : Hid _ := hbA
  have HszA : Hid _ := hszA
  have HSA : Hid (Sl (w.alloc (.cells #[.int .i64 x] 3)) L 1 (.slice sa l.length sc) l.length (ints l)) := hSA
  have H : Hid (Lg w L LG CL SA (.slice sa l.length sc) l st) := h
  clear h hAl hbA hszA hSA
  go_enter Yba.func8, Yba.ntmps8
  go_wp2_with (first
    | ((with_reducible refine wpList_append_sl (.tmp 6) (.tmp 8) 23 3 i3 (.int .i64 0) 1 8 Yba.underlying23 HI.out HZ.out hs3 hb3 ?_ Nat.one_pos _ L (.slice sa l.length sc) l.length (ints l) ?_ ?_ ?_ ?_ ?_ w.heap.size 1 [.int .i64 x] ?_ ?_ ?_ ?_ ?_)))
  · rfl
  · simp [Act.eval]
  · exact HSA.out
  · omega
  · omega
  · rw [HszA.out]; omega
  · simp [Act.eval]
  · rfl
  · exact HAl.out
  · simp [Value.oneCell']
  intro u w2 hS2 hz2 hk2 hb2 ho2
  obtain ⟨ua2, uc2, rfl⟩ := hS2.form
  have hk3 : ∀ k, k < L → w2.heap[k]? = w.heap[k]? := fun k hk => (hk2 k (by rw [HszA.out]; omega) (fun e => by have := (H.out.sl.lt e).2; omega)).trans (HbA.out.block k (by omega))
  have c1' : w2.cell? ⟨LG, 0, none⟩ = some (.slice sa l.length sc) := (World.cell?_of_block (a := ⟨LG, 0, none⟩) (hk3 LG h1)).trans H.out.log
  have f1' : w2.frozen? ⟨LG, 0, none⟩ = false := (World.frozen?_of_block (a := ⟨LG, 0, none⟩) (hk3 LG h1)).trans H.out.logf
  have c2' : w2.cell? ⟨CL, 0, none⟩ = some (.int .i64 (l.length : Int)) := (World.cell?_of_block (a := ⟨CL, 0, none⟩) (hk3 CL h2)).trans H.out.cnt
  have f2' : w2.frozen? ⟨CL, 0, none⟩ = false := (World.frozen?_of_block (a := ⟨CL, 0, none⟩) (hk3 CL h2)).trans H.out.cntf
  have c3' : w2.cell? ⟨SA, 0, none⟩ = some (.int .u8 st) := (World.cell?_of_block (a := ⟨SA, 0, none⟩) (hk3 SA h3)).trans H.out.stp
  have HS2 : Hid (Sl w2 L 1 (.slice ua2 (l.length + 1) uc2) (l.length + 1) (ints l ++ [.int .i64 x])) := hS2
  have Hz2 : Hid _ := hz2
  have Hk3 : Hid _ := hk3
  have Ho2 : Hid _ := ho2
  have hw1 : IntKind.i64.wrap st = st := by rw [IntKind.wrap_i64]; omega
  clear hS2 hz2 hk2 hb2 ho2 hk3 c1
  go_wp2_with fail
  go_ret
  have hne1 : (⟨CL, 0, none⟩ : Addr) ≠ ⟨LG, 0, none⟩ := fun e => hne (by injection e with e; exact e.symm)
  have hb : ∀ k, k ≠ LG → k ≠ CL → ((w2.setCell ⟨LG, 0, none⟩ (.slice ua2 (l.length + 1) uc2)).setCell ⟨CL, 0, none⟩ (.int .i64 ((l.length : Int) + 1))).heap[k]? = w2.heap[k]? := fun k k1 k2 => (Below.heap_setCell _ _ _ _ k2).trans (Below.heap_setCell _ _ _ _ k1)
  have hsz : ((w2.setCell ⟨LG, 0, none⟩ (.slice ua2 (l.length + 1) uc2)).setCell ⟨CL, 0, none⟩ (.int .i64 ((l.length : Int) + 1))).heap.size = w2.heap.size := by simp [World.setCell]
  have hz := Hz2.out
  rw [HszA.out] at hz
  refine ⟨rfl, ⟨.slice ua2 (l.length + 1) uc2, ?_, ?_, ?_, ?_, ?_, ?_⟩, ?_⟩
  · exact (World.cell?_setCell_other _ _ _ _ hne1).trans (World.cell?_setCell_same' w2 _ _ (by rw [c1']; rfl))
  · simpa using f1'
  · have := HS2.out
    have e : ints (l ++ [x]) = ints l ++ [.int .i64 x] := by simp [ints]
    rw [e, List.length_append]
    exact this.same (by rw [hsz]; exact Nat.le_refl _) (fun k hk => hb k (fun e => by have := (HS2.out.lt hk).2; omega) (fun e => by have := (HS2.out.lt hk).2; omega))
  · have hcl : ((w2.setCell ⟨LG, 0, none⟩ (.slice ua2 (l.length + 1) uc2)).cell? ⟨CL, 0, none⟩).isSome = true := by
      rw [World.cell?_setCell_other _ _ _ _ (fun e => hne1 e.symm), c2']; rfl
    rw [World.cell?_setCell_same' _ _ _ hcl]
    simp
  · simpa using f2'
  · exact (World.cell?_of_block (a := ⟨SA, 0, none⟩) (hb SA hn1 hn2)).trans c3'
  · exact ⟨Ho2.out.1, Ho2.out.2.1, Ho2.out.2.2, by rw [hsz]; omega, fun k hk hn => (hb k (fun e => hn (Or.inl e)) (fun e => hn (Or.inr e))).trans (Hk3.out k hk)⟩
end Go.Proofs.Ybulkdrqi
