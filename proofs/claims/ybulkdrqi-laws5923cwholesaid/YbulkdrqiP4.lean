import Derived.Test.YbulkdrqiP3
namespace Go.Proofs.Ybulkdrqi
open Go.RowKit

/-! ### the queue, with no Go in sight -/
structure Q (n h t : Nat) (T : Nat → Nat) (JI JV : Nat → Int) (F : List (Int × Int)) : Prop where
  hlt : h < 18446744073709551616
  len : F.length ≤ n
  tail : t = (h + F.length) % 18446744073709551616
  used : ∀ j (hj : j < F.length), T ((h + j) % n) = (h + j + 1) % 18446744073709551616 ∧ JI ((h + j) % n) = F[j].1 ∧ JV ((h + j) % n) = F[j].2
  free : ∀ j, F.length ≤ j → j < n → T ((h + j) % n) = (h + j) % 18446744073709551616 ∧ JI ((h + j) % n) = 0 ∧ JV ((h + j) % n) = 0

theorem idx_inj {n h i j : Nat} (hi : i < n) (hj : j < n) (e : (h + i) % n = (h + j) % n) : i = j := by
  have hn : 0 < n := by omega
  have h1 : (h + i) % n = (h % n + i) % n := by rw [Nat.add_mod, Nat.add_mod (h % n) i, Nat.mod_mod]
  have h2 : (h + j) % n = (h % n + j) % n := by rw [Nat.add_mod, Nat.add_mod (h % n) j, Nat.mod_mod]
  rw [h1, h2] at e
  have hr : h % n < n := Nat.mod_lt _ hn
  generalize h % n = r at *
  by_cases a : r + i < n
  · by_cases b : r + j < n
    · rw [Nat.mod_eq_of_lt a, Nat.mod_eq_of_lt b] at e; omega
    · rw [Nat.mod_eq_of_lt a, Nat.mod_eq_sub_mod (by omega), Nat.mod_eq_of_lt (by omega)] at e; omega
  · by_cases b : r + j < n
    · rw [Nat.mod_eq_of_lt b, Nat.mod_eq_sub_mod (by omega), Nat.mod_eq_of_lt (by omega)] at e; omega
    · rw [Nat.mod_eq_sub_mod (by omega), Nat.mod_eq_of_lt (by omega : r + i - n < n), Nat.mod_eq_sub_mod (by omega : n ≤ r + j), Nat.mod_eq_of_lt (by omega : r + j - n < n)] at e; omega

theorem mod_n {n x : Nat} (hd : n ∣ 18446744073709551616) : (x % 18446744073709551616) % n = x % n := Nat.mod_mod_of_dvd x hd

variable {n h t : Nat} {T : Nat → Nat} {JI JV : Nat → Int} {F : List (Int × Int)}

theorem Q.turn (q : Q n h t T JI JV F) (hd : n ∣ 18446744073709551616) (hl : F.length < n) : T (t % n) = t := by
  rw [q.tail, mod_n hd]
  exact (q.free _ (Nat.le_refl _) hl).1

theorem Q.put (q : Q n h t T JI JV F) (hd : n ∣ 18446744073709551616) (hl : F.length < n) (ji jv : Int) :
    Q n h ((t + 1) % 18446744073709551616) (upd T (t % n) ((t + 1) % 18446744073709551616)) (upd JI (t % n) ji) (upd JV (t % n) jv) (F ++ [(ji, jv)]) := by
  have ht : t % n = (h + F.length) % n := by rw [q.tail, mod_n hd]
  have ht1 : (t + 1) % 18446744073709551616 = (h + F.length + 1) % 18446744073709551616 := by rw [q.tail]; omega
  rw [ht, ht1]
  refine ⟨q.hlt, by simp; omega, by simp; omega, fun j hj => ?_, fun j hj hn => ?_⟩
  · by_cases e : j = F.length
    · subst e; simp [upd_same]
    · have hj' : j < F.length := by simp at hj; omega
      have hne : (h + j) % n ≠ (h + F.length) % n := fun e' => e (idx_inj (by omega) hl e')
      rw [upd_other _ _ hne, upd_other _ _ hne, upd_other _ _ hne, List.getElem_append_left hj']
      exact q.used j hj'
  · simp at hj
    have hne : (h + j) % n ≠ (h + F.length) % n := fun e' => by have := idx_inj hn hl e'; omega
    rw [upd_other _ _ hne, upd_other _ _ hne, upd_other _ _ hne]
    exact q.free j (by omega) hn

theorem Q.empty (q : Q n h t T JI JV []) : h = t := by
  have := q.tail; have := q.hlt; simp at *; omega

theorem Q.full {f : Int × Int} (q : Q n h t T JI JV (f :: F)) (hn : n < 18446744073709551616) : h ≠ t := by
  have h1 := q.tail; have h2 := q.hlt; have h3 := q.len
  simp only [List.length_cons] at h1 h3
  omega

theorem Q.first {f : Int × Int} (q : Q n h t T JI JV (f :: F)) : JI (h % n) = f.1 ∧ JV (h % n) = f.2 := by
  have := q.used 0 (by simp)
  exact this.2

theorem Q.pop {f : Int × Int} (q : Q n h t T JI JV (f :: F)) (hd : n ∣ 18446744073709551616) :
    Q n ((h + 1) % 18446744073709551616) t (upd T (h % n) ((h + n) % 18446744073709551616)) (upd JI (h % n) 0) (upd JV (h % n) 0) F := by
  have hl := q.len
  simp only [List.length_cons] at hl
  have hidx : ∀ j, ((h + 1) % 18446744073709551616 + j) % n = (h + (j + 1)) % n := fun j => by
    rw [Nat.add_mod, mod_n hd, ← Nat.add_mod]; congr 1; omega
  refine ⟨Nat.mod_lt _ (by decide), by omega, ?_, fun j hj => ?_, fun j hj hn => ?_⟩
  · have := q.tail; simp only [List.length_cons] at this; omega
  · have hne : (h + (j + 1)) % n ≠ h % n := fun e => by have := idx_inj (i := j + 1) (j := 0) (by omega) (by omega) e; omega
    rw [hidx, upd_other _ _ hne, upd_other _ _ hne, upd_other _ _ hne]
    have := q.used (j + 1) (by simp; omega)
    refine ⟨this.1.trans (by omega), this.2.1.trans (by simp), this.2.2.trans (by simp)⟩
  · by_cases e : j + 1 = n
    · have hc : (h + (j + 1)) % n = h % n := by rw [e, Nat.add_mod_right]
      rw [hidx, hc, upd_same, upd_same, upd_same]
      exact ⟨by omega, rfl, rfl⟩
    · have hne : (h + (j + 1)) % n ≠ h % n := fun e' => by have := idx_inj (i := j + 1) (j := 0) (by omega) (by omega) e'; omega
      rw [hidx, upd_other _ _ hne, upd_other _ _ hne, upd_other _ _ hne]
      have := q.free (j + 1) (by simp; omega) (by omega)
      exact ⟨this.1.trans (by omega), this.2⟩

/-- The start: an empty ring at any position. -/
theorem Q.start (hs : h < 18446744073709551616) (hn : 0 < n) :
    Q n h h (fun i => (h + (i + (n - h % n)) % n) % 18446744073709551616) (fun _ => 0) (fun _ => 0) [] := by
  refine ⟨hs, by simp, by simp; omega, fun j hj => by simp at hj, fun j _ hj => ⟨?_, rfl, rfl⟩⟩
  have hr : h % n < n := Nat.mod_lt _ hn
  have : ((h + j) % n + (n - h % n)) % n = j := by
    have h1 : (h + j) % n = (h % n + j) % n := by rw [Nat.add_mod, Nat.add_mod (h % n) j, Nat.mod_mod]
    rw [h1]
    generalize h % n = r at *
    by_cases a : r + j < n
    · rw [Nat.mod_eq_of_lt a, Nat.mod_eq_sub_mod (by omega), Nat.mod_eq_of_lt (by omega)]; omega
    · have e1 : (r + j) % n = r + j - n := by rw [Nat.mod_eq_sub_mod (by omega), Nat.mod_eq_of_lt (by omega)]
      rw [e1, Nat.mod_eq_of_lt (by omega)]; omega
  simp only [this]

/-! ### the slice of the jobs queued -/
def flat (F : List (Int × Int)) : List Value := F.flatMap fun p => [.int .i64 p.1, .int .i64 p.2]
theorem flat_len (F : List (Int × Int)) : (flat F).length = F.length * 2 := by
  induction F with
  | nil => rfl
  | cons a r ih => simp only [flat, List.flatMap_cons, List.length_append] at ih ⊢; simp only [List.length_cons, List.length_nil]; rw [ih]; omega
theorem flat_append (F G : List (Int × Int)) : flat (F ++ G) = flat F ++ flat G := by simp [flat]
theorem flat_one (F : List (Int × Int)) : ∀ v ∈ flat F, v.oneCell' = true := by
  intro v hv
  simp only [flat, List.mem_flatMap] at hv
  obtain ⟨p, _, hp⟩ := hv
  simp at hp
  rcases hp with rfl | rfl <;> rfl

def Fifo (w : World) (L : Nat) (v : Value) (F : List (Int × Int)) : Prop :=
  (v = .slice none 0 0 ∧ F = []) ∨ ∃ g off cap, v = .slice (some ⟨g, off, none⟩) F.length cap ∧ L ≤ g ∧ g < w.heap.size ∧ F.length ≤ cap ∧ w.rangeAt g off (flat F) ∧ w.there g off (cap * 2)

theorem Fifo.same {w w' : World} {L : Nat} {v : Value} (h : Fifo w L v F) (hs : w.heap.size ≤ w'.heap.size) (hb : ∀ k, L ≤ k → k < w.heap.size → w'.heap[k]? = w.heap[k]?) : Fifo w' L v F := by
  rcases h with h | ⟨g, off, cap, e, h1, h2, h3, h4, h5⟩
  · exact Or.inl h
  · exact Or.inr ⟨g, off, cap, e, h1, by omega, h3, rangeAt_block h4 (hb g h1 h2), there_block h5 (hb g h1 h2)⟩

theorem there_of_own {w : World} {g : Nat} {cur : Array Value} {e : TypeId} (h : w.heap[g]? = some (.cells cur e (0, 0))) (m : Nat) (hm : m ≤ cur.size) : w.there g 0 m := fun j hj => by
  constructor
  · simp only [World.cell?, h, Nat.zero_add]
    simp [Array.getElem?_eq_getElem (by omega : j < cur.size)]
  · simp [World.frozen?, h]

theorem Fifo.of_own {w : World} {L base : Nat} {v : Value} {e : TypeId} (h : w.ownsRow base e 2 v F.length (flat F)) (hL : L ≤ base) : Fifo w L v F := by
  obtain ⟨_, h2⟩ := h
  rcases h2 with ⟨rfl, h0⟩ | ⟨g, cap, cur, rfl, hg, hh, hn, _, hsz, htake⟩
  · exact Or.inl ⟨rfl, List.length_eq_zero_iff.1 h0⟩
  · have hlt : g < w.heap.size := (Array.getElem?_eq_some_iff.1 hh).1
    refine Or.inr ⟨g, 0, cap, rfl, by omega, hlt, hn, fun j v hv => ?_, there_of_own hh _ (by omega)⟩
    rw [← htake] at hv
    have hj : j < F.length * 2 := by
      have := (List.getElem?_eq_some_iff.1 hv).1
      simp at this; omega
    rw [List.getElem?_take_of_lt hj] at hv
    simp only [World.cell?, hh, Nat.zero_add]
    simpa using hv

theorem Yba.info90 : ∃ i, Yba.prog.info? 90 = some i ∧ i.zero = some (.agg #[.int .i64 0, .int .i64 0]) ∧ i.size = 2 ∧ i.bytes = 16 := by
  have h : (Yba.prog.info? 90).map (fun i => (i.zero, i.size, i.bytes)) = some (some (.agg #[.int .i64 0, .int .i64 0]), 2, 16) := by kernel_rfl
  obtain ⟨i, hi, e⟩ := Option.map_eq_some_iff.1 h
  simp only [Prod.mk.injEq] at e
  exact ⟨i, hi, e.1, e.2.1, e.2.2⟩

/-- 'fifo = append(fifo, j)', both arms. -/
theorem wpList_append_fifo {ops : Array Oper} {rest : List Oper} {d : Option Tmp} {tt : TypeId} {ps : String} {af : Array Edge} {a : Act} {Q' : Exit → Act → World → Prop} (s x : Operand)
    (w : World) (L : Nat) (v : Value) (F : List (Int × Int)) (hs : a.eval s = v) (hF : Fifo w L v F) (hlen : F.length ≤ 16) (hL : L ≤ w.heap.size)
    (b c : Nat) (ji jv : Int) (hx : a.eval x = .slice (some ⟨b, 0, none⟩) 1 c) (hj : w.rangeAt b 0 [.int .i64 ji, .int .i64 jv])
    (h : ∀ v' w', Fifo w' L v' (F ++ [(ji, jv)]) → Below L w w' → wpList Yba.prog ops Q' rest (a.put d v') w') :
    wpList Yba.prog ops Q' (⟨d, .call { callee := .builtin .append, args := #[s, x], argTypes := #[93, 93] }, tt, ps, af, none⟩ :: rest) a w := by
  obtain ⟨i, hi, hz, hsz, hby⟩ := Yba.info90
  have hc : ∀ j u, ([.int .i64 ji, .int .i64 jv] : List Value)[j]? = some u → w.cell? ((⟨b, 0, none⟩ : Addr).add j) = some u := fun j u hu => by
    rw [Addr.add_mid]; exact hj j u hu
  have h1c : ∀ u ∈ ([.int .i64 ji, .int .i64 jv] : List Value), u.oneCell' = true := by
    intro u hu; simp at hu; rcases hu with rfl | rfl <;> rfl
  have hgrow : ∀ v' w', w'.ownsRow w.heap.size 90 2 v' (F.length + 1) (flat F ++ [.int .i64 ji, .int .i64 jv]) → w.grownBy w' none → wpList Yba.prog ops Q' rest (a.put d v') w' := fun v' w' ho hg => by
    refine h v' w' (Fifo.of_own (F := F ++ [(ji, jv)]) (base := w.heap.size) (e := 90) ?_ hL) ?_
    · rw [flat_append]; simpa [flat] using ho
    · exact (Below.refl L w).grown hg hL (fun k hk => by cases hk)
  rcases hF with ⟨rfl, rfl⟩ | ⟨g, off, cap, rfl, g1, g2, g3, g4, g5⟩
  · exact wpList_append_grows w rfl s x 93 rfl 90 i _ 2 16 Yba.underlying93 hi hz hsz hby rfl (by decide) none 0 0 [] hs (fun _ => ⟨rfl, rfl⟩) rfl (fun b hb => by cases hb) ⟨b, 0, none⟩ 1 c [.int .i64 ji, .int .i64 jv] hx rfl hc h1c (by decide) (by decide) (by decide) hgrow
  · refine wpList_append_arg w rfl s x 93 rfl 90 i _ 2 16 Yba.underlying93 hi hz hsz hby rfl (by decide) g off F.length cap (flat F) hs (flat_len F) g4 ⟨b, 0, none⟩ 1 c [.int .i64 ji, .int .i64 jv] hx rfl hc h1c ?_ (by unfold maxLen; omega) (by omega) ?_ (fun _ => hgrow)
    · intro hr j hj2
      have := g5 (F.length * 2 + j) (by simp at hj2; omega)
      rw [← Nat.add_assoc] at this
      exact this
    · intro hr
      have hth : w.there g (off + F.length * 2) 2 := fun j hj2 => by
        have := g5 (F.length * 2 + j) (by omega)
        rw [← Nat.add_assoc] at this
        exact this
      refine h _ _ (Or.inr ⟨g, off, cap, by simp, g1, by rw [size_setCells]; exact g2, by simp; omega, ?_, World.there_setCells g5 _ _ _⟩) (below_setCells (Below.refl _ _) g1 _)
      rw [flat_append]
      intro j u hu
      by_cases hlt : j < F.length * 2
      · rw [List.getElem?_append_left (by rw [flat_len]; exact hlt)] at hu
        exact World.rangeAt_setCells_apart g4 g (off + F.length * 2) [.int .i64 ji, .int .i64 jv] (Or.inr (Or.inl (by rw [flat_len]; exact Nat.le_refl _))) j u hu
      · rw [List.getElem?_append_right (by rw [flat_len]; omega), flat_len] at hu
        have := World.rangeAt_setCells_same w g (off + F.length * 2) [.int .i64 ji, .int .i64 jv] hth (j - F.length * 2) u (by simpa [flat] using hu)
        rw [show off + F.length * 2 + (j - F.length * 2) = off + j by omega] at this
        exact this
end Go.Proofs.Ybulkdrqi
