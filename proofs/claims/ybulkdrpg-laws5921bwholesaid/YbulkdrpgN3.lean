import Derived.Test.YbulkdrpgN2
import Derived.ArgAppend
namespace Go.Proofs.Ybulkdrpg
open Go.RowKit

/-- A slice of the call's own: n elements of 'size' cells, the cells cs; nil, or at the head of a block from L on. -/
def Sl (w : World) (L size : Nat) (v : Value) (n : Nat) (cs : List Value) : Prop :=
  cs.length = n * size ∧ ((v = .slice none 0 0 ∧ n = 0) ∨ ∃ g cap, v = .slice (some ⟨g, 0, none⟩) n cap ∧ L ≤ g ∧ g < w.heap.size ∧ (n ≤ cap ∧ cap ≤ maxLen) ∧ w.rangeAt g 0 cs ∧ w.there g 0 (cap * size))

theorem Sl.same {w w' : World} {L size n : Nat} {v : Value} {cs : List Value} (h : Sl w L size v n cs) (hs : w.heap.size ≤ w'.heap.size) (hb : ∀ k, v.ownBlock = some k → w'.heap[k]? = w.heap[k]?) : Sl w' L size v n cs := by
  obtain ⟨hl, h | ⟨g, cap, rfl, h1, h2, h3, h4, h5⟩⟩ := h
  · exact ⟨hl, Or.inl h⟩
  · exact ⟨hl, Or.inr ⟨g, cap, rfl, h1, by omega, h3, rangeAt_block h4 (hb g rfl), there_block h5 (hb g rfl)⟩⟩

theorem Sl.of_own {w : World} {L base size n : Nat} {v : Value} {e : TypeId} {cs : List Value} (h : w.ownsRow base e size v n cs) (hL : L ≤ base) : Sl w L size v n cs := by
  obtain ⟨hl, h2⟩ := h
  rcases h2 with ⟨rfl, h0⟩ | ⟨g, cap, cur, rfl, hg, hh, hn, hcm, hsz, htake⟩
  · exact ⟨hl, Or.inl ⟨rfl, h0⟩⟩
  · have hlt : g < w.heap.size := (Array.getElem?_eq_some_iff.1 hh).1
    refine ⟨hl, Or.inr ⟨g, cap, rfl, by omega, hlt, ⟨hn, hcm⟩, fun j v hv => ?_, fun j hj => ?_⟩⟩
    · have hj : j < n * size := by
        have := (List.getElem?_eq_some_iff.1 hv).1
        omega
      rw [← htake, List.getElem?_take_of_lt hj] at hv
      simp only [World.cell?, hh, Nat.zero_add]
      simpa using hv
    · constructor
      · simp only [World.cell?, hh, Nat.zero_add]
        simp [Array.getElem?_eq_getElem (by omega : j < cur.size)]
      · simp [World.frozen?, hh]

/-- 'append(s, x)', one element, both arms: the operation written out. -/
theorem wpList_append_sl {ops : Array Oper} {rest : List Oper} {d : Option Tmp} {tt : TypeId} {ps : String} {af : Array Edge} {a : Act} {Q' : Exit → Act → World → Prop} (s x : Operand) (t e : TypeId) (i : TypeInfo) (z : Value) (size bytes : Nat)
    (hu : Yba.prog.underlying t = some (.slice e)) (hi : Yba.prog.info? e = some i) (hz : i.zero = some z) (hsz : i.size = size) (hby : i.bytes = bytes) (hzc : z.cells.size = size) (hs0 : 0 < size)
    (w : World) (L : Nat) (v : Value) (n : Nat) (cs : List Value) (hs : a.eval s = v) (hS : Sl w L size v n cs) (hlen : n ≤ 1000000000) (hb100 : bytes ≤ 100) (hL : L ≤ w.heap.size)
    (b c : Nat) (news : List Value) (hx : a.eval x = .slice (some ⟨b, 0, none⟩) 1 c) (hn : news.length = size) (hj : w.rangeAt b 0 news) (h1c : ∀ u ∈ news, u.oneCell' = true)
    (h : ∀ v' w', Sl w' L size v' (n + 1) (cs ++ news) → w.heap.size ≤ w'.heap.size → (∀ k, k < w.heap.size → v.ownBlock ≠ some k → w'.heap[k]? = w.heap[k]?) → (v'.ownBlock = v.ownBlock ∨ ∃ g, v'.ownBlock = some g ∧ w.heap.size ≤ g) →
      w'.os = w.os ∧ w'.tape = w.tape ∧ w'.output = w.output → wpList Yba.prog ops Q' rest (a.put d v') w') :
    wpList Yba.prog ops Q' (⟨d, .call { callee := .builtin .append, args := #[s, x], argTypes := #[t, t] }, tt, ps, af, none⟩ :: rest) a w := by
  have hc : ∀ j u, news[j]? = some u → w.cell? ((⟨b, 0, none⟩ : Addr).add j) = some u := fun j u hu => by rw [Addr.add_mid]; exact hj j u hu
  have hbound : (n + 1) * bytes ≤ 140737488355328 := Nat.le_trans (Nat.mul_le_mul_left _ hb100) (by omega)
  have hgrow : ∀ v' w', w'.ownsRow w.heap.size e size v' (n + 1) (cs ++ news) → w.grownBy w' none → wpList Yba.prog ops Q' rest (a.put d v') w' := fun v' w' ho hg => by
    refine h v' w' (Sl.of_own ho hL) hg.size (fun k hk _ => hg.block k hk (by simp)) ?_ ⟨hg.os, hg.tape, hg.output⟩
    obtain ⟨_, h2⟩ := ho
    rcases h2 with ⟨_, h0⟩ | ⟨g, cap, cur, rfl, hg', _⟩
    · omega
    · exact Or.inr ⟨g, rfl, hg'⟩
  obtain ⟨hl, ⟨rfl, rfl⟩ | ⟨g, cap, rfl, g1, g2, g3, g4, g5⟩⟩ := hS
  · obtain rfl : cs = [] := List.length_eq_zero_iff.1 (by omega)
    exact wpList_append_grows w rfl s x t rfl e i z size bytes hu hi hz hsz hby hzc hs0 none 0 0 [] hs (fun _ => ⟨rfl, rfl⟩) (by simp) (fun b hb => by cases hb) ⟨b, 0, none⟩ 1 c news hx (by omega) hc h1c (by decide) (by decide) hbound hgrow
  · refine wpList_append_arg w rfl s x t rfl e i z size bytes hu hi hz hsz hby hzc hs0 g 0 n cap cs hs hl g4 ⟨b, 0, none⟩ 1 c news hx (by omega) hc h1c ?_ (by unfold maxLen; omega) hbound ?_ (fun _ => hgrow)
    · intro hr j hj2
      have := g5 (n * size + j) (by have : (n + 1) * size ≤ cap * size := Nat.mul_le_mul_right _ hr; rw [Nat.add_mul] at this; omega)
      rwa [← Nat.add_assoc] at this
    · intro hr
      have hcs : (n + 1) * size ≤ cap * size := Nat.mul_le_mul_right _ hr
      rw [Nat.add_mul] at hcs
      have hth : w.there g (0 + n * size) news.length := fun j hj2 => by
        have := g5 (n * size + j) (by omega)
        rwa [← Nat.add_assoc] at this
      have hos := os_setCells g news (0 + n * size) w
      refine h _ _ ⟨by rw [List.length_append, hl, hn, Nat.add_mul]; omega, Or.inr ⟨g, cap, rfl, g1, by rw [size_setCells]; exact g2, ⟨hr, g3.2⟩, ?_, World.there_setCells g5 _ _ _⟩⟩ (by rw [size_setCells]; exact Nat.le_refl _) (fun k hk hne => block_setCells g k (fun e => hne (by rw [e]; rfl)) _ _ _) (Or.inl rfl) hos
      intro j u hu
      by_cases hlt : j < n * size
      · rw [List.getElem?_append_left (by omega)] at hu
        exact World.rangeAt_setCells_apart g4 g (0 + n * size) news (Or.inr (Or.inl (by omega))) j u hu
      · rw [List.getElem?_append_right (by omega), hl] at hu
        have := World.rangeAt_setCells_same w g (0 + n * size) news hth (j - n * size) u hu
        rw [show 0 + n * size + (j - n * size) = 0 + j by omega] at this
        exact this
end Go.Proofs.Ybulkdrpg
