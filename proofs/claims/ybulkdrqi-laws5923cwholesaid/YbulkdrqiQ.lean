import Derived.Test.YbulkdrqiS
import Derived.ProofKit
import Derived.OpenShut
import Derived.Deep.Slices
namespace Go.Proofs.Ybulkdrqi
open Go.ChangeShapes Go.WideShapes Go.ChangeAt Go.RowKit Go.Deep

theorem Yba.own : ownKnob Yba.prog.godebug = none := by kernel_rfl
theorem Yba.laidOut : laidOutB Yba.prog = true := by kernel_rfl
theorem Yba.cells96 : Yba.prog.cellsOf 96 = 3 := by kernel_rfl
theorem Yba.cells5 : Yba.prog.cellsOf 5 = 1 := by kernel_rfl
theorem Yba.cells3 : Yba.prog.cellsOf 3 = 1 := by kernel_rfl

theorem list3 {α : Type} {l : List α} (h : l.length = 3) : ∃ a b c, l = [a, b, c] := by
  match l, h with
  | [a, b, c], _ => exact ⟨a, b, c, rfl⟩

/-- One step's cells. -/
theorem open_step {H : Type} {enc : TypeId × Value → H} {W : World} {fuel : Nat} {cs : List Value} {x : DataW H × List MemPlace} (h : DataW.trod enc Yba.prog W 0 (fun _ => true) true fuel 96 cs = some x) :
    ∃ (o i l : Int), cs = stepL o i l := by
  obtain ⟨xs, n, _, rfl, hl, hlen, hf⟩ := DataW.trod_struct Yba.underlying96 h
  rw [Yba.cells96] at hl
  obtain ⟨a0, a1, a2, rfl⟩ := list3 hl
  obtain ⟨y0, y1, y2, rfl⟩ := list3 hlen
  have h0 := hf 0 _ rfl
  have h1 := hf 1 _ rfl
  have h2 := hf 2 _ rfl
  simp [Yba.cells5, Yba.cells3] at h0 h1 h2
  obtain ⟨o, e0, _, _⟩ := DataW.trod_int Yba.underlying5 h0
  obtain ⟨i, e1, _, _⟩ := DataW.trod_int Yba.underlying3 h1
  obtain ⟨l, e2, _, _⟩ := DataW.trod_int Yba.underlying3 h2
  simp at e0 e1 e2
  subst e0 e1 e2
  exact ⟨o, i, l, rfl⟩

theorem open_steps {H : Type} {enc : TypeId × Value → H} {W : World} {fuel : Nat} {a0 : Option Addr} {len cap : Nat} {x : DataW H × List MemPlace} (h : DataW.trod enc Yba.prog W 0 (fun _ => true) true fuel 85 [.slice a0 len cap] = some x) :
    len ≤ maxLen ∧ ∃ (b off : Nat) (O I L : Nat → Int), (0 < len → a0 = some ⟨b, off, none⟩) ∧
      ∀ j, j < len → W.rangeAt b (off + j * 3) (stepL (O j) (I j) (L j)) := by
  rcases open_slice Yba.underlying85 h with ⟨hcs, _⟩ | ⟨a, l, c, m, n, D, Pl, hcs, _, hl, hm, hmm, _, hx⟩
  · simp at hcs
    obtain ⟨rfl, rfl, rfl⟩ := hcs
    exact ⟨by omega, 0, 0, fun _ => 0, fun _ => 0, fun _ => 0, fun h => absurd h (by omega), fun j h => absurd h (by omega)⟩
  · simp at hcs
    obtain ⟨rfl, rfl, rfl⟩ := hcs
    simp at hmm
    rw [Yba.cells96] at hx
    refine ⟨by omega, ?_⟩
    by_cases h0 : len = 0
    · subst h0
      exact ⟨0, 0, fun _ => 0, fun _ => 0, fun _ => 0, fun h => absurd h (by omega), fun j h => absurd h (by omega)⟩
    obtain ⟨b, off, spot⟩ := a
    obtain ⟨cs0, hc0, _⟩ := hx 0 (by omega)
    have hspot : spot = none := by
      obtain ⟨_, hl0, hcell⟩ := World.cells?_some hc0
      have hc := hcell 0 (by omega)
      have hcs0 : (0 : Nat) < cs0.length := by omega
      rw [List.getElem?_eq_getElem hcs0] at hc
      simpa [Addr.add] using World.cell?_spot hc
    subst hspot
    obtain ⟨f, hf⟩ := choose_lt (α := Int × Int × Int) (n := len) (p := fun j y => W.rangeAt b (off + j * 3) (stepL y.1 y.2.1 y.2.2)) (fun j hj => by
      obtain ⟨cs, hc, ht⟩ := hx j (by omega)
      obtain ⟨o', i', l', rfl⟩ := open_step ht
      rw [Addr.add_mid] at hc
      exact ⟨(o', i', l'), rangeAt_of_cells hc⟩)
    exact ⟨b, off, fun j => (f j).1, fun j => (f j).2.1, fun j => (f j).2.2, fun _ => rfl, hf⟩

set_option maxRecDepth 100000 in
theorem law_big (e0 st : Int) (a0 : Option Addr) (n cap : Nat) (w : World) (hn : 4096 < n) (hm : n ≤ maxLen) :
    Calls Yba.prog 4 #[.int .u8 e0, .int .u64 st, .slice a0 n cap] w fun e w' => e = .returned (.bool true) ∧ Below w.heap.size w w' := by
  unfold maxLen at hm
  have hd : decide ((4096 : Int) < (n : Int)) = true := decide_eq_true (by omega)
  go_enter Yba.func4, Yba.ntmps4
  go_wp2_with fail
  go_ret
  exact ⟨rfl, Below.refl _ _⟩

theorem and_pow {n : Nat} (e : Nat) (he : n = 2 ^ e) (hn : n ≤ 16) (x : Nat) (hx : x < 18446744073709551616) : bits .and .u64 (x : Int) ((n : Int) - 1) = ((x % n : Nat) : Int) := by
  have hp : 0 < n := by rw [he]; exact Nat.pow_pos (by decide)
  have h := bits_and_u64_nat x (n - 1) (by omega) (by omega)
  have e1 : ((n - 1 : Nat) : Int) = (n : Int) - 1 := by omega
  rw [e1] at h
  rw [h, he, Nat.and_two_pow_sub_one_eq_mod]

/-- The ring's size by the script's first argument. -/
theorem size_of (e0 : Int) (h0 : 0 ≤ e0) : ∃ (n e : Nat), n = 2 ^ e ∧ 0 < n ∧ n ≤ 16 ∧ n ∣ 18446744073709551616 ∧ ∀ w, (Op.shift .shl .i64 1 .u8 (e0.tmod 5)).run Yba.prog w = .ok (.int .i64 (n : Int)) w := by
  have hm : e0.tmod 5 = e0 % 5 := Int.tmod_eq_emod_of_nonneg h0
  have : e0 % 5 = 0 ∨ e0 % 5 = 1 ∨ e0 % 5 = 2 ∨ e0 % 5 = 3 ∨ e0 % 5 = 4 := by omega
  rw [hm]
  rcases this with h | h | h | h | h <;> rw [h]
  · exact ⟨1, 0, rfl, by decide, by decide, by decide, fun w => by rfl⟩
  · exact ⟨2, 1, rfl, by decide, by decide, by decide, fun w => by rfl⟩
  · exact ⟨4, 2, rfl, by decide, by decide, by decide, fun w => by rfl⟩
  · exact ⟨8, 3, rfl, by decide, by decide, by decide, fun w => by rfl⟩
  · exact ⟨16, 4, rfl, by decide, by decide, by decide, fun w => by rfl⟩
end Go.Proofs.Ybulkdrqi
