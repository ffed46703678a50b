import Derived.Test.YbulkdrpgN7
namespace Go.Proofs.Ybulkdrpg
open Go.RowKit
variable {w w' : World} {L : Nat} {v : Value} {ns : List Value} {A : List Say}

/-- The model's blocks. -/
def moB (v : Value) (ns : List Value) (k : Nat) : Prop := v.ownBlock = some k ∨ ∃ (j : Nat) (hj : j < ns.length), ns[j].ownBlock = some k

theorem flatM_set_name : ∀ (A : List Say) (ns : List Value), ns.length = A.length → ∀ (j : Nat) (hj : j < A.length) (nm : List ByteArray) (u : Value),
    flatM (A.set j (A[j].1, A[j].2.1, nm)) (ns.set j u) = (flatM A ns).set (j * 3 + 2) u
  | a :: A, v :: ns, h, 0, _, nm, u => by simp [flatM]
  | a :: A, v :: ns, h, j + 1, hj, nm, u => by
    have := flatM_set_name A ns (by simpa using h) j (by simpa using hj) nm u
    have e0 : (j + 1) * 3 + 2 = j * 3 + 2 + 3 := by omega
    simp only [flatM, e0, List.set_cons_succ, List.getElem_cons_succ, this]
  | [], _, _, j, hj, _, _ => by simp at hj
  | a :: A, [], h, j, _, _, _ => by simp at h
end Go.Proofs.Ybulkdrpg
