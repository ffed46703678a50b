import Derived.Test.YbulkdrpgN3
namespace Go.Proofs.Ybulkdrpg
open Go.RowKit

/-- What a client says. -/
abbrev Say := Int × Int × List ByteArray
/-- The model's records as cells; ns: the names' slices. -/
def flatM : List Say → List Value → List Value
  | a :: A, v :: ns => .int .u64 a.1 :: .int .u64 a.2.1 :: v :: flatM A ns
  | _, _ => []
def strs (l : List ByteArray) : List Value := l.map Value.string

theorem flatM_len : ∀ (A : List Say) (ns : List Value), ns.length = A.length → (flatM A ns).length = A.length * 3
  | [], _, _ => by simp [flatM]
  | a :: A, [], h => by simp at h
  | a :: A, v :: ns, h => by
    have := flatM_len A ns (by simpa using h)
    simp only [flatM, List.length_cons, this]
    omega

theorem flatM_at : ∀ (A : List Say) (ns : List Value) (h : ns.length = A.length) (j : Nat) (hj : j < A.length),
    (flatM A ns)[j * 3]? = some (.int .u64 A[j].1) ∧ (flatM A ns)[j * 3 + 1]? = some (.int .u64 A[j].2.1) ∧ (flatM A ns)[j * 3 + 2]? = some (ns[j]'(by omega))
  | a :: A, v :: ns, h, 0, _ => by simp [flatM]
  | a :: A, v :: ns, h, j + 1, hj => by
    have := flatM_at A ns (by simpa using h) j (by simpa using hj)
    have e0 : (j + 1) * 3 = j * 3 + 3 := by omega
    simp only [flatM, e0, List.getElem_cons_succ]
    simpa using this
  | [], _, _, j, hj => by simp at hj
  | a :: A, [], h, j, _ => by simp at h

/-- The model's memory: the records' slice v, the names' slices ns. -/
structure Mo (w : World) (L : Nat) (v : Value) (ns : List Value) (A : List Say) : Prop where
  len : ns.length = A.length
  row : Sl w L 3 v A.length (flatM A ns)
  nam : ∀ j (hj : j < A.length), Sl w L 1 (ns[j]'(by omega)) A[j].2.2.length (strs A[j].2.2)
  apart : ∀ i j (hi : i < ns.length) (hj : j < ns.length), i ≠ j → ∀ b, ns[i].ownBlock = some b → ns[j].ownBlock ≠ some b
  off : ∀ j (hj : j < ns.length) b, ns[j].ownBlock = some b → v.ownBlock ≠ some b
end Go.Proofs.Ybulkdrpg
