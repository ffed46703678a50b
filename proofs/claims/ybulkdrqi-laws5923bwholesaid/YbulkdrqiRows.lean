/-
  No cell of these rows narrows 'for every input' (looked for: loops, veiled, ifaces, maps, wideKeys, modest, calm, conditions, laid).
  DERIVED. THE GIVEN ROWS OF THIS SEAT. 2 by the template 'for every input the law returns true; each argument reads behind the call as it read before'; 0 by the template 'total and deterministic' (their statements: YbulkdrqiTotals.lean).
  GIVEN WITH THE SEED: the statements are not yours to turn. If you find one false, say at which input.
  Laid BY PROGRAM, IN A SANDBOX (cutbox-rows.mjs): the forced cells as the released guide's own fill.sh prints them over the translation c24b1acc392d2cd8… (all of the seat's roots in one cut). By AI agents, Wed Nov 11 2026. No macro, syntax, notation, axiom, sorry.
-/
import Derived.Test.YbulkdrqiChecked
import GoSem.Claim
import GoSem.ClaimJoined
import GoSem.ClaimMapViews
import Derived.JoinedTies
import Derived.KernelRfl
namespace Go.Proofs.Ybulkdrqi
/- THE CELL 'sum', in the pinned program and in every row, IS THE sha256 OF THE DUMP (.gsa) THAT YbulkdrqiProg.lean LOADS. Nothing in Lean hashes anything: it is a label: what it is worth is what the hold of that sum in a sandbox is worth. -/
noncomputable def Yba.pinned : Pinned := { name := "ybulkdrqi", sum := "c24b1acc392d2cd82fd9914563c552e7ad339e68ced628bf4910935c2f7d3814", checked := Yba.checked }
namespace Rows
def none {H : Type} : Left H := { results := [], args := [] }

/-- 'lazywell.LawS5923BWhole': WHATEVER THE INPUT: true; the input reads as it did. -/
def lawS5923BWholeSpec : ChangeSpec := { name := "lawS5923BWhole", fn := fun _ => fun
  | [d1, d2, d3, d4, d5, d6, d7, d8, d9, d10] => { results := [.lit (.bool true)], args := [d1, d2, d3, d4, d5, d6, d7, d8, d9, d10] }
  | _ => none }
def lawS5923BWholeRow : OpenClaim := { program := "ybulkdrqi", sum := "c24b1acc392d2cd82fd9914563c552e7ad339e68ced628bf4910935c2f7d3814", func := "lazywell.example/lazywell.LawS5923BWhole", spec := "lawS5923BWhole", inPlace := ["sync/atomic.StoreUint64", "sync/atomic.StoreUint32", "sync/atomic.LoadUint64", "sync/atomic.LoadInt32", "sync/atomic.CompareAndSwapInt32", "sync/atomic.AddInt32", "sync/atomic.LoadUint32", "sync/atomic.SwapUint32", "sync/atomic.CompareAndSwapUint32"], unfollowed := true, recurses := true, apart := false }
def LawS5923BWholeSaid : Prop := lawS5923BWholeRow.holds Yba.pinned (OpenSpec.ofChange lawS5923BWholeSpec)

/-- ITS FALSE NEIGHBOUR: 'it returns false'. Refute it at one input. -/
def lawS5923BWholeWrong : ChangeSpec := { name := "lawS5923BWhole", fn := fun _ => fun
  | [d1, d2, d3, d4, d5, d6, d7, d8, d9, d10] => { results := [.lit (.bool false)], args := [d1, d2, d3, d4, d5, d6, d7, d8, d9, d10] }
  | _ => none }
def LawS5923BWholeWrongFalsely : Prop := lawS5923BWholeRow.holds Yba.pinned (OpenSpec.ofChange lawS5923BWholeWrong)

/-- 'lazywell.LawS5923CWhole': WHATEVER THE INPUT: true; the input reads as it did. -/
def lawS5923CWholeSpec : ChangeSpec := { name := "lawS5923CWhole", fn := fun _ => fun
  | [d1, d2, d3] => { results := [.lit (.bool true)], args := [d1, d2, d3] }
  | _ => none }
def lawS5923CWholeRow : OpenClaim := { program := "ybulkdrqi", sum := "c24b1acc392d2cd82fd9914563c552e7ad339e68ced628bf4910935c2f7d3814", func := "lazywell.example/lazywell.LawS5923CWhole", spec := "lawS5923CWhole", inPlace := ["sync/atomic.StoreUint64", "sync/atomic.LoadUint64", "sync/atomic.CompareAndSwapUint64", "runtime.Gosched"], unfollowed := true, recurses := true, apart := false }
def LawS5923CWholeSaid : Prop := lawS5923CWholeRow.holds Yba.pinned (OpenSpec.ofChange lawS5923CWholeSpec)

/-- ITS FALSE NEIGHBOUR: 'it returns false'. Refute it at one input. -/
def lawS5923CWholeWrong : ChangeSpec := { name := "lawS5923CWhole", fn := fun _ => fun
  | [d1, d2, d3] => { results := [.lit (.bool false)], args := [d1, d2, d3] }
  | _ => none }
def LawS5923CWholeWrongFalsely : Prop := lawS5923CWholeRow.holds Yba.pinned (OpenSpec.ofChange lawS5923CWholeWrong)

end Rows
end Go.Proofs.Ybulkdrqi
