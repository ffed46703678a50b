/-
  No cell of these rows narrows 'for every input' (looked for: loops, veiled, ifaces, maps, wideKeys, modest, calm, conditions, laid).
  DERIVED. THE GIVEN ROWS OF THIS SEAT. 2 by the template 'for every input the law returns true; each argument reads behind the call as it read before'; 0 by the template 'total and deterministic' (their statements: YbulkdrtaTotals.lean).
  GIVEN WITH THE SEED: the statements are not yours to turn. If you find one false, say at which input.
  Laid BY PROGRAM, IN A SANDBOX (cutbox-rows.mjs): the forced cells as the released guide's own fill.sh prints them over the translation b2cc1fd9368de61f… (all of the seat's roots in one cut). By AI agents, Wed Nov 11 2026. No macro, syntax, notation, axiom, sorry.
-/
import Derived.Test.YbulkdrtaChecked
import GoSem.Claim
import GoSem.ClaimJoined
import GoSem.ClaimMapViews
import Derived.JoinedTies
import Derived.KernelRfl
namespace Go.Proofs.Ybulkdrta
/- THE CELL 'sum', in the pinned program and in every row, IS THE sha256 OF THE DUMP (.gsa) THAT YbulkdrtaProg.lean LOADS. Nothing in Lean hashes anything: it is a label: what it is worth is what the hold of that sum in a sandbox is worth. -/
noncomputable def Yba.pinned : Pinned := { name := "ybulkdrta", sum := "b2cc1fd9368de61fda91e2277419155491e88bd90594d14522a780e0806a8779", checked := Yba.checked }
namespace Rows
def none {H : Type} : Left H := { results := [], args := [] }

/-- 'podcheck.LawS5928AWhole': WHATEVER THE INPUT: true; the input reads as it did. -/
def lawS5928AWholeSpec : ChangeSpec := { name := "lawS5928AWhole", fn := fun _ => fun
  | [d] => { results := [.lit (.bool true)], args := [d] }
  | _ => none }
def lawS5928AWholeRow : OpenClaim := { program := "ybulkdrta", sum := "b2cc1fd9368de61fda91e2277419155491e88bd90594d14522a780e0806a8779", func := "example.com/gourdsmith/gourdsmith/internal/podcheck.LawS5928AWhole", spec := "lawS5928AWhole", apart := false }
def LawS5928AWholeSaid : Prop := lawS5928AWholeRow.holds Yba.pinned (OpenSpec.ofChange lawS5928AWholeSpec)

/-- ITS FALSE NEIGHBOUR: 'it returns false'. Refute it at one input. -/
def lawS5928AWholeWrong : ChangeSpec := { name := "lawS5928AWhole", fn := fun _ => fun
  | [d] => { results := [.lit (.bool false)], args := [d] }
  | _ => none }
def LawS5928AWholeWrongFalsely : Prop := lawS5928AWholeRow.holds Yba.pinned (OpenSpec.ofChange lawS5928AWholeWrong)

/-- 'delta.LawS5928BWhole': WHATEVER THE INPUT: true; the input reads as it did. -/
def lawS5928BWholeSpec : ChangeSpec := { name := "lawS5928BWhole", fn := fun _ => fun
  | [d1, d2, d3, d4, d5] => { results := [.lit (.bool true)], args := [d1, d2, d3, d4, d5] }
  | _ => none }
def lawS5928BWholeRow : OpenClaim := { program := "ybulkdrta", sum := "b2cc1fd9368de61fda91e2277419155491e88bd90594d14522a780e0806a8779", func := "example.com/gourdsmith/gourdsmith/internal/delta.LawS5928BWhole", spec := "lawS5928BWhole", apart := false }
def LawS5928BWholeSaid : Prop := lawS5928BWholeRow.holds Yba.pinned (OpenSpec.ofChange lawS5928BWholeSpec)

/-- ITS FALSE NEIGHBOUR: 'it returns false'. Refute it at one input. -/
def lawS5928BWholeWrong : ChangeSpec := { name := "lawS5928BWhole", fn := fun _ => fun
  | [d1, d2, d3, d4, d5] => { results := [.lit (.bool false)], args := [d1, d2, d3, d4, d5] }
  | _ => none }
def LawS5928BWholeWrongFalsely : Prop := lawS5928BWholeRow.holds Yba.pinned (OpenSpec.ofChange lawS5928BWholeWrong)

end Rows
end Go.Proofs.Ybulkdrta
