/-
  No cell of these rows narrows 'for every input' (looked for: loops, veiled, ifaces, maps, wideKeys, modest, calm, conditions, laid).
  DERIVED. THE GIVEN ROWS OF THIS SEAT. 1 by the template 'for every input the law returns true; each argument reads behind the call as it read before'; 0 by the template 'total and deterministic' (their statements: YbulkdrrkTotals.lean).
  GIVEN WITH THE SEED: the statements are not yours to turn. If you find one false, say at which input.
  Laid BY PROGRAM, IN A SANDBOX (cutbox-rows.mjs): the forced cells as the released guide's own fill.sh prints them over the translation d80f54f9dbf6b9fb… (all of the seat's roots in one cut). By AI agents, Wed Nov 11 2026. No macro, syntax, notation, axiom, sorry.
-/
import Derived.Test.YbulkdrrkChecked
import GoSem.Claim
import GoSem.ClaimJoined
import GoSem.ClaimMapViews
import Derived.JoinedTies
import Derived.KernelRfl
namespace Go.Proofs.Ybulkdrrk
/- THE CELL 'sum', in the pinned program and in every row, IS THE sha256 OF THE DUMP (.gsa) THAT YbulkdrrkProg.lean LOADS. Nothing in Lean hashes anything: it is a label: what it is worth is what the hold of that sum in a sandbox is worth. -/
noncomputable def Yba.pinned : Pinned := { name := "ybulkdrrk", sum := "d80f54f9dbf6b9fb5dd22bff3e24878b79be613849c0751f035ae55cb86e3c83", checked := Yba.checked }
namespace Rows
def none {H : Type} : Left H := { results := [], args := [] }

/-- 'stillwatch.LawS5925BWhole': WHATEVER THE INPUT: true; the input reads as it did. -/
def lawS5925BWholeSpec : ChangeSpec := { name := "lawS5925BWhole", fn := fun _ => fun
  | [d1, d2, d3, d4, d5] => { results := [.lit (.bool true)], args := [d1, d2, d3, d4, d5] }
  | _ => none }
def lawS5925BWholeRow : OpenClaim := { program := "ybulkdrrk", sum := "d80f54f9dbf6b9fb5dd22bff3e24878b79be613849c0751f035ae55cb86e3c83", func := "example.com/stillwatch/stillwatch.LawS5925BWhole", spec := "lawS5925BWhole", apart := false }
def LawS5925BWholeSaid : Prop := lawS5925BWholeRow.holds Yba.pinned (OpenSpec.ofChange lawS5925BWholeSpec)

/-- ITS FALSE NEIGHBOUR: 'it returns false'. Refute it at one input. -/
def lawS5925BWholeWrong : ChangeSpec := { name := "lawS5925BWhole", fn := fun _ => fun
  | [d1, d2, d3, d4, d5] => { results := [.lit (.bool false)], args := [d1, d2, d3, d4, d5] }
  | _ => none }
def LawS5925BWholeWrongFalsely : Prop := lawS5925BWholeRow.holds Yba.pinned (OpenSpec.ofChange lawS5925BWholeWrong)

end Rows
end Go.Proofs.Ybulkdrrk
