/-
  No cell of these rows narrows 'for every input' (looked for: loops, veiled, ifaces, maps, wideKeys, modest, calm, conditions, laid).
  DERIVED. THE GIVEN ROWS OF THIS SEAT. 2 by the template 'for every input the law returns true; each argument reads behind the call as it read before'; 0 by the template 'total and deterministic' (their statements: YbulkdrpgTotals.lean).
  GIVEN WITH THE SEED: the statements are not yours to turn. If you find one false, say at which input.
  Laid BY PROGRAM, IN A SANDBOX (cutbox-rows.mjs): the forced cells as the released guide's own fill.sh prints them over the translation 8b88bba1d3b06397… (all of the seat's roots in one cut). By AI agents, Wed Nov 11 2026. No macro, syntax, notation, axiom, sorry.
-/
import Derived.Test.YbulkdrpgChecked
import GoSem.Claim
import GoSem.ClaimJoined
import GoSem.ClaimMapViews
import Derived.JoinedTies
import Derived.KernelRfl
namespace Go.Proofs.Ybulkdrpg
/- THE CELL 'sum', in the pinned program and in every row, IS THE sha256 OF THE DUMP (.gsa) THAT YbulkdrpgProg.lean LOADS. Nothing in Lean hashes anything: it is a label: what it is worth is what the hold of that sum in a sandbox is worth. -/
noncomputable def Yba.pinned : Pinned := { name := "ybulkdrpg", sum := "8b88bba1d3b06397da084924cf31e799b0d7cbf0dfd408caa10f25e795747ecf", checked := Yba.checked }
namespace Rows
def none {H : Type} : Left H := { results := [], args := [] }

/-- 'server.LawS5921BWhole': WHATEVER THE INPUT: true; the input reads as it did. -/
def lawS5921BWholeSpec : ChangeSpec := { name := "lawS5921BWhole", fn := fun _ => fun
  | [d1, d2, d3, d4] => { results := [.lit (.bool true)], args := [d1, d2, d3, d4] }
  | _ => none }
def lawS5921BWholeRow : OpenClaim := { program := "ybulkdrpg", sum := "8b88bba1d3b06397da084924cf31e799b0d7cbf0dfd408caa10f25e795747ecf", func := "example.com/lethelock/lethelock/internal/server.LawS5921BWhole", spec := "lawS5921BWhole", apart := false }
def LawS5921BWholeSaid : Prop := lawS5921BWholeRow.holds Yba.pinned (OpenSpec.ofChange lawS5921BWholeSpec)

/-- ITS FALSE NEIGHBOUR: 'it returns false'. Refute it at one input. -/
def lawS5921BWholeWrong : ChangeSpec := { name := "lawS5921BWhole", fn := fun _ => fun
  | [d1, d2, d3, d4] => { results := [.lit (.bool false)], args := [d1, d2, d3, d4] }
  | _ => none }
def LawS5921BWholeWrongFalsely : Prop := lawS5921BWholeRow.holds Yba.pinned (OpenSpec.ofChange lawS5921BWholeWrong)

/-- 'server.LawS5921CWhole': WHATEVER THE INPUT: true; the input reads as it did. -/
def lawS5921CWholeSpec : ChangeSpec := { name := "lawS5921CWhole", fn := fun _ => fun
  | [d1, d2, d3, d4, d5, d6, d7, d8, d9] => { results := [.lit (.bool true)], args := [d1, d2, d3, d4, d5, d6, d7, d8, d9] }
  | _ => none }
def lawS5921CWholeRow : OpenClaim := { program := "ybulkdrpg", sum := "8b88bba1d3b06397da084924cf31e799b0d7cbf0dfd408caa10f25e795747ecf", func := "example.com/lethelock/lethelock/internal/server.LawS5921CWhole", spec := "lawS5921CWhole", apart := false }
def LawS5921CWholeSaid : Prop := lawS5921CWholeRow.holds Yba.pinned (OpenSpec.ofChange lawS5921CWholeSpec)

/-- ITS FALSE NEIGHBOUR: 'it returns false'. Refute it at one input. -/
def lawS5921CWholeWrong : ChangeSpec := { name := "lawS5921CWhole", fn := fun _ => fun
  | [d1, d2, d3, d4, d5, d6, d7, d8, d9] => { results := [.lit (.bool false)], args := [d1, d2, d3, d4, d5, d6, d7, d8, d9] }
  | _ => none }
def LawS5921CWholeWrongFalsely : Prop := lawS5921CWholeRow.holds Yba.pinned (OpenSpec.ofChange lawS5921CWholeWrong)

end Rows
end Go.Proofs.Ybulkdrpg
