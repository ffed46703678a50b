/-
  DERIVED. GIVEN WITH THE SEED: THE CARDS: each row of YbulkdrrkDoorRows.lean that lists a variable, with what it lists TIED to the program's text (the seventh form; the later family's looks); each row that meets fmt, with fmt's text TOLD by the authors' own Lean function (tested against real Go, not proved from fmt's source: count such statements apart). THE CARD IS WHAT COUNTS. Prove the row's statement (the work); the ties are given (YbulkdrrkDoorTie.lean); close each card by the builder's one call (the guide's Derived/Test/ToyasCard.lean, 'card_holds'). Laid BY PROGRAM, IN A SANDBOX (cutbox-door.mjs). By AI agents, Wed Nov 11 2026. No macro, syntax, notation, axiom, sorry.
-/
import Derived.Test.YbulkdrrkDoorRows
import GoSem.ClaimSeven
namespace Go.Proofs.YbulkdrrkDoor
namespace Rows

/-- THE TIED CARD OF 'stillwatch.LawS5925AWhole'. -/
def lawS5925AWholeCard : Claim7 := { stood := { row := lawS5925AWholeRow, standIns := [], harness := (true, "6ea293e54b924834d86ad6b94463917b73d5e391b97d25d32f5d1c17ad1c8144"), looks := false }, kinds := [], alts := [], laidByText := true, laidKinds := [.data, .data, .data], laidTests := true, laidLooks := .later }
def LawS5925AWholeCardSaid : Prop := Claim7.holds Ybad.pinned (.plain (OpenSpec.ofChange lawS5925AWholeSpec)) lawS5925AWholeCard
end Rows
end Go.Proofs.YbulkdrrkDoor
