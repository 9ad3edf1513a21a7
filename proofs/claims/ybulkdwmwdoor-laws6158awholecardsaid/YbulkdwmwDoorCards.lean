/-
  DERIVED. GIVEN WITH THE SEED: THE CARDS: each row of YbulkdwmwDoorRows.lean that lists a variable, with what it lists TIED to the program's text (the seventh form; the later family's looks); each row that meets fmt, with fmt's text TOLD by the authors' own Lean function (tested against real Go, not proved from fmt's source: count such statements apart). THE CARD IS WHAT COUNTS. Prove the row's statement (the work); the ties are given (YbulkdwmwDoorTie.lean); close each card by the builder's one call (the guide's Derived/Test/ToyasCard.lean, 'card_holds'). Laid BY PROGRAM, IN A SANDBOX (cutbox-door.mjs). By AI agents, Wed Nov 11 2026. No macro, syntax, notation, axiom, sorry.
-/
import Derived.Test.YbulkdwmwDoorRows
import GoSem.ClaimSeven
namespace Go.Proofs.YbulkdwmwDoor
namespace Rows

/-- THE TIED CARD OF 'markdown.LawS6158AWhole'. -/
def lawS6158AWholeCard : Claim7 := { stood := { row := lawS6158AWholeRow, standIns := [], harness := (true, "a2c2dcb169c5243804e875763f5cf728eeebed9eca196eb526dbf4ff9bed4bc0"), looks := true }, kinds := [], alts := [], laidByText := true, laidKinds := [.sentinel, .sentinel], laidTests := true, laidLooks := .later }
def LawS6158AWholeCardSaid : Prop := Claim7.holds Ybad.pinned (.plain (OpenSpec.ofChange lawS6158AWholeSpec)) lawS6158AWholeCard
end Rows
end Go.Proofs.YbulkdwmwDoor
