/-
  DERIVED. GIVEN WITH THE SEED: THE CARDS: each row of YbulkdwomFmtRows.lean that lists a variable, with what it lists TIED to the program's text (the seventh form; the later family's looks); each row that meets fmt, with fmt's text TOLD by the authors' own Lean function (tested against real Go, not proved from fmt's source: count such statements apart). THE CARD IS WHAT COUNTS. Prove the row's statement (the work); the ties are given (YbulkdwomFmtTie.lean); close each card by the builder's one call (the guide's Derived/Test/ToyasCard.lean, 'card_holds'). Laid BY PROGRAM, IN A SANDBOX (cutbox-door.mjs). By AI agents, Wed Nov 11 2026. No macro, syntax, notation, axiom, sorry.
-/
import Derived.Test.YbulkdwomFmtRows
import GoSem.ClaimSeven
namespace Go.Proofs.YbulkdwomFmt
namespace Rows

/-- THE TOLD AND TIED CARD OF 'detect.LawS6161AWhole'. -/
def lawS6161AWholeCard : Claim7 := { stood := { row := lawS6161AWholeRow, standIns := [], harness := (true, "6040e022b10d81eac397ae5a5299af87b5768fba8d77e97b64926c3f8d0219f8"), looks := true }, told := true, laidByText := true, laidKinds := [.data, .data, .data, .sentinel, .sentinel], laidTests := true, laidLooks := .later, goes := false }
def LawS6161AWholeToldSaid : Prop := Claim7.holds Ybaf.pinned (.plain (OpenSpec.ofChange lawS6161AWholeSpec)) lawS6161AWholeCard
/-- ITS FALSE NEIGHBOUR. Refute it at one input. -/
def LawS6161AWholeToldWrongFalsely : Prop := Claim7.holds Ybaf.pinned (.plain (OpenSpec.ofChange lawS6161AWholeWrong)) lawS6161AWholeCard

/-- THE TOLD CARD OF 'check.LawS6161CWhole'. -/
def lawS6161CWholeCard : Claim7 := { stood := { row := lawS6161CWholeRow, standIns := [], harness := (true, "6040e022b10d81eac397ae5a5299af87b5768fba8d77e97b64926c3f8d0219f8"), looks := true }, told := true, goes := false }
def LawS6161CWholeToldSaid : Prop := Claim7.holds Ybaf.pinned (.plain (OpenSpec.ofChange lawS6161CWholeSpec)) lawS6161CWholeCard
/-- ITS FALSE NEIGHBOUR. Refute it at one input. -/
def LawS6161CWholeToldWrongFalsely : Prop := Claim7.holds Ybaf.pinned (.plain (OpenSpec.ofChange lawS6161CWholeWrong)) lawS6161CWholeCard
end Rows
end Go.Proofs.YbulkdwomFmt
