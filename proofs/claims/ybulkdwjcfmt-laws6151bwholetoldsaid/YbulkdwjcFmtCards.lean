/-
  DERIVED. GIVEN WITH THE SEED: THE CARDS: each row of YbulkdwjcFmtRows.lean that lists a variable, with what it lists TIED to the program's text (the seventh form; the later family's looks); each row that meets fmt, with fmt's text TOLD by the authors' own Lean function (tested against real Go, not proved from fmt's source: count such statements apart). THE CARD IS WHAT COUNTS. Prove the row's statement (the work); the ties are given (YbulkdwjcFmtTie.lean); close each card by the builder's one call (the guide's Derived/Test/ToyasCard.lean, 'card_holds'). Laid BY PROGRAM, IN A SANDBOX (cutbox-door.mjs). By AI agents, Wed Nov 11 2026. No macro, syntax, notation, axiom, sorry.
-/
import Derived.Test.YbulkdwjcFmtRows
import GoSem.ClaimSeven
namespace Go.Proofs.YbulkdwjcFmt
namespace Rows

/-- THE TOLD AND TIED CARD OF 'partyline.LawS6151AWhole'. -/
def lawS6151AWholeCard : Claim7 := { stood := { row := lawS6151AWholeRow, standIns := [], harness := (true, "89cb82ea7821865fc21e7b7e1d593a0ccec8927e8069acbdd37732aed89c3309"), looks := true }, told := true, laidByText := true, laidKinds := [.wider, .wider, .wider, .called, .called, .called], laidTests := true, laidLooks := .later, goes := false }
def LawS6151AWholeToldSaid : Prop := Claim7.holds Ybaf.pinned (.plain (OpenSpec.ofChange lawS6151AWholeSpec)) lawS6151AWholeCard
/-- ITS FALSE NEIGHBOUR. Refute it at one input. -/
def LawS6151AWholeToldWrongFalsely : Prop := Claim7.holds Ybaf.pinned (.plain (OpenSpec.ofChange lawS6151AWholeWrong)) lawS6151AWholeCard

/-- THE TOLD AND TIED CARD OF 'conform.LawS6151BWhole'. -/
def lawS6151BWholeCard : Claim7 := { stood := { row := lawS6151BWholeRow, standIns := [], harness := (true, "89cb82ea7821865fc21e7b7e1d593a0ccec8927e8069acbdd37732aed89c3309"), looks := true }, told := true, laidByText := true, laidKinds := [.data, .data, .data], laidTests := true, laidLooks := .later, goes := false }
def LawS6151BWholeToldSaid : Prop := Claim7.holds Ybaf.pinned (.plain (OpenSpec.ofChange lawS6151BWholeSpec)) lawS6151BWholeCard
/-- ITS FALSE NEIGHBOUR. Refute it at one input. -/
def LawS6151BWholeToldWrongFalsely : Prop := Claim7.holds Ybaf.pinned (.plain (OpenSpec.ofChange lawS6151BWholeWrong)) lawS6151BWholeCard
end Rows
end Go.Proofs.YbulkdwjcFmt
