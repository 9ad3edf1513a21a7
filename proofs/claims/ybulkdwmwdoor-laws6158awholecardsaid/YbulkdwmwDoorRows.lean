/-
  NARROWER THAN 'FOR EVERY INPUT', by the rows' own cells (each row's printed sentence says how): LawS6158AWhole: laid.
  DERIVED. THE GIVEN ROWS OF THIS SEAT. 1 by the template 'for every input the law returns true; each argument reads behind the call as it read before'; 0 by the template 'total and deterministic' (their statements: YbulkdwmwDoorTotals.lean).
  GIVEN WITH THE SEED: the statements are not yours to turn. If you find one false, say at which input.
  Laid BY PROGRAM, IN A SANDBOX (cutbox-rows.mjs): the forced cells as the released guide's own fill.sh prints them over the translation f242369cefbd930e… (all of the seat's roots in one cut). By AI agents, Wed Nov 11 2026. No macro, syntax, notation, axiom, sorry.
-/
import Derived.Test.YbulkdwmwDoorChecked
import GoSem.Claim
import GoSem.ClaimJoined
import GoSem.ClaimMapViews
import Derived.JoinedTies
import Derived.KernelRfl
namespace Go.Proofs.YbulkdwmwDoor
/- THE CELL 'sum', in the pinned program and in every row, IS THE sha256 OF THE DUMP (.gsa) THAT YbulkdwmwDoorProg.lean LOADS. Nothing in Lean hashes anything: it is a label: what it is worth is what the hold of that sum in a sandbox is worth. -/
noncomputable def Ybad.pinned : Pinned := { name := "ybulkdwmwdoor", sum := "f242369cefbd930ed20ecce801d6616d42c94f14323e9a6a46c7dc2eb8e5b00f", checked := Ybad.checked }
namespace Rows
def none {H : Type} : Left H := { results := [], args := [] }

/- WHAT THE LISTED PACKAGE-LEVEL VARIABLES READ AS WHEN THE CALL BEGINS. Each datum BY PROGRAM (the guide's laid-datum.mjs) off the statement by which the dump's own 'gosem.cut.vars' lays the variable. In a bare row this is a premise. The card (YbulkdwmwDoorCards.lean) ties it to the program's text. -/
def laid_io_EOF {H : Type} : DataW H := .iface "*errors.errorString" (.ptr (.agg [.lit (.string [69, 79, 70])]))
def laid_io_ErrUnexpectedEOF {H : Type} : DataW H := .iface "*errors.errorString" (.ptr (.agg [.lit (.string [117, 110, 101, 120, 112, 101, 99, 116, 101, 100, 32, 69, 79, 70])]))

/-- 'markdown.LawS6158AWhole': WHATEVER THE INPUT: true; the input reads as it did. -/
def lawS6158AWholeSpec : ChangeSpec := { name := "lawS6158AWhole", fn := fun _ => fun
  | [d1, d2, d3, d4] => { results := [.lit (.bool true)], args := [d1, d2, d3, d4] }
  | _ => none }
def lawS6158AWholeRow : OpenClaim := { program := "ybulkdwmwdoor", sum := "f242369cefbd930ed20ecce801d6616d42c94f14323e9a6a46c7dc2eb8e5b00f", func := "example.com/haltgate/haltgate/internal/markdown.LawS6158AWhole", spec := "lawS6158AWhole", unfollowed := true, recurses := true, named := ["io.EOF", "io.ErrUnexpectedEOF"], apart := false, laid := [("io.EOF", laid_io_EOF), ("io.ErrUnexpectedEOF", laid_io_ErrUnexpectedEOF)] }
def LawS6158AWholeSaid : Prop := lawS6158AWholeRow.holds Ybad.pinned (OpenSpec.ofChange lawS6158AWholeSpec)

/-- ITS FALSE NEIGHBOUR: 'it returns false'. Refute it at one input. -/
def lawS6158AWholeWrong : ChangeSpec := { name := "lawS6158AWhole", fn := fun _ => fun
  | [d1, d2, d3, d4] => { results := [.lit (.bool false)], args := [d1, d2, d3, d4] }
  | _ => none }
def LawS6158AWholeWrongFalsely : Prop := lawS6158AWholeRow.holds Ybad.pinned (OpenSpec.ofChange lawS6158AWholeWrong)

end Rows
end Go.Proofs.YbulkdwmwDoor
