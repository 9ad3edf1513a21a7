/-
  No cell of these rows narrows 'for every input' (looked for: loops, veiled, ifaces, maps, wideKeys, modest, calm, conditions, laid).
  DERIVED. THE GIVEN ROWS OF THIS SEAT. 1 by the template 'for every input the law returns true; each argument reads behind the call as it read before'; 0 by the template 'total and deterministic' (their statements: YbulkdwomTotals.lean).
  GIVEN WITH THE SEED: the statements are not yours to turn. If you find one false, say at which input.
  Laid BY PROGRAM, IN A SANDBOX (cutbox-rows.mjs): the forced cells as the released guide's own fill.sh prints them over the translation 786ed883552fc602… (all of the seat's roots in one cut). By AI agents, Wed Nov 11 2026. No macro, syntax, notation, axiom, sorry.
-/
import Derived.Test.YbulkdwomChecked
import GoSem.Claim
import GoSem.ClaimJoined
import GoSem.ClaimMapViews
import Derived.JoinedTies
import Derived.KernelRfl
namespace Go.Proofs.Ybulkdwom
/- THE CELL 'sum', in the pinned program and in every row, IS THE sha256 OF THE DUMP (.gsa) THAT YbulkdwomProg.lean LOADS. Nothing in Lean hashes anything: it is a label: what it is worth is what the hold of that sum in a sandbox is worth. -/
noncomputable def Yba.pinned : Pinned := { name := "ybulkdwom", sum := "786ed883552fc60235793286a5883acec19d8c8d9b83c7c535f6f778ba78f6d7", checked := Yba.checked }
namespace Rows
def none {H : Type} : Left H := { results := [], args := [] }

/-- 'sim.LawS6161BWhole': WHATEVER THE INPUT: true; the input reads as it did. -/
def lawS6161BWholeSpec : ChangeSpec := { name := "lawS6161BWhole", fn := fun _ => fun
  | [d] => { results := [.lit (.bool true)], args := [d] }
  | _ => none }
def lawS6161BWholeRow : OpenClaim := { program := "ybulkdwom", sum := "786ed883552fc60235793286a5883acec19d8c8d9b83c7c535f6f778ba78f6d7", func := "example.com/clockless/clockless/sim.LawS6161BWhole", spec := "lawS6161BWhole", apart := false }
def LawS6161BWholeSaid : Prop := lawS6161BWholeRow.holds Yba.pinned (OpenSpec.ofChange lawS6161BWholeSpec)

/-- ITS FALSE NEIGHBOUR: 'it returns false'. Refute it at one input. -/
def lawS6161BWholeWrong : ChangeSpec := { name := "lawS6161BWhole", fn := fun _ => fun
  | [d] => { results := [.lit (.bool false)], args := [d] }
  | _ => none }
def LawS6161BWholeWrongFalsely : Prop := lawS6161BWholeRow.holds Yba.pinned (OpenSpec.ofChange lawS6161BWholeWrong)

end Rows
end Go.Proofs.Ybulkdwom
