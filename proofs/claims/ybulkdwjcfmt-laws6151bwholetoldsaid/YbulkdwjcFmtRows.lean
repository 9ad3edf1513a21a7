/-
  NARROWER THAN 'FOR EVERY INPUT', by the rows' own cells (each row's printed sentence says how): LawS6151AWhole: ifaces, laid · LawS6151BWhole: laid.
  DERIVED. THE GIVEN ROWS OF THIS SEAT. 2 by the template 'for every input the law returns true; each argument reads behind the call as it read before'; 0 by the template 'total and deterministic' (their statements: YbulkdwjcFmtTotals.lean).
  GIVEN WITH THE SEED: the statements are not yours to turn. If you find one false, say at which input.
  Laid BY PROGRAM, IN A SANDBOX (cutbox-rows.mjs): the forced cells as the released guide's own fill.sh prints them over the translation 806582d25daccac4… (all of the seat's roots in one cut). By AI agents, Wed Nov 11 2026. No macro, syntax, notation, axiom, sorry.
-/
import Derived.Test.YbulkdwjcFmtChecked
import GoSem.Claim
import GoSem.ClaimJoined
import GoSem.ClaimMapViews
import Derived.JoinedTies
import Derived.KernelRfl
namespace Go.Proofs.YbulkdwjcFmt
/- THE CELL 'sum', in the pinned program and in every row, IS THE sha256 OF THE DUMP (.gsa) THAT YbulkdwjcFmtProg.lean LOADS. Nothing in Lean hashes anything: it is a label: what it is worth is what the hold of that sum in a sandbox is worth. -/
noncomputable def Ybaf.pinned : Pinned := { name := "ybulkdwjcfmt", sum := "806582d25daccac4c5297bde75715707b7f976def6be484f6b5a38987164df5d", checked := Ybaf.checked }
namespace Rows
def none {H : Type} : Left H := { results := [], args := [] }

/- WHAT THE LISTED PACKAGE-LEVEL VARIABLES READ AS WHEN THE CALL BEGINS. Each datum BY PROGRAM (the guide's laid-datum.mjs) off the statement by which the dump's own 'gosem.cut.vars' lays the variable. In a bare row this is a premise. The card (YbulkdwjcFmtCards.lean) ties it to the program's text. -/
def laid_example_com_partyline_partyline_unrecognizedComponent {H : Type} : DataW H := .agg [.lit (.int .u8 0), .lit (.int .i64 0)]
def laid_example_com_partyline_partyline_mistypedComponent {H : Type} : DataW H := .agg [.lit (.int .u8 0), .lit (.int .i64 1)]
def laid_example_com_partyline_partyline_badlyStructuredComponent {H : Type} : DataW H := .agg [.lit (.int .u8 0), .lit (.int .i64 2)]
def laid_example_com_partyline_partyline_ErrTruncated {H : Type} : DataW H := .iface "*errors.errorString" (.ptr (.agg [.lit (.string [109, 101, 115, 115, 97, 103, 101, 32, 99, 117, 116, 32, 115, 104, 111, 114, 116])]))
def laid_example_com_partyline_partyline_ErrMalformed {H : Type} : DataW H := .iface "*errors.errorString" (.ptr (.agg [.lit (.string [109, 97, 108, 102, 111, 114, 109, 101, 100, 32, 109, 101, 115, 115, 97, 103, 101])]))
def laid_example_com_partyline_partyline_ErrComprehensionRequired {H : Type} : DataW H := .iface "*errors.errorString" (.ptr (.agg [.lit (.string [117, 110, 107, 110, 111, 119, 110, 32, 105, 110, 102, 111, 114, 109, 97, 116, 105, 111, 110, 32, 101, 108, 101, 109, 101, 110, 116, 44, 32, 99, 111, 109, 112, 114, 101, 104, 101, 110, 115, 105, 111, 110, 32, 114, 101, 113, 117, 105, 114, 101, 100])]))
def laid_math_bits_deBruijn32tab {H : Type} : DataW H := .agg [.lit (.int .u8 0), .lit (.int .u8 1), .lit (.int .u8 28), .lit (.int .u8 2), .lit (.int .u8 29), .lit (.int .u8 14), .lit (.int .u8 24), .lit (.int .u8 3), .lit (.int .u8 30), .lit (.int .u8 22), .lit (.int .u8 20), .lit (.int .u8 15), .lit (.int .u8 25), .lit (.int .u8 17), .lit (.int .u8 4), .lit (.int .u8 8), .lit (.int .u8 31), .lit (.int .u8 27), .lit (.int .u8 13), .lit (.int .u8 23), .lit (.int .u8 21), .lit (.int .u8 19), .lit (.int .u8 16), .lit (.int .u8 7), .lit (.int .u8 26), .lit (.int .u8 12), .lit (.int .u8 18), .lit (.int .u8 6), .lit (.int .u8 11), .lit (.int .u8 5), .lit (.int .u8 10), .lit (.int .u8 9)]
def laid_math_bits_deBruijn64tab {H : Type} : DataW H := .agg [.lit (.int .u8 0), .lit (.int .u8 1), .lit (.int .u8 56), .lit (.int .u8 2), .lit (.int .u8 57), .lit (.int .u8 49), .lit (.int .u8 28), .lit (.int .u8 3), .lit (.int .u8 61), .lit (.int .u8 58), .lit (.int .u8 42), .lit (.int .u8 50), .lit (.int .u8 38), .lit (.int .u8 29), .lit (.int .u8 17), .lit (.int .u8 4), .lit (.int .u8 62), .lit (.int .u8 47), .lit (.int .u8 59), .lit (.int .u8 36), .lit (.int .u8 45), .lit (.int .u8 43), .lit (.int .u8 51), .lit (.int .u8 22), .lit (.int .u8 53), .lit (.int .u8 39), .lit (.int .u8 33), .lit (.int .u8 30), .lit (.int .u8 24), .lit (.int .u8 18), .lit (.int .u8 12), .lit (.int .u8 5), .lit (.int .u8 63), .lit (.int .u8 55), .lit (.int .u8 48), .lit (.int .u8 27), .lit (.int .u8 60), .lit (.int .u8 41), .lit (.int .u8 37), .lit (.int .u8 16), .lit (.int .u8 46), .lit (.int .u8 35), .lit (.int .u8 44), .lit (.int .u8 21), .lit (.int .u8 52), .lit (.int .u8 32), .lit (.int .u8 23), .lit (.int .u8 11), .lit (.int .u8 54), .lit (.int .u8 26), .lit (.int .u8 40), .lit (.int .u8 15), .lit (.int .u8 34), .lit (.int .u8 20), .lit (.int .u8 31), .lit (.int .u8 10), .lit (.int .u8 25), .lit (.int .u8 14), .lit (.int .u8 19), .lit (.int .u8 9), .lit (.int .u8 13), .lit (.int .u8 8), .lit (.int .u8 7), .lit (.int .u8 6)]
def laid_internal_strconv_uint64pow10 {H : Type} : DataW H := .agg [.lit (.int .u64 1), .lit (.int .u64 10), .lit (.int .u64 100), .lit (.int .u64 1000), .lit (.int .u64 10000), .lit (.int .u64 100000), .lit (.int .u64 1000000), .lit (.int .u64 10000000), .lit (.int .u64 100000000), .lit (.int .u64 1000000000), .lit (.int .u64 10000000000), .lit (.int .u64 100000000000), .lit (.int .u64 1000000000000), .lit (.int .u64 10000000000000), .lit (.int .u64 100000000000000), .lit (.int .u64 1000000000000000), .lit (.int .u64 10000000000000000), .lit (.int .u64 100000000000000000), .lit (.int .u64 1000000000000000000), .lit (.int .u64 10000000000000000000)]

/-- 'partyline.LawS6151AWhole': WHATEVER THE INPUT: true; the input reads as it did. -/
def lawS6151AWholeSpec : ChangeSpec := { name := "lawS6151AWhole", vars := ["example.com/partyline/partyline.ErrTruncated", "example.com/partyline/partyline.ErrMalformed", "example.com/partyline/partyline.ErrComprehensionRequired", "example.com/partyline/partyline.badlyStructuredComponent", "example.com/partyline/partyline.unrecognizedComponent", "example.com/partyline/partyline.mistypedComponent"], fn := fun _ => fun
  | [d1, d2, d3, d4, d5, d6, d7, d8, d9, d10, g1, g2, g3, g4, g5, g6] => { results := [.lit (.bool true)], args := [d1, d2, d3, d4, d5, d6, d7, d8, d9, d10], vars := [g1, g2, g3, g4, g5, g6] }
  | _ => none }
def lawS6151AWholeRow : OpenClaim := { program := "ybulkdwjcfmt", sum := "806582d25daccac4c5297bde75715707b7f976def6be484f6b5a38987164df5d", func := "example.com/partyline/partyline.LawS6151AWhole", spec := "lawS6151AWhole", stops := ["fmt.Sprintf, its operands' methods called", "fmt.errorf, its operands' methods called"], inPlace := ["fmt.errorf", "fmt.Sprintf", "internal/reflectlite.TypeOf"], unfollowed := true, recurses := true, named := ["example.com/partyline/partyline.ErrTruncated", "example.com/partyline/partyline.ErrMalformed", "example.com/partyline/partyline.ErrComprehensionRequired", "example.com/partyline/partyline.badlyStructuredComponent", "example.com/partyline/partyline.unrecognizedComponent", "example.com/partyline/partyline.mistypedComponent"], ifaces := true, apart := false, laid := [("example.com/partyline/partyline.unrecognizedComponent", laid_example_com_partyline_partyline_unrecognizedComponent), ("example.com/partyline/partyline.mistypedComponent", laid_example_com_partyline_partyline_mistypedComponent), ("example.com/partyline/partyline.badlyStructuredComponent", laid_example_com_partyline_partyline_badlyStructuredComponent), ("example.com/partyline/partyline.ErrTruncated", laid_example_com_partyline_partyline_ErrTruncated), ("example.com/partyline/partyline.ErrMalformed", laid_example_com_partyline_partyline_ErrMalformed), ("example.com/partyline/partyline.ErrComprehensionRequired", laid_example_com_partyline_partyline_ErrComprehensionRequired)] }
/-- NO THEOREM (fmt's text is open here; it may be false): for the released tool's asking of the row's closed facts alone. THE STATEMENT IS 'LawS6151AWholeToldSaid' (YbulkdwjcFmtCards.lean). -/
def LawS6151AWholeFormAsk : Prop := lawS6151AWholeRow.holds Ybaf.pinned (OpenSpec.ofChange lawS6151AWholeSpec)

/-- ITS FALSE NEIGHBOUR: 'it returns false'. Refute it at one input. -/
def lawS6151AWholeWrong : ChangeSpec := { name := "lawS6151AWhole", vars := ["example.com/partyline/partyline.ErrTruncated", "example.com/partyline/partyline.ErrMalformed", "example.com/partyline/partyline.ErrComprehensionRequired", "example.com/partyline/partyline.badlyStructuredComponent", "example.com/partyline/partyline.unrecognizedComponent", "example.com/partyline/partyline.mistypedComponent"], fn := fun _ => fun
  | [d1, d2, d3, d4, d5, d6, d7, d8, d9, d10, g1, g2, g3, g4, g5, g6] => { results := [.lit (.bool false)], args := [d1, d2, d3, d4, d5, d6, d7, d8, d9, d10], vars := [g1, g2, g3, g4, g5, g6] }
  | _ => none }
def LawS6151AWholeWrongFormAsk : Prop := lawS6151AWholeRow.holds Ybaf.pinned (OpenSpec.ofChange lawS6151AWholeWrong)

/-- 'conform.LawS6151BWhole': WHATEVER THE INPUT: true; the input reads as it did. -/
def lawS6151BWholeSpec : ChangeSpec := { name := "lawS6151BWhole", fn := fun _ => fun
  | [d1, d2, d3, d4] => { results := [.lit (.bool true)], args := [d1, d2, d3, d4] }
  | _ => none }
def lawS6151BWholeRow : OpenClaim := { program := "ybulkdwjcfmt", sum := "806582d25daccac4c5297bde75715707b7f976def6be484f6b5a38987164df5d", func := "example.com/partyline/partyline/internal/conform.LawS6151BWhole", spec := "lawS6151BWhole", stops := ["fmt.Sprintf, its operands' methods called", "fmt.errorf, its operands' methods called"], inPlace := ["fmt.errorf"], unfollowed := true, recurses := true, named := ["internal/strconv.uint64pow10", "math/bits.deBruijn32tab", "math/bits.deBruijn64tab"], apart := false, laid := [("math/bits.deBruijn32tab", laid_math_bits_deBruijn32tab), ("math/bits.deBruijn64tab", laid_math_bits_deBruijn64tab), ("internal/strconv.uint64pow10", laid_internal_strconv_uint64pow10)] }
/-- NO THEOREM (fmt's text is open here; it may be false): for the released tool's asking of the row's closed facts alone. THE STATEMENT IS 'LawS6151BWholeToldSaid' (YbulkdwjcFmtCards.lean). -/
def LawS6151BWholeFormAsk : Prop := lawS6151BWholeRow.holds Ybaf.pinned (OpenSpec.ofChange lawS6151BWholeSpec)

/-- ITS FALSE NEIGHBOUR: 'it returns false'. Refute it at one input. -/
def lawS6151BWholeWrong : ChangeSpec := { name := "lawS6151BWhole", fn := fun _ => fun
  | [d1, d2, d3, d4] => { results := [.lit (.bool false)], args := [d1, d2, d3, d4] }
  | _ => none }
def LawS6151BWholeWrongFormAsk : Prop := lawS6151BWholeRow.holds Ybaf.pinned (OpenSpec.ofChange lawS6151BWholeWrong)

end Rows
end Go.Proofs.YbulkdwjcFmt
