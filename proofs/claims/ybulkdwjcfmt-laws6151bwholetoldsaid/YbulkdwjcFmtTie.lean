/-
  DERIVED. GIVEN WITH THE SEED: THE PROGRAM's TIES (one call each: nine closed facts by the kernel) AND EACH ROW's TIE, after the 31st guide's Derived/Test/Toyas{Tie, Card}.lean. No idea stands in it: it is a product of the set-up. Laid BY PROGRAM, IN A SANDBOX (cutbox-door.mjs). By AI agents, Wed Nov 11 2026. No macro, syntax, notation, axiom, sorry.
-/
import Derived.Test.YbulkdwjcFmtRows
import Derived.LaidByTextLater
import Derived.SevenTiedAt
import Derived.LaidSub
import Derived.LaidOnce
namespace Go.Proofs.YbulkdwjcFmt
open Go
set_option maxRecDepth 100000
theorem seatTie1 : Ybaf.prog.laidByTextLater [("math/bits.deBruijn32tab", Rows.laid_math_bits_deBruijn32tab), ("math/bits.deBruijn64tab", Rows.laid_math_bits_deBruijn64tab), ("internal/strconv.uint64pow10", Rows.laid_internal_strconv_uint64pow10), ("example.com/partyline/partyline.unrecognizedComponent", Rows.laid_example_com_partyline_partyline_unrecognizedComponent), ("example.com/partyline/partyline.mistypedComponent", Rows.laid_example_com_partyline_partyline_mistypedComponent), ("example.com/partyline/partyline.badlyStructuredComponent", Rows.laid_example_com_partyline_partyline_badlyStructuredComponent), ("example.com/partyline/partyline.ErrTruncated", Rows.laid_example_com_partyline_partyline_ErrTruncated), ("example.com/partyline/partyline.ErrMalformed", Rows.laid_example_com_partyline_partyline_ErrMalformed), ("example.com/partyline/partyline.ErrComprehensionRequired", Rows.laid_example_com_partyline_partyline_ErrComprehensionRequired)] [.data, .data, .data, .wider, .wider, .wider, .called, .called, .called] true :=
  Program.laidByTextLater_by_one 105 8 65 (by kernel_rfl) (by kernel_rfl) (by kernel_rfl) (by kernel_rfl) (by kernel_rfl) (by kernel_rfl) (fun _ _ => by kernel_rfl)
theorem noOwnUnsafe : Ybaf.pinned.checked.prog.headLifts.contains "ownunsafe" = false := by kernel_rfl
theorem tie : Ybaf.prog.laidByTextLater [("example.com/partyline/partyline.unrecognizedComponent", Rows.laid_example_com_partyline_partyline_unrecognizedComponent), ("example.com/partyline/partyline.mistypedComponent", Rows.laid_example_com_partyline_partyline_mistypedComponent), ("example.com/partyline/partyline.badlyStructuredComponent", Rows.laid_example_com_partyline_partyline_badlyStructuredComponent), ("example.com/partyline/partyline.ErrTruncated", Rows.laid_example_com_partyline_partyline_ErrTruncated), ("example.com/partyline/partyline.ErrMalformed", Rows.laid_example_com_partyline_partyline_ErrMalformed), ("example.com/partyline/partyline.ErrComprehensionRequired", Rows.laid_example_com_partyline_partyline_ErrComprehensionRequired)] [.wider, .wider, .wider, .called, .called, .called] true :=
  Program.laidByTextLater.sub seatTie1 ["example.com/partyline/partyline.unrecognizedComponent", "example.com/partyline/partyline.mistypedComponent", "example.com/partyline/partyline.badlyStructuredComponent", "example.com/partyline/partyline.ErrTruncated", "example.com/partyline/partyline.ErrMalformed", "example.com/partyline/partyline.ErrComprehensionRequired"] (by kernel_rfl) (by kernel_rfl)
theorem lawS6151AWhole_row_tie : Rows.lawS6151AWholeRow.laidByTextAt .later Ybaf.pinned [.wider, .wider, .wider, .called, .called, .called] true :=
  OpenClaim.laidByTextAt_later rfl rfl tie noOwnUnsafe
theorem tie2 : Ybaf.prog.laidByTextLater [("math/bits.deBruijn32tab", Rows.laid_math_bits_deBruijn32tab), ("math/bits.deBruijn64tab", Rows.laid_math_bits_deBruijn64tab), ("internal/strconv.uint64pow10", Rows.laid_internal_strconv_uint64pow10)] [.data, .data, .data] true :=
  Program.laidByTextLater.sub seatTie1 ["math/bits.deBruijn32tab", "math/bits.deBruijn64tab", "internal/strconv.uint64pow10"] (by kernel_rfl) (by kernel_rfl)
theorem lawS6151BWhole_row_tie : Rows.lawS6151BWholeRow.laidByTextAt .later Ybaf.pinned [.data, .data, .data] true :=
  OpenClaim.laidByTextAt_later rfl rfl tie2 noOwnUnsafe
end Go.Proofs.YbulkdwjcFmt
