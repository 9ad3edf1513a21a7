import Derived.Test.YbulkdwjcFmtRows
import Derived.Test.YbulkdwjcFmtShelf
import Derived.Test.YbulkdwjcFmtKeep
import Derived.WalkSmall
namespace Go.Proofs.YbulkdwjcFmt
open Go Go.RowKit Go.Shelf
set_option linter.unusedVariables false

/-- The table of powers of ten, as the row lists it. -/
def Pow10 (w : World) : Prop := Lib.TabIs Ybaf.prog w (Rows.lawS6151BWholeRow.named.headD "") .u64 Lib.pow10Tab
theorem gPow : Ybaf.prog.globalNamed (Rows.lawS6151BWholeRow.named.headD "") = some 6 := by kernel_rfl

/-- The decimal numeral, as a string. -/
def dec (n : Int) : ByteArray := ⟨(Lib.itoa n).toArray⟩

theorem itoa_any (n : Int) (h0 : -9223372036854775808 ≤ n) (h1 : n ≤ 9223372036854775807) (w : World) (htab : Pow10 w) :
    Calls Ybaf.prog 14 #[.int .i64 n] w fun e w' => e = .returned (.string (dec n)) ∧ Below w.heap.size w w' := by
  refine (Any.strconv_Itoa Ybaf.laysM171 n h0 h1 w htab).mono ?_
  rintro e w' ⟨he, k, os, rfl⟩
  refine ⟨he, rfl, rfl, rfl, by simp [Sort.grow, World.drewN], fun j hj => ?_⟩
  simp only [Sort.grow, World.drewN]
  rw [Array.getElem?_append_left hj]

theorem Pow10.keep {B x y : Nat} {w w' : World} (h : Pow10 w) (hk : Keep B x y w w') (hB : 6 < B) (hx : 6 ≠ x) (hy : 6 ≠ y) : Pow10 w' := by
  unfold Pow10 Lib.TabIs at *
  rw [← h]
  simp only [World.var?, gPow]
  show (match w'.heap[6]? with | some (Obj.cells cs _ _) => some cs | _ => none) = (match w.heap[6]? with | some (Obj.cells cs _ _) => some cs | _ => none)
  rw [hk.block 6 hB hx hy]

theorem equal_strings (b1 o1 n c b2 o2 m d : Nat) (xs ys : List ByteArray) (w : World) (hx : n ≤ xs.length) (hy : m ≤ ys.length) (hbig : n ≤ 9223372036854775807) (hbig2 : m ≤ 9223372036854775807) (hc1 : ∀ j, j < xs.length → w.cell? ⟨b1, o1 + j, none⟩ = some (.string (xs.getD j ByteArray.empty))) (hc2 : ∀ j, j < ys.length → w.cell? ⟨b2, o2 + j, none⟩ = some (.string (ys.getD j ByteArray.empty))) :
    Calls Ybaf.prog 15 #[.slice (some ⟨b1, o1, none⟩) n c, .slice (some ⟨b2, o2, none⟩) m d] w fun e w' => e = .returned (.bool (decide (xs.take n = ys.take m))) ∧ ∃ q, w' = w.drewN q := Any.slices_Equal_string Ybaf.lays193 b1 o1 n c b2 o2 m d xs ys w hx hy hbig hbig2 hc1 hc2
theorem equal_empty (a1 a2 : Option Addr) (c m d : Nat) (w : World) (hbig2 : m ≤ 9223372036854775807) :
    Calls Ybaf.prog 15 #[.slice a1 0 c, .slice a2 m d] w fun e w' => e = .returned (.bool (decide (m = 0))) ∧ w' = w := Any.slices_Equal_string_empty Ybaf.lays193 a1 a2 c m d w hbig2
end Go.Proofs.YbulkdwjcFmt
