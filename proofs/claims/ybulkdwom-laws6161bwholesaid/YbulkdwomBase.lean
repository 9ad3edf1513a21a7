import Derived.Test.YbulkdwomRows
import Derived.WalkKit
import Derived.WalkSpells
import Derived.WalkLawsBesides
import Derived.OneCell
import Derived.Deep.Heap
import Derived.Deep.OwnRows
import Derived.Deep.QuietTactic
import Derived.BigQuiet
import Derived.RegionTactic
import Derived.Lib.Builder
namespace Go.Proofs.Ybulkdwom
open Go Go.RowKit
set_option linter.unusedVariables false

/-- 'make([]T, n)', T of whatever cells: the world written out. -/
theorem wpList_make_any {P : Program} (w : World) {ops : Array Oper} {rest : List Oper} {o : Oper} {a : Act} {Q : Exit → Act → World → Prop}
    (hg : o.guard = none) (l c : Operand) (t : TypeId) (hop : o.op = Op.makeSlice t l c)
    (e : TypeId) (i : TypeInfo) (z : Value) (size : Nat) (ht : P.underlying t = some (.slice e)) (hi : P.info? e = some i) (hz : i.zero = some z) (hsize : i.size = size)
    (kl kc : IntKind) (n : Nat) (hl : a.eval l = .int kl (n : Int)) (hc : a.eval c = .int kc (n : Int)) (hbytes : i.bytes * n ≤ 281474976710656) (h63 : n ≤ 9223372036854775807)
    (hK : wpList P ops Q rest (a.put o.dst (.slice (some ⟨w.heap.size, 0, none⟩) n n)) (w.alloc (.cells (madeCells z.cells (n * size)) e))) :
    wpList P ops Q (o :: rest) a w := by
  refine wpList_plain hg fun K hK' => ?_
  have hb' : (i.bytes : Int) * (n : Int) ≤ 281474976710656 := by
    have h : ((i.bytes * n : Nat) : Int) ≤ 281474976710656 := by omega
    rwa [Int.natCast_mul] at h
  have hrun := run_make (P := P) w t e i z ht hi hz kl kc n n (by omega) (Int.le_refl _) hb' (by omega)
  simp only [Int.toNat_natCast, hsize] at hrun
  unfold Oper.wp
  simp [execOp, hop, hl, hc, hrun, Result.andThen]
  exact hK' _ _ hK

theorem info33 : (Yba.prog.info? 33).map (fun i => (i.zero, i.size, i.bytes)) = some (some (.agg #[.int .i64 0, .pointer none]), 2, 16) := by kernel_rfl
theorem info26 : (Yba.prog.info? 26).map (fun i => (i.zero, i.size, i.bytes)) = some (some (.pointer none), 1, 8) := by kernel_rfl

/-- The heap's row: pairs of a time and a bucket. -/
def slotF (A : Nat → Int) (pf : Nat → Option Addr) (k : Nat) : Nat → Value := fun j =>
  if j < 2 * k then (if j % 2 = 0 then .int .i64 (A (j / 2)) else .pointer (pf (j / 2))) else (if j % 2 = 0 then .int .i64 0 else .pointer none)

theorem made_slots (w : World) (n : Nat) (A : Nat → Int) (pf : Nat → Option Addr) : (w.alloc (.cells (madeCells (Value.agg #[.int .i64 0, .pointer none]).cells (n * 2)) 33)).rowIs w.heap.size 33 (n * 2) (slotF A pf 0) := by
  refine ⟨_, Deep.blk_alloc_new _ _, size_madeCells _ _, fun i hi => ?_⟩
  have hc : (Value.agg #[.int .i64 0, .pointer none]).cells = #[.int .i64 0, .pointer none] := rfl
  rw [hc]
  simp only [madeCells, slotF, Nat.mul_zero, Nat.not_lt_zero, if_false]
  have : i % 2 = 0 ∨ i % 2 = 1 := by omega
  rcases this with h | h <;> simp [hi, h]

/-- The drawn slots: the slice's cells. -/
def InAt (w : World) (db off n : Nat) (A : Nat → Int) (Hs : Nat → Bool) (Nx : Nat → Int) : Prop :=
  ∀ k, k < n → w.cell? ⟨db, off + k * 3, none⟩ = some (.int .i64 (A k)) ∧ w.cell? ⟨db, off + k * 3 + 1, none⟩ = some (.bool (Hs k)) ∧ w.cell? ⟨db, off + k * 3 + 2, none⟩ = some (.int .i64 (Nx k))

/-- The buckets made so far. -/
def Bks (w : World) (B k : Nat) (Hs : Nat → Bool) (Nx : Nat → Int) (pf : Nat → Option Addr) : Prop :=
  ∀ j, j < k → (Hs j = false ∧ pf j = none) ∨ (Hs j = true ∧ ∃ b, pf j = some ⟨b, 0, none⟩ ∧ B < b ∧ w.heap[b]? = some (.cells #[.slice none 0 0, .int .i64 (Nx j)] 31 (0, 0)))

/-- THE STATE AHEAD OF ROUND k of the loop that fills the heap. -/
structure Fill (w : World) (n : Nat) (A : Nat → Int) (Hs : Nat → Bool) (Nx : Nat → Int) (pf : Nat → Option Addr) (k : Nat) (wr : World) : Prop where
  below : Below w.heap.size w wr
  hv : wr.heap[w.heap.size + 1]? = some (.cells #[.slice (some ⟨w.heap.size, 0, none⟩) n n] 24 (0, 0))
  row : wr.rowIs w.heap.size 33 (n * 2) (slotF A pf k)
  bs : wr.rowIs (w.heap.size + 1 + 1) 26 n (fun j => if j < k then .pointer (pf j) else .pointer none)
  bk : Bks wr (w.heap.size + 1 + 1) k Hs Nx pf

theorem fill_start (w : World) (n : Nat) (A : Nat → Int) (Hs : Nat → Bool) (Nx : Nat → Int) (pf : Nat → Option Addr) :
    Fill w n A Hs Nx pf 0 (((w.alloc (.cells (madeCells (Value.agg #[.int .i64 0, .pointer none]).cells (n * 2)) 33)).alloc (.cells #[.slice (some ⟨w.heap.size, 0, none⟩) n n] 24)).alloc (.cells (madeCells #[.pointer none] n) 26)) := by
  refine ⟨(((Below.refl _ _).alloc (Nat.le_refl _) _).alloc (by simp) _).alloc (by simp; omega) _, ?_, ((made_slots w n A pf).alloc _).alloc _, ?_, fun j hj => absurd hj (Nat.not_lt_zero _)⟩
  · rw [Deep.blk_alloc_lt _ _ _ (by simp)]
    have := Deep.blk_alloc_new (w.alloc (.cells (madeCells (Value.agg #[.int .i64 0, .pointer none]).cells (n * 2)) 33)) (.cells #[.slice (some ⟨w.heap.size, 0, none⟩) n n] 24)
    simpa using this
  · have := World.rowIs_made ((w.alloc (.cells (madeCells (Value.agg #[.int .i64 0, .pointer none]).cells (n * 2)) 33)).alloc (.cells #[.slice (some ⟨w.heap.size, 0, none⟩) n n] 24)) (.pointer none) n 26
    simpa using this

theorem neq_ptr (t : TypeId) (p : Option Addr) (w : World) (ht : t = 26) : (binOp .neq t (.pointer p) (.pointer p)).run Yba.prog w = .ok (.bool false) w := by
  subst ht
  cases p with
  | none => kernel_rfl
  | some a =>
    obtain ⟨j, hj, _⟩ := Option.map_eq_some_iff.1 (show (Yba.prog.info? 31).map (·.size) = some 2 by kernel_rfl)
    exact Lib.run_neq_ptr_same (w := w) a Yba.underlying26 hj
end Go.Proofs.Ybulkdwom
