import Derived.Test.YbulkdwjcFmtLibs
namespace Go.Proofs.YbulkdwjcFmt
open Go Go.RowKit
set_option linter.unusedVariables false

/-! ### THE PLAIN MODEL: a step is (unprinted, an expectation, failing) -/

/-- How many printed steps lie ahead of step k, and how many unprinted ones right ahead of it. -/
def cnt (st : List (Bool × Bool × Bool)) : Nat → Nat × Nat
  | 0 => (0, 0)
  | k + 1 => if (st.getD k default).1 then ((cnt st k).1, (cnt st k).2 + 1) else ((cnt st k).1 + 1, 0)

theorem cnt_le (st : List (Bool × Bool × Bool)) : ∀ k, (cnt st k).1 ≤ k ∧ (cnt st k).2 ≤ k
  | 0 => by simp [cnt]
  | k + 1 => by
    have h := cnt_le st k
    unfold cnt
    split <;> simp <;> omega

/-- The number of the printed step number p. -/
def numAt (first : Int) (p : Nat) : Int := wrap64 (first - 1 + p)
theorem numAt_in (first : Int) (p : Nat) : -9223372036854775808 ≤ numAt first p ∧ numAt first p ≤ 9223372036854775807 := by
  unfold numAt wrap64; omega
theorem numAt_zero (first : Int) : wrap64 (first - 1) = numAt first 0 := by simp [numAt]
theorem numAt_succ (first : Int) (p : Nat) : wrap64 (numAt first p + 1) = numAt first (p + 1) := by
  unfold numAt wrap64; omega
theorem numAt_law (first : Int) (p : Nat) : wrap64 (wrap64 (first - 1) + p) = numAt first p := by
  unfold numAt wrap64; omega

/-- The label of step k. -/
def label (st : List (Bool × Bool × Bool)) (pre : ByteArray) (first : Int) (k : Nat) : ByteArray :=
  if (st.getD k default).1 then pre ++ dec (numAt first (cnt st k).1) ++ Utf8.encode (97 + ((cnt st k).2 : Int)) else pre ++ dec (numAt first ((cnt st k).1 + 1))

def labels (st : List (Bool × Bool × Bool)) (pre : ByteArray) (first : Int) (k : Nat) : List Value := (List.range k).map fun j => Value.string (label st pre first j)
theorem labels_succ (st : List (Bool × Bool × Bool)) (pre : ByteArray) (first : Int) (k : Nat) : labels st pre first (k + 1) = labels st pre first k ++ [.string (label st pre first k)] := by
  simp [labels, List.range_succ]

/-- What 'run.step' holds ahead of step k. -/
def stepS (st : List (Bool × Bool × Bool)) (pre : ByteArray) (first : Int) : Nat → ByteArray
  | 0 => ⟨#[105, 110, 105, 116]⟩
  | k + 1 => label st pre first k

/-- The built step. -/
def stepV (LG SB : Nat) (d : Bool × Bool × Bool) : Value :=
  let b : Value := .agg #[.pointer (some ⟨LG, 0, none⟩), .bool d.2.2, .iface 106 (.pointer (some ⟨SB, 0, none⟩))]
  let s : Value := if d.2.1 then .iface 67 b else .iface 63 b
  if d.1 then .iface 69 (.agg #[s]) else s

/-- The run's cells. -/
def runC (s : ByteArray) (sent : Value) : Array Value :=
  #[.string ⟨#[]⟩, .string ⟨#[]⟩, .slice none 0 0, .slice none 0 0, .nilIface, .int .i64 0, .slice none 0 0, .slice none 0 0, .string s, sent, .slice none 0 0, .bool false,
    .int .u8 0, .int .u8 0, .int .u8 0, .int .u8 0, .int .u8 0, .int .i8 0, .bool false, .int .i64 0, .int .i64 0, .int .u8 0, .int .i64 0, .int .i64 0, .slice none 0 0]

theorem run_cells {w : World} {R : Nat} {s : ByteArray} {sent : Value} (h : w.heap[R]? = some (.cells (runC s sent) 92 (0, 0))) :
    w.cell? ⟨R, 8, none⟩ = some (.string s) ∧ w.cell? ⟨R, 9, none⟩ = some sent ∧ w.cell? ⟨R, 10, none⟩ = some (.slice none 0 0) ∧ w.frozen? ⟨R, 8, none⟩ = false ∧ w.frozen? ⟨R, 9, none⟩ = false ∧
    w.cell? ⟨R, 6, none⟩ = some (.slice none 0 0) ∧ w.cell? ⟨R, 7, none⟩ = some (.slice none 0 0) ∧ w.cell? ⟨R, 24, none⟩ = some (.slice none 0 0) := by
  simp [World.cell?, World.frozen?, h, runC]

theorem run_set {w : World} {R : Nat} {s : ByteArray} {sent : Value} (h : w.heap[R]? = some (.cells (runC s sent) 92 (0, 0))) (s' : ByteArray) :
    (w.setCell ⟨R, 8, none⟩ (.string s')).heap[R]? = some (.cells (runC s' sent) 92 (0, 0)) := by
  have hlt := lt_of_block h
  have h' : w.heap[R] = .cells (runC s sent) 92 (0, 0) := by simpa [Array.getElem?_eq_getElem hlt] using h
  show (w.heap.modify R _)[R]? = _
  rw [Array.getElem?_eq_getElem (by simpa using hlt), Array.getElem_modify_self, h']
  rfl

/-- THE STATE AHEAD OF STEP k of takeAll, nothing having stopped it: the log holds the labels of the steps that lie behind. -/
structure Inv (B LG R : Nat) (st : List (Bool × Bool × Bool)) (pre : ByteArray) (first : Int) (sent : Value) (w : World) (k : Nat) (wr : World) : Prop where
  keep : Keep B LG R w wr
  log : ∃ v, wr.heap[LG]? = some (.cells #[v] 57 (0, 0)) ∧ wr.ownsRow B 9 1 v k (labels st pre first k)
  run : wr.heap[R]? = some (.cells (runC (stepS st pre first k) sent) 92 (0, 0))

end Go.Proofs.YbulkdwjcFmt
