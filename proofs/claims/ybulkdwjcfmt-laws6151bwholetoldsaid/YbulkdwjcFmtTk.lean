import Derived.Test.YbulkdwjcFmtTake
import Derived.Test.YbulkdwjcFmtErr
import Derived.Stop.Asserts
namespace Go.Proofs.YbulkdwjcFmt
open Go Go.RowKit Go.Extern.Stop Go.Stop Go.Extern
set_option linter.unusedVariables false

theorem as63 (v : Value) (w : World) : (Instr.typeAssert (.iface 63 v) 65 130 true).run Ybaf.prog w = .ok (.tuple #[.nilIface, .bool false]) w :=
  run_typeAssert_lacksB Ybaf.underlying130 (by kernel_rfl) (by kernel_rfl) v 65 w
theorem as67 (v : Value) (w : World) : (Instr.typeAssert (.iface 67 v) 65 130 true).run Ybaf.prog w = .ok (.tuple #[.iface 67 v, .bool true]) w :=
  run_typeAssert_hasB Ybaf.underlying130 (by kernel_rfl) v 65 w
theorem bld67 (a b c : Value) (w : World) : (Instr.build 67 #[(0, .agg #[a, b, c])]).run Ybaf.prog w = .ok (.agg #[a, b, c]) w := by kernel_rfl
theorem meth63' (a b c : Value) (w : World) : (method 340 63 (.agg #[a, b, c]) ((Ybaf.t63.methods.toList.map (·.name)).headD "")).run Ybaf.prog w = .ok (75, .agg #[a, b, c]) w := by kernel_rfl
theorem meth67' (a b c : Value) (w : World) : (method 340 67 (.agg #[a, b, c]) ((Ybaf.t63.methods.toList.map (·.name)).headD "")).run Ybaf.prog w = .ok (75, .agg #[a, b, c]) w := by kernel_rfl
theorem meth63 (name : String) (h : Ybaf.t63.methods.toList.map (·.name) = [name]) (a b c : Value) (w : World) : (method 340 63 (.agg #[a, b, c]) name).run Ybaf.prog w = .ok (75, .agg #[a, b, c]) w := by
  have e : name = (Ybaf.t63.methods.toList.map (·.name)).headD "" := by rw [h]; rfl
  rw [e]
  exact meth63' a b c w
theorem meth67 (name : String) (h : Ybaf.t63.methods.toList.map (·.name) = [name]) (a b c : Value) (w : World) : (method 340 67 (.agg #[a, b, c]) name).run Ybaf.prog w = .ok (75, .agg #[a, b, c]) w := by
  have e : name = (Ybaf.t63.methods.toList.map (·.name)).headD "" := by rw [h]; rfl
  rw [e]
  exact meth67' a b c w

/-- The step's stand-in, as a value. -/
def baseV (LG SB : Nat) (f : Bool) : Value := .agg #[.pointer (some ⟨LG, 0, none⟩), .bool f, .iface 106 (.pointer (some ⟨SB, 0, none⟩))]

set_option maxRecDepth 100000 in
set_option maxHeartbeats 400000 in
/-- 'take' of a step that is an expectation. -/
theorem tk_expect (B LG R SB : Nat) (f : Bool) (old lb : ByteArray) (v : Value) (n : Nat) (xs : List Value) (w : World)
    (hB : B ≤ w.heap.size) (hLG : LG < B) (hR : R < B) (hne : LG ≠ R) (hn : n < 8192)
    (hl : w.heap[LG]? = some (.cells #[v] 57 (0, 0))) (h8 : w.cell? ⟨R, 8, none⟩ = some (.string old)) (f8 : w.frozen? ⟨R, 8, none⟩ = false) (hown : w.ownsRow B 9 1 v n xs) :
    Calls Ybaf.prog 21 #[.pointer (some ⟨R, 0, none⟩), .string lb, .iface 67 (.agg #[.pointer (some ⟨LG, 0, none⟩), .bool f, .iface 106 (.pointer (some ⟨SB, 0, none⟩))])] w fun e w' =>
      e = .returned (if f then .iface 106 (.pointer (some ⟨SB, 0, none⟩)) else .nilIface) ∧ ∃ v', w'.heap[LG]? = some (.cells #[v'] 57 (0, 0)) ∧ w'.ownsRow B 9 1 v' (n + 1) (xs ++ [.string lb]) ∧ Keep B LG LG (w.setCell ⟨R, 8, none⟩ (.string lb)) w' := by
  have ha := as67
  have hm := fun a b c w => meth67 _ rfl a b c w
  go_enter Ybaf.func21, Ybaf.ntmps21
  go_wp2_with (go_at_call 29; fail)
  refine (take75 B LG R SB f lb v n xs _ (by simpa using hB) hLG hR hne hn ?_ ?_ ?_).mono ?_
  · rw [Below.heap_setCell _ _ _ _ hne]; exact hl
  · exact World.cell?_setCell_same _ _ _ h8
  · exact ownsRow_setCell_below hown hR _
  rintro e w' ⟨rfl, v', q1, q2, q3⟩
  have Q1 : Hid _ := q1
  clear q1
  cases f
  · go_wp2
    go_ret
    exact ⟨rfl, v', Q1.out, q2, q3⟩
  · go_wp2
    go_ret
    exact ⟨rfl, v', Q1.out, q2, q3⟩

set_option maxRecDepth 100000 in
set_option maxHeartbeats 400000 in
/-- 'take' of a step that is no expectation, nothing pending. -/
theorem tk_plain (B LG R SB : Nat) (f : Bool) (old lb : ByteArray) (v : Value) (n : Nat) (xs : List Value) (w : World)
    (hB : B ≤ w.heap.size) (hLG : LG < B) (hR : R < B) (hne : LG ≠ R) (hn : n < 8192)
    (hl : w.heap[LG]? = some (.cells #[v] 57 (0, 0))) (h8 : w.cell? ⟨R, 8, none⟩ = some (.string old)) (f8 : w.frozen? ⟨R, 8, none⟩ = false) (hown : w.ownsRow B 9 1 v n xs)
    (h9 : w.cell? ⟨R, 9, none⟩ = some (.slice none 0 0)) (h10 : w.cell? ⟨R, 10, none⟩ = some (.slice none 0 0)) :
    Calls Ybaf.prog 21 #[.pointer (some ⟨R, 0, none⟩), .string lb, .iface 63 (.agg #[.pointer (some ⟨LG, 0, none⟩), .bool f, .iface 106 (.pointer (some ⟨SB, 0, none⟩))])] w fun e w' =>
      e = .returned (if f then .iface 106 (.pointer (some ⟨SB, 0, none⟩)) else .nilIface) ∧ ∃ v', w'.heap[LG]? = some (.cells #[v'] 57 (0, 0)) ∧ w'.ownsRow B 9 1 v' (n + 1) (xs ++ [.string lb]) ∧ Keep B LG LG (w.setCell ⟨R, 8, none⟩ (.string lb)) w' := by
  have ha := as63
  have hm := fun a b c w => meth63 _ rfl a b c w
  go_enter Ybaf.func21, Ybaf.ntmps21
  go_wp2_with (go_at_call 29; fail)
  refine (unchecked_nil R _ ?_ ?_).mono ?_
  · rw [World.cell?_setCell_other _ _ _ _ (by simp)]; exact h9
  · rw [World.cell?_setCell_other _ _ _ _ (by simp)]; exact h10
  rintro e w' ⟨rfl, rfl⟩
  go_wp2_with (go_at_call 75; fail)
  refine (take75 B LG R SB f lb v n xs _ (by simpa using hB) hLG hR hne hn ?_ ?_ ?_).mono ?_
  · rw [Below.heap_setCell _ _ _ _ hne]; exact hl
  · exact World.cell?_setCell_same _ _ _ h8
  · exact ownsRow_setCell_below hown hR _
  rintro e w' ⟨rfl, v', q1, q2, q3⟩
  have Q1 : Hid _ := q1
  clear q1
  cases f
  · go_wp2
    go_ret
    exact ⟨rfl, v', Q1.out, q2, q3⟩
  · go_wp2
    go_ret
    exact ⟨rfl, v', Q1.out, q2, q3⟩

set_option maxRecDepth 100000 in
set_option maxHeartbeats 400000 in
/-- 'take' of a step that is no expectation, a message pending: it fails ahead of the step. -/
theorem tk_pending (F : Interp) (LG R SB X Y : Nat) (f : Bool) (old lb : ByteArray) (w : World) (hF : F.answers w.tape)
    (h8 : w.cell? ⟨R, 8, none⟩ = some (.string old)) (f8 : w.frozen? ⟨R, 8, none⟩ = false)
    (h9 : w.cell? ⟨R, 9, none⟩ = some (.slice (some ⟨X, 0, none⟩) 1 1)) (hX : w.cell? ⟨X, 0, none⟩ = some (.slice (some ⟨Y, 0, none⟩) 1 1)) (hY : w.cell? ⟨Y, 0, none⟩ = some (.int .u8 1)) :
    Calls Ybaf.prog 21 #[.pointer (some ⟨R, 0, none⟩), .string lb, .iface 63 (.agg #[.pointer (some ⟨LG, 0, none⟩), .bool f, .iface 106 (.pointer (some ⟨SB, 0, none⟩))])] w fun e w' =>
      e = .returned (.iface 106 (.pointer (some ⟨w.heap.size + 1, 0, none⟩))) ∧ ∃ O t, w' = (((w.setCell ⟨R, 8, none⟩ (.string lb)).alloc O).alloc (.cells #[.string t] 108)).drew := by
  have ha := as63
  go_enter Ybaf.func21, Ybaf.ntmps21
  go_wp2_with (go_at_call 29; fail)
  refine (unchecked_err F R X Y _ (by exact hF) ?_ ?_ ?_).mono ?_
  · rw [World.cell?_setCell_other _ _ _ _ (by simp)]; exact h9
  · rw [World.cell?_setCell_other _ _ _ _ (by simp)]; exact hX
  · rw [World.cell?_setCell_other _ _ _ _ (by simp)]; exact hY
  rintro e w' ⟨rfl, O, t, rfl⟩
  go_wp2
  go_ret
  exact ⟨by simp, O, t, rfl⟩
end Go.Proofs.YbulkdwjcFmt
