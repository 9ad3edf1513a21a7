import Derived.Test.YbulkdwjcFmtRows
import Derived.WalkKit
import Derived.WalkSpells
import Derived.WalkLawsBesides
import Derived.Stop.CallBack
import Derived.Stop.IfaceNil
import Derived.Laws.Cells
import Derived.Stop.FmtTextSlices
namespace Go.Proofs.YbulkdwjcFmt
open Go.RowKit Go.Extern.Stop Go.Stop Go.Extern
set_option linter.unusedVariables false

/-- With nothing sent and nothing indicated: nil. -/
theorem unchecked_nil (R : Nat) (w : World) (c9 : w.cell? ⟨R, 9, none⟩ = some (.slice none 0 0)) (c10 : w.cell? ⟨R, 10, none⟩ = some (.slice none 0 0)) :
    Calls Ybaf.prog 29 #[.pointer (some ⟨R, 0, none⟩)] w fun e w' => e = .returned .nilIface ∧ w' = w := by
  go_enter Ybaf.func29, Ybaf.ntmps29
  go_wp2
  go_ret
  exact ⟨rfl, rfl⟩

theorem call45 (args : Array Value) (w : World) : (callFunc 45 args).run Ybaf.prog w = (FmtCalls.errorf #[9, 154] #[29] args).run Ybaf.prog w :=
  run_callFunc_next Ybaf.func45 (by kernel_rfl) (by kernel_rfl) (by kernel_rfl) args w
theorem guardOk (name : String) (w : World) : (FmtStop.guard name).run Ybaf.prog w = .ok () w := by kernel_rfl
theorem nextTurns : Extern.next FmtCalls.turnsRow = some (FmtCalls.begun #[] #[]) := by kernel_rfl
theorem nextReturned : Extern.next FmtCalls.returnedRow = some (FmtCalls.returned #[] #[]) := by kernel_rfl
theorem fmt0 : FmtStop.printed? ⟨#[101, 120, 112, 101, 99, 116, 101, 100, 32, 110, 111, 32, 109, 101, 115, 115, 97, 103, 101, 32, 102, 114, 111, 109, 32, 116, 104, 101, 32, 104, 97, 110, 100, 115, 101, 116, 44, 32, 99, 97, 109, 101, 32, 37, 120]⟩ 1 = some [(0, 120, false)] := by kernel_rfl
theorem fmt0r (w : World) : (FmtDoors.printed ⟨#[101, 120, 112, 101, 99, 116, 101, 100, 32, 110, 111, 32, 109, 101, 115, 115, 97, 103, 101, 32, 102, 114, 111, 109, 32, 116, 104, 101, 32, 104, 97, 110, 100, 115, 101, 116, 44, 32, 99, 97, 109, 101, 32, 37, 120]⟩ 1).run Ybaf.prog w = .ok [(0, 120, false)] w := by kernel_rfl
theorem act22 (name : String) (x : Value) (w : World) : (FmtCalls.act name true 120 false (.iface 22 x)).run Ybaf.prog w = .ok (.closed true) w := by kernel_rfl
theorem ptr106 (w : World) : (FmtStop.ptrTo "errors.errorString").run Ybaf.prog w = .ok 106 w := by kernel_rfl
theorem elem106 (w : World) : (elemOf 106).run Ybaf.prog w = .ok 108 w := by kernel_rfl
theorem isError106 (w : World) : (FmtDoors.textMethod 106 "Error").run Ybaf.prog w = .ok true w := by kernel_rfl
theorem str22 (w : World) : (typeStr 22).run Ybaf.prog w = .ok Ybaf.t22.str w := by kernel_rfl

def shape22 : List UInt8 := 13 :: (FmtStop.pack [91, 93, 117, 105, 110, 116, 56] ++ 6 :: FmtStop.pack "uint8".toUTF8.data.toList)
theorem str22b : Ybaf.t22.str.toUTF8.data.toList = [91, 93, 117, 105, 110, 116, 56] := by kernel_rfl
theorem value5 (name : String) (x : Int) (w : World) : (FmtStop.value name FmtStop.depth 5 [.int .u8 x]).run Ybaf.prog w = .ok (digits 8 (x % 2 ^ 64).toNat) w := by kernel_rfl
theorem values5 (name : String) (w : World) : ∀ xs : List Int, (List.mapM ((fun c => FmtStop.value name FmtStop.depth 5 [c]) ∘ Value.int IntKind.u8) xs).run Ybaf.prog w = .ok (xs.map fun x => digits 8 (x % 18446744073709551616).toNat) w
  | [] => by simp [List.mapM_nil]
  | x :: xs => by
    have ih := values5 name w xs
    have h := value5 name x w
    simp [List.mapM_cons, h, ih, Result.andThen]

theorem opBytes (name : String) (a : Addr) (cap : Nat) (xs : List Int) (w : World) (hc : ∀ j v, (xs.map (Value.int .u8))[j]? = some v → w.cell? (a.add j) = some v) :
    (FmtStop.operand name true 120 false (.iface 22 (.slice (some a) xs.length cap))).run Ybaf.prog w = .ok (shape22, 1 :: (digits 8 xs.length ++ FmtText.intValues xs)) w := by
  have h1 : (typeStr 22).run Ybaf.prog w = .ok Ybaf.t22.str w := by kernel_rfl
  have d2 : Ybaf.t22.desc = .slice 5 := rfl
  have hb : (FmtStop.bare (FmtStop.asked true 120 false) 22).run Ybaf.prog w = .ok true w := by kernel_rfl
  have hs : (FmtStop.scalar 5).run Ybaf.prog w = .ok true w := by kernel_rfl
  have hy : (Extern.Stop.isByte 5).run Ybaf.prog w = .ok true w := by kernel_rfl
  have hw : Ybaf.prog.funcs.any (·.name == FmtStop.writeWord) = true := by kernel_rfl
  have hsh : (FmtStop.shape name (FmtStop.asked true 120 false) FmtStop.depth 5).run Ybaf.prog w = .ok (6 :: FmtStop.pack "uint8".toUTF8.data.toList) w := by kernel_rfl
  have hl := run_loadCells_list (P := Ybaf.prog) w a (xs.map (Value.int .u8)) hc
  rw [List.length_map] at hl
  have hno : ¬ ∀ (i : Nat) (x : i < Ybaf.prog.funcs.size), ¬ Ybaf.prog.funcs[i].name = FmtStop.writeWord := by
    intro h
    obtain ⟨i, hi, _, _, he⟩ := Array.any_iff_exists.1 hw
    exact absurd (by simpa using he) (h i hi)
  simp [FmtStop.operand, h1, hb, hs, hy]
  rw [if_neg hno]
  simp [hsh, hl, values5, shape22, FmtText.intValues]
  exact congrArg FmtStop.pack str22b

theorem opOne (Y : Nat) (w : World) (cY : w.cell? ⟨Y, 0, none⟩ = some (.int .u8 1)) :
    (FmtStop.operand "fmt.errorf" true 120 false (.iface 22 (.slice (some ⟨Y, 0, none⟩) 1 1))).run Ybaf.prog w = .ok (shape22, 1 :: (digits 8 1 ++ FmtText.intValues [1])) w :=
  opBytes "fmt.errorf" ⟨Y, 0, none⟩ 1 [1] w (fun j v hj => by
    match j, hj with
    | 0, hj => simp at hj; subst hj; simpa [Addr.add] using cY)

attribute [local go_sem] call45 guardOk fmt0 fmt0r act22 ptr106 elem106 isError106 str22

set_option maxHeartbeats 400000 in
/-- With a message pending: a new error of errors.New's make, in new memory. -/
theorem unchecked_err (F : Interp) (R X Y : Nat) (w : World) (hF : F.answers w.tape) (c9 : w.cell? ⟨R, 9, none⟩ = some (.slice (some ⟨X, 0, none⟩) 1 1)) (cX : w.cell? ⟨X, 0, none⟩ = some (.slice (some ⟨Y, 0, none⟩) 1 1)) (cY : w.cell? ⟨Y, 0, none⟩ = some (.int .u8 1)) :
    Calls Ybaf.prog 29 #[.pointer (some ⟨R, 0, none⟩)] w fun e w' => e = .returned (.iface 106 (.pointer (some ⟨w.heap.size + 1, 0, none⟩))) ∧ ∃ O t, w' = ((w.alloc O).alloc (.cells #[.string t] 108)).drew := by
  have hF' := answers_open hF
  have hop := fun (o : Obj) => opOne Y (w.alloc o) (cell_later ((Below.refl _ w).alloc (Nat.le_refl _) o) cY)
  go_enter Ybaf.func29, Ybaf.ntmps29
  go_wp2
  apply rows_value nextTurns
  case hr =>
    go_simp
    exact ⟨rfl, rfl⟩
  case h =>
    go_wp2
    go_ret
    exact ⟨rfl, _, _, rfl⟩
end Go.Proofs.YbulkdwjcFmt
