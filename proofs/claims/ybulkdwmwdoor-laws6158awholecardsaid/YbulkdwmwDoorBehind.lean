import Derived.Test.YbulkdwmwDoorRows
import Derived.WalkKit
import Derived.WalkSpells
import Derived.WalkLawsBesides
import Derived.Deep.QuietTactic
import Derived.BigQuiet
namespace Go.Proofs.YbulkdwmwDoor
open Go.RowKit
set_option linter.unusedVariables false

/-- 'behind' where the window is cut ahead of the held bytes' end. -/
theorem behind_in (lb g i j n : Nat) (ls s e : Int) (w : World) (hij : i ≤ j) (hjn : j ≤ n) (hn : n ≤ 1048576) (hin : i < n)
    (hs : wrap64 (s - ls) = (i : Int)) (he : wrap64 (e - ls) = (j : Int))
    (c1 : w.cell? ⟨lb, 1, none⟩ = some (.slice (some ⟨g, 0, none⟩) n n)) (c2 : w.cell? ⟨lb, 2, none⟩ = some (.int .i64 ls)) :
    Calls Ybad.prog 4 #[.pointer (some ⟨lb, 0, none⟩), .int .i64 s, .int .i64 e] w fun e w' => e = .returned (.slice (some ⟨g, i, none⟩) (j - i) (n - i)) ∧ ∃ nq, w' = w.drewN nq := by
  have hd : ¬ n = i := by omega
  go_enter Ybad.func4, Ybad.ntmps4
  go_wp2
  go_quiet (fail)
  go_wp2
  go_ret
  exact ⟨rfl, _, rfl⟩

/-- 'behind' at the held bytes' very end: nothing is left; the address stays at the row's head. -/
theorem behind_end (lb g n : Nat) (ls s e : Int) (w : World) (hn : n ≤ 1048576)
    (hs : wrap64 (s - ls) = (n : Int)) (he : wrap64 (e - ls) = (n : Int))
    (c1 : w.cell? ⟨lb, 1, none⟩ = some (.slice (some ⟨g, 0, none⟩) n n)) (c2 : w.cell? ⟨lb, 2, none⟩ = some (.int .i64 ls)) :
    Calls Ybad.prog 4 #[.pointer (some ⟨lb, 0, none⟩), .int .i64 s, .int .i64 e] w fun e w' => e = .returned (.slice (some ⟨g, 0, none⟩) 0 0) ∧ ∃ nq, w' = w.drewN nq := by
  go_enter Ybad.func4, Ybad.ntmps4
  go_wp2
  go_quiet (fail)
  go_wp2
  go_ret
  exact ⟨rfl, _, rfl⟩

theorem behind_any (lb g i j n : Nat) (ls s e : Int) (w : World) (hij : i ≤ j) (hjn : j ≤ n) (hn : n ≤ 1048576)
    (hs : wrap64 (s - ls) = (i : Int)) (he : wrap64 (e - ls) = (j : Int))
    (c1 : w.cell? ⟨lb, 1, none⟩ = some (.slice (some ⟨g, 0, none⟩) n n)) (c2 : w.cell? ⟨lb, 2, none⟩ = some (.int .i64 ls)) :
    Calls Ybad.prog 4 #[.pointer (some ⟨lb, 0, none⟩), .int .i64 s, .int .i64 e] w fun e w' => (∃ o, (i < n → o = i) ∧ e = .returned (.slice (some ⟨g, o, none⟩) (j - i) (n - i))) ∧ ∃ nq, w' = w.drewN nq := by
  by_cases hin : i < n
  · exact (behind_in lb g i j n ls s e w hij hjn hn hin hs he c1 c2).mono fun e w' ⟨h1, h2⟩ => ⟨⟨i, fun _ => rfl, h1⟩, h2⟩
  · obtain rfl : i = n := by omega
    obtain rfl : j = i := by omega
    exact (behind_end lb g j ls s e w hn hs he c1 c2).mono fun e w' ⟨h1, h2⟩ => ⟨⟨0, fun h => by omega, by simpa using h1⟩, h2⟩
end Go.Proofs.YbulkdwmwDoor
