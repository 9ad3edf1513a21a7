import Derived.Test.YbulkdwomRows
import Derived.Test.YbulkdwomLaw
import Derived.ProofKit
import Derived.OpenShut
import Derived.Deep.Slices
import Derived.Deep.Strs
namespace Go.Proofs.Ybulkdwom
open Go Go.ChangeShapes Go.WideShapes Go.ChangeAt Go.RowKit
set_option linter.unusedVariables false

theorem own : ownKnob Yba.prog.godebug = none := by kernel_rfl
theorem laidOut : laidOutB Yba.prog = true := by kernel_rfl
theorem cells28 : Yba.prog.cellsOf 28 = 3 := by kernel_rfl
theorem cells2 : Yba.prog.cellsOf 2 = 1 := by kernel_rfl
theorem cells3 : Yba.prog.cellsOf 3 = 1 := by kernel_rfl
theorem cells4 : Yba.prog.cellsOf 4 = 1 := by kernel_rfl

theorem list3 {α : Type} {l : List α} (h : l.length = 3) : ∃ a b c, l = [a, b, c] := by
  match l, h with
  | [a, b, c], _ => exact ⟨a, b, c, rfl⟩

set_option maxRecDepth 100000 in
/-- More slots than the law looks at. -/
theorem law_long (a0 : Option Addr) (n cap : Nat) (w : World) (hn : 1048576 < n) (hm : n ≤ 9223372036854775807) :
    Calls Yba.prog 3 #[.slice a0 n cap] w fun e w' => e = .returned (.bool true) ∧ Below w.heap.size w w' := by
  go_enter Yba.func3, Yba.ntmps3
  go_wp2
  go_ret
  exact ⟨rfl, Below.refl _ _⟩

set_option maxRecDepth 100000 in
/-- No slot. -/
theorem law_none (a0 : Option Addr) (cap : Nat) (w : World) :
    Calls Yba.prog 3 #[.slice a0 0 cap] w fun e w' => e = .returned (.bool true) ∧ Below w.heap.size w w' := by
  go_enter Yba.func3, Yba.ntmps3
  go_wp2
  go_ret
  exact ⟨rfl, Below.refl _ _⟩

/-- The drawn slots, opened. -/
theorem slots_open {H : Type} {enc : TypeId × Value → H} {W : World} {a0 : Option Addr} {len cap fuel : Nat} {x : DataW H × List MemPlace}
    (h : DataW.trod enc Yba.prog W 0 (fun _ => true) true fuel 22 [.slice a0 len cap] = some x) : len ≤ 9223372036854775807 ∧ (0 < len → ∃ db off A Hs Nx, a0 = some ⟨db, off, none⟩ ∧ InAt W db off len A Hs Nx) := by
  rcases Deep.open_slice Yba.underlying22 h with ⟨hcs, _⟩ | ⟨a, l, c, m, n, D, Pl, hcs, _, hl, hm, hmm, _, hel⟩
  · simp at hcs
    obtain ⟨rfl, rfl, rfl⟩ := hcs
    exact ⟨by omega, fun k => by omega⟩
  · simp at hcs
    obtain ⟨rfl, rfl, rfl⟩ := hcs
    unfold maxLen at hm
    simp at hmm
    subst hmm
    have each : ∀ i, ∃ d : Int × Bool × Int, i < len → W.cell? (a.add (i * 3)) = some (.int .i64 d.1) ∧ W.cell? ((a.add (i * 3)).add 1) = some (.bool d.2.1) ∧ W.cell? ((a.add (i * 3)).add 2) = some (.int .i64 d.2.2) := by
      intro i
      by_cases hi : i < len
      · obtain ⟨cs', hc, ht⟩ := hel i (by omega)
        rw [cells28] at hc
        obtain ⟨y0, y1, y2, n', _, hlen, t0, t1, t2⟩ := Deep.trod_struct3 Yba.underlying28 ht
        rw [cells28] at hlen
        obtain ⟨_, hlc, hcell⟩ := World.cells?_some hc
        obtain ⟨c0, c1, c2, rfl⟩ := list3 hlen
        obtain ⟨b0, e0, _⟩ := DataW.trod_int Yba.underlying2 t0
        obtain ⟨b1, e1, _⟩ := DataW.trod_bool Yba.underlying4 t1
        obtain ⟨b2, e2, _⟩ := DataW.trod_int Yba.underlying3 t2
        simp only [cells2, cells3, cells4] at e0 e1 e2
        obtain rfl : c0 = .int .i64 b0 := (List.cons.inj e0).1
        obtain rfl : c1 = .bool b1 := (List.cons.inj e1).1
        obtain rfl : c2 = .int .i64 b2 := (List.cons.inj e2).1
        refine ⟨(b0, b1, b2), fun _ => ⟨?_, ?_, ?_⟩⟩
        · exact hcell 0 (by omega)
        · exact hcell 1 (by omega)
        · exact hcell 2 (by omega)
      · exact ⟨default, fun h => absurd h hi⟩
    refine ⟨by omega, fun hpos => ?_⟩
    have hsp : a.spot = none := by
      obtain ⟨r0, _, _⟩ := Classical.choose_spec (each 0) (by omega)
      exact World.cell?_spot (a := a) r0
    obtain ⟨db, off, spot⟩ := a
    cases hsp
    refine ⟨db, off, fun i => (Classical.choose (each i)).1, fun i => (Classical.choose (each i)).2.1, fun i => (Classical.choose (each i)).2.2, rfl, fun k hk => ?_⟩
    obtain ⟨q0, q1, q2⟩ := Classical.choose_spec (each k) hk
    refine ⟨?_, ?_, ?_⟩
    · rw [← add_plain]; exact q0
    · rw [← add_plain, ← add_plain]; exact q1
    · rw [← add_plain, ← add_plain]; exact q2

set_option maxRecDepth 100000 in
theorem lifted (os : Os) (started : os.Started) (H : Type) (enc : TypeId × Value → H) :
    ReturnsInHanded {} Yba.checked os 3 .any (Rows.lawS6161BWholeSpec.pre6 enc Yba.prog Yba.f3 Rows.lawS6161BWholeRow.domain false) (Rows.lawS6161BWholeSpec.post enc Yba.prog Yba.f3 false true false false) := by
  refine returnsInHanded_of_change (C := Yba.checked) own started (by kernel_rfl) Yba.func3
    (ChangeSpec.witness6 (enc := enc) (C := Yba.checked) false ⟨#[], #[.slice none 0 0], []⟩ 8 (by kernel_rfl) (by kernel_rfl) (by kernel_rfl) (by kernel_rfl)) ?_
  intro W base args ds gs before hval0 hW hcnd _
  have hval : ∀ (j : Nat) t v, Yba.f3.params[j]? = some t → args[j]? = some v → Value.okWide Yba.prog W .any base t v := hval0
  have hW' := hW
  obtain ⟨p, q, hA0, hV, rfl, hfz, hnd⟩ := hW
  have hA : DataW.TrodAll enc Yba.prog W 0 (fun _ => true) true Yba.f3.params.toList args.toList ds p := hA0
  rw [Yba.params3] at hA hval
  obtain ⟨v0, vs0, d0, ds0, p0, q0, hargs, rfl, rfl, h0, r0⟩ := trodAll_cons hA
  obtain ⟨rfl, rfl, rfl⟩ := trodAll_nil r0
  obtain rfl : args = #[v0] := by cases args; simp_all
  obtain ⟨rfl, rfl⟩ := trodVars_none hV
  obtain ⟨a0, len0, cap0, rfl⟩ := okWide_slice Yba.underlying22 (hval 0 22 v0 rfl rfl)
  have k0 := h0
  have lt0 : ∀ x ∈ p0, x.block < W.heap.size := by obtain ⟨m, hm⟩ := k0; exact DataW.trod_lt m _ _ _ hm
  obtain ⟨hmx, hop⟩ : len0 ≤ 9223372036854775807 ∧ (0 < len0 → ∃ db off A Hs Nx, a0 = some ⟨db, off, none⟩ ∧ InAt W db off len0 A Hs Nx) := by
    obtain ⟨fuel, hf⟩ := h0
    exact slots_open hf
  clear hA0 hval0
  have walk : Calls Yba.prog 3 #[.slice a0 len0 cap0] W fun e w' => e = .returned (.bool true) ∧ Below W.heap.size W w' := by
    by_cases hn : len0 ≤ 1048576
    · rcases Nat.eq_zero_or_pos len0 with rfl | hpos
      · exact law_none a0 cap0 W
      · obtain ⟨db, off, A, Hs, Nx, rfl, hin⟩ := hop hpos
        exact law_walk db off len0 cap0 A Hs Nx W hn hpos hin
    · exact law_long a0 len0 cap0 W (by omega) hmx
  refine walk.mono fun e W' ⟨he, bel⟩ => ?_
  subst he
  exact ⟨_, rfl, _, _, _, [], _, [], hW', trodAll_mk1 (shut_bool Yba.underlying4 _), (trodAll_cons_mk (Below.trod laidOut (by kernel_rfl) (of_decide_eq_true (by kernel_rfl)) k0 bel lt0) trodAll_mk0), rfl, bel.frame _, fun h => by cases h⟩

theorem law_holds : Rows.LawS6161BWholeSaid :=
  OpenClaim.holds_of_wide 3 Yba.f3 rfl rfl rfl rfl rfl rfl rfl ⟨rfl, rfl, rfl, rfl, rfl⟩ rfl rfl rfl rfl rfl (by kernel_rfl) Yba.func3 (by kernel_rfl)
    (of_decide_eq_true (by kernel_rfl)) (by unfold Func.isWrapper; rw [if_neg (of_decide_eq_false (by kernel_rfl))]; exact ⟨rfl, rfl⟩)
    (fun os started H enc _ => lifted os started H enc)
end Go.Proofs.Ybulkdwom
