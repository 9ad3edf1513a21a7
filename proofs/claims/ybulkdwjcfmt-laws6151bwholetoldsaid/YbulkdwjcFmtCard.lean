import Derived.Test.YbulkdwjcFmtRows
import Derived.Test.YbulkdwjcFmtTie
import Derived.Test.YbulkdwjcFmtCards
import Derived.Test.YbulkdwjcFmtLaw
import Derived.ProofKit
import Derived.LaidMore
import Derived.OpenShut
import Derived.Deep.Slices
import Derived.Deep.Strs
import Derived.Stop.Joined
import Derived.Stop.JoinedTold
import Derived.Stop.LaidErr
import Derived.Deep.DeepWitnessRef
import Derived.Lib.LaidTab
import Derived.SizedLaws
import Derived.ShutString
import Derived.ChangeOld
import Derived.SevenTiedAt
namespace Go.Proofs.YbulkdwjcFmt
open Go Go.ChangeShapes Go.WideShapes Go.ChangeAt Go.RowKit Go.Extern.Stop Go.Stop Go.Extern
open Go.ChangeMaps (open_string shut_string)
set_option linter.unusedVariables false

theorem own : ownKnob Ybaf.prog.godebug = none := by kernel_rfl
theorem laidOut : laidOutB Ybaf.pinned.checked.prog = true := by kernel_rfl
theorem laidOut' : laidOutB Ybaf.prog = true := by kernel_rfl
theorem stopKnobs : Ybaf.pinned.checked.prog.stopKnobs = [] := by kernel_rfl
theorem quiet (os : Os) : Stop.quiet Ybaf.pinned.checked.prog os := by
  intro k hk
  rw [stopKnobs] at hk
  cases hk
theorem cells60 : Ybaf.prog.cellsOf 60 = 3 := by kernel_rfl
theorem cells4 : Ybaf.prog.cellsOf 4 = 1 := by kernel_rfl
theorem gType : (Ybaf.prog.globals[6]?).map (·.type) = some 165 := by kernel_rfl

theorem list3 {α : Type} {l : List α} (h : l.length = 3) : ∃ a b c, l = [a, b, c] := by
  match l, h with
  | [a, b, c], _ => exact ⟨a, b, c, rfl⟩
set_option maxRecDepth 100000 in
/-- More steps than the law looks at. -/
theorem law_long (pre : ByteArray) (first : Int) (a0 : Option Addr) (n cap : Nat) (pend : Bool) (w : World) (hn : 4096 < n) (hm : n ≤ 9223372036854775807) :
    Calls Ybaf.prog 4 #[.string pre, .int .i64 first, .slice a0 n cap, .bool pend] w fun e w' => e = .returned (.bool true) ∧ Below w.heap.size w w' := by
  go_enter Ybaf.func4, Ybaf.ntmps4
  go_wp2
  go_ret
  exact ⟨rfl, Below.refl _ _⟩

theorem door_met (os : Os) (args : Array Value) : laidMetH Ybaf.prog Rows.lawS6151BWholeRow.laid ((World.doorLaid Ybaf.prog 400 os).forCall (fun _ _ => 0) ⟨#[], args, []⟩).memory :=
  laidMetH_of_parts3 (fuel := 8) (laidMet_of_run' 8 (by kernel_rfl) (by kernel_rfl)) (by kernel_rfl) (by kernel_rfl)

theorem pow_of_laid {W : World} (h : laidMetH Ybaf.prog Rows.lawS6151BWholeRow.laid W) : Pow10 W := by
  rw [MakeChecks.laidMetH_plain _ _ _ (by kernel_rfl)] at h
  have h2 : laidMet Ybaf.prog [(Rows.lawS6151BWholeRow.named.headD "", Lib.tabData .u64 Lib.pow10Tab)] W := laidMet.tail (laidMet.tail h)
  exact Lib.tabIs_of_head gPow gType Ybaf.underlying165 Ybaf.underlying149 (by kernel_rfl) (by kernel_rfl) h2

theorem six_lt {W : World} (h : Pow10 W) : 6 < W.heap.size := by
  unfold Pow10 Lib.TabIs at h
  simp only [World.var?, gPow] at h
  rcases Nat.lt_or_ge 6 W.heap.size with h' | h'
  · exact h'
  · have e : W.heap[6]? = none := Array.getElem?_eq_none h'
    have h2 : (match W.heap[6]? with | some (Obj.cells cs _ _) => some cs | _ => none) = some (Lib.pow10Tab.map fun z => Value.int .u64 z).toArray := h
    rw [e] at h2
    cases h2

/-- The drawn steps, opened. -/
theorem steps_open {H : Type} {enc : TypeId × Value → H} {W : World} {a0 : Option Addr} {len cap fuel : Nat} {x : DataW H × List MemPlace}
    (h : DataW.trod enc Ybaf.prog W 0 (fun _ => true) true fuel 55 [.slice a0 len cap] = some x) : len ≤ 9223372036854775807 ∧ ∃ st, StepsAt W a0 len st := by
  rcases Deep.open_slice Ybaf.underlying55 h with ⟨hcs, _⟩ | ⟨a, l, c, m, n, D, Pl, hcs, _, hl, hm, hmm, _, hel⟩
  · simp at hcs
    obtain ⟨rfl, rfl, rfl⟩ := hcs
    exact ⟨by omega, [], fun k hk => by omega⟩
  · simp at hcs
    obtain ⟨rfl, rfl, rfl⟩ := hcs
    unfold maxLen at hm
    simp at hmm
    subst hmm
    have each : ∀ i, ∃ d : Bool × Bool × Bool, i < len → W.cell? (a.add (i * 3)) = some (.bool d.1) ∧ W.cell? ((a.add (i * 3)).add 1) = some (.bool d.2.1) ∧ W.cell? ((a.add (i * 3)).add 2) = some (.bool d.2.2) := by
      intro i
      by_cases hi : i < len
      · obtain ⟨cs', hc, ht⟩ := hel i (by omega)
        rw [cells60] at hc
        obtain ⟨y0, y1, y2, n', _, hlen, t0, t1, t2⟩ := Deep.trod_struct3 Ybaf.underlying60 ht
        rw [cells60] at hlen
        obtain ⟨_, hlc, hcell⟩ := World.cells?_some hc
        obtain ⟨c0, c1, c2, rfl⟩ := list3 hlen
        obtain ⟨b0, e0, _⟩ := DataW.trod_bool Ybaf.underlying4 t0
        obtain ⟨b1, e1, _⟩ := DataW.trod_bool Ybaf.underlying4 t1
        obtain ⟨b2, e2, _⟩ := DataW.trod_bool Ybaf.underlying4 t2
        rw [cells4] at e0 e1 e2
        obtain rfl : c0 = .bool b0 := (List.cons.inj e0).1
        obtain rfl : c1 = .bool b1 := (List.cons.inj e1).1
        obtain rfl : c2 = .bool b2 := (List.cons.inj e2).1
        refine ⟨(b0, b1, b2), fun _ => ⟨?_, ?_, ?_⟩⟩
        · exact hcell 0 (by omega)
        · exact hcell 1 (by omega)
        · exact hcell 2 (by omega)
      · exact ⟨default, fun h => absurd h hi⟩
    refine ⟨by omega, (List.range len).map fun i => Classical.choose (each i), fun k hk => ?_⟩
    obtain ⟨q0, q1, q2⟩ := Classical.choose_spec (each k) hk
    have hsp : a.spot = none := by
      obtain ⟨r0, _, _⟩ := Classical.choose_spec (each 0) (by omega)
      exact World.cell?_spot (a := a) r0
    obtain ⟨db, off, spot⟩ := a
    cases hsp
    have hg : ((List.range len).map fun i => Classical.choose (each i)).getD k default = Classical.choose (each k) := by
      simp [List.getD, List.getElem?_range hk]
    refine ⟨db, off, rfl, ?_, ?_, ?_⟩
    · rw [hg, ← add_plain]; exact q0
    · rw [hg, ← add_plain, ← add_plain]; exact q1
    · rw [hg, ← add_plain, ← add_plain]; exact q2

set_option maxRecDepth 100000 in
theorem lifted (os : Os) (started : os.Started) (H : Type) (enc : TypeId × Value → H) :
    ReturnsInTold none {} Ybaf.checked os 4 .any Input.okWide ((OpenSpec.ofChange Rows.lawS6151BWholeSpec).preRow enc Ybaf.prog Ybaf.f4 [] false Rows.lawS6151BWholeRow.laid) (fun F => ((OpenSpec.ofChange Rows.lawS6151BWholeSpec).at F).post enc Ybaf.prog Ybaf.f4 false true false false) (aloneAtReturn Ybaf.prog) nothingAlways := by
  refine returnsInTold_of_row (C := Ybaf.checked) (s := OpenSpec.ofChange Rows.lawS6151BWholeSpec) (by kernel_rfl) own started (by kernel_rfl) Ybaf.func4
    (OpenSpec.witness_stopped_atRef (enc := enc) (C := Ybaf.checked) false (World.doorLaid Ybaf.prog 400 os) #[.string ⟨#[]⟩, .int .i64 0, .slice none 0 0, .bool false] rfl (by kernel_rfl) (by kernel_rfl) (by kernel_rfl) (OpenSpec.preRow_of_B rfl 8 (by kernel_rfl) (by kernel_rfl) (door_met os _))) ?_
  intro F W base args ds gs before _ hF hval0 hW _ _ hsz0 hL _
  have hval : ∀ (j : Nat) t v, Ybaf.f4.params[j]? = some t → args[j]? = some v → Value.okWide Ybaf.prog W .any base t v := hval0
  have hsz : (DataW.weightsEach Ybaf.prog (Ybaf.f4.params.toList ++ (OpenSpec.ofChange Rows.lawS6151BWholeSpec).bare.plain.varTypes Ybaf.prog) (ds ++ gs)).all (· ≤ reachBytes) = true := hsz0
  have hW' := hW
  obtain ⟨p, q, hA0, hV, rfl, hfz, hnd⟩ := hW
  have hA : DataW.TrodAll enc Ybaf.prog W 0 (fun _ => true) true Ybaf.f4.params.toList args.toList ds p := hA0
  rw [Ybaf.params4] at hA hval hsz
  obtain ⟨v0, vs0, d0, ds0, p0, q0, hargs, rfl, rfl, h0, r0⟩ := trodAll_cons hA
  obtain ⟨v1, vs1, d1, ds1, p1, q1, rfl, rfl, rfl, h1, r1⟩ := trodAll_cons r0
  obtain ⟨v2, vs2, d2, ds2, p2, q2, rfl, rfl, rfl, h2, r2⟩ := trodAll_cons r1
  obtain ⟨v3, vs3, d3, ds3, p3, q3, rfl, rfl, rfl, h3, r3⟩ := trodAll_cons r2
  obtain ⟨rfl, rfl, rfl⟩ := trodAll_nil r3
  obtain rfl : args = #[v0, v1, v2, v3] := by cases args; simp_all
  obtain ⟨rfl, rfl⟩ := trodVars_none hV
  obtain ⟨pre, rfl, rfl, rfl, w0⟩ := open_string Ybaf.underlying9 (hval 0 9 v0 rfl rfl) h0
  obtain ⟨first, rfl, rfl, rfl, w1⟩ := open_int Ybaf.underlying3 (hval 1 3 v1 rfl rfl) h1
  obtain ⟨a0, len0, cap0, rfl⟩ := okWide_slice Ybaf.underlying55 (hval 2 55 v2 rfl rfl)
  have k2 := h2
  have lt2 : ∀ x ∈ p2, x.block < W.heap.size := by obtain ⟨m, hm⟩ := k2; exact DataW.trod_lt m _ _ _ hm
  obtain ⟨hmx, st, hst⟩ : len0 ≤ 9223372036854775807 ∧ ∃ st, StepsAt W a0 len0 st := by
    obtain ⟨fuel, hf⟩ := h2
    exact steps_open hf
  obtain ⟨pend, rfl, rfl, rfl⟩ := open_bool Ybaf.underlying4 (hval 3 4 v3 rfl rfl) h3
  have hlen : pre.data.toList.length ≤ reachBytes := sized_string hsz (j := 0) (t := 9) rfl rfl
  have hpre : pre.size ≤ 140737488351232 := by
    rw [Lib.size_eq]; simpa [reachBytes] using hlen
  clear hA0 hval0 hsz0
  have hp := pow_of_laid hL
  have walk : Calls Ybaf.prog 4 #[.string pre, .int .i64 first, .slice a0 len0 cap0, .bool pend] W fun e w' => e = .returned (.bool true) ∧ Below W.heap.size W w' := by
    by_cases hn : len0 ≤ 4096
    · exact law_walk F.told pre first a0 len0 cap0 pend st W hF hn hpre (six_lt hp) hp hst
    · exact law_long pre first a0 len0 cap0 pend W (by omega) hmx
  refine walk.mono fun e W' ⟨he, bel⟩ => ?_
  subst he
  exact ⟨_, rfl, _, _, _, [], _, [], hW', trodAll_mk1 (shut_bool Ybaf.underlying4 _), (trodAll_cons_mk (shut_string Ybaf.underlying9 w0) (trodAll_cons_mk (shut_int Ybaf.underlying3 w1) (trodAll_cons_mk (Below.trod laidOut' (by kernel_rfl) (of_decide_eq_true (by kernel_rfl)) k2 bel lt2) (trodAll_cons_mk (shut_bool Ybaf.underlying4 _) trodAll_mk0)))), rfl, bel.frame _, fun h => by cases h⟩

/-- THE CARD. -/
theorem card_holds : Rows.LawS6151BWholeToldSaid :=
  Claim7.holds_of_told_tied_any_at .later 4 Ybaf.f4 _ _ [] _ _ _ _ _ (by kernel_rfl) rfl rfl rfl laidOut (by kernel_rfl) rfl ⟨rfl, rfl, rfl, rfl, rfl, rfl, rfl⟩ rfl rfl (by kernel_rfl) (by kernel_rfl) Ybaf.func4 (by kernel_rfl)
    (of_decide_eq_true (by kernel_rfl)) (by unfold Func.isWrapper; rw [if_neg (of_decide_eq_false (by kernel_rfl))]; exact ⟨rfl, rfl⟩) (by kernel_rfl) rfl stopKnobs.symm (by kernel_rfl)
    (by kernel_rfl) (by kernel_rfl) (by kernel_rfl) (by kernel_rfl) (by kernel_rfl) (by kernel_rfl) (by kernel_rfl) (by kernel_rfl) (by kernel_rfl) rfl (by kernel_rfl) rfl rfl
    rfl rfl
    rfl (by kernel_rfl) (by kernel_rfl) (by kernel_rfl) (by kernel_rfl) (by kernel_rfl) lawS6151BWhole_row_tie
    (OpenClaim.moreEntering_of (by kernel_rfl) (by kernel_rfl) (by kernel_rfl) (by kernel_rfl) (by kernel_rfl) (by kernel_rfl) (by kernel_rfl) (by kernel_rfl) (by kernel_rfl) (by kernel_rfl))
    ⟨_, WideRow.started_initial, quiet _⟩
    (fun os started _ H enc _ => lifted os started H enc)
end Go.Proofs.YbulkdwjcFmt
