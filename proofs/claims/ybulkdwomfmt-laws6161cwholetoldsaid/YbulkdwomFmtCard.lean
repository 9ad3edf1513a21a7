import Derived.Test.YbulkdwomFmtRows
import Derived.Test.YbulkdwomFmtCards
import Derived.Test.YbulkdwomFmtLaw
import Derived.ProofKit
import Derived.OpenShut
import Derived.Deep.Slices
import Derived.Deep.Strs
import Derived.Lib.SmallJoins
import Derived.Stop.Joined
import Derived.Stop.JoinedTold
import Derived.SizedLaws
import Derived.SevenToldRow
namespace Go.Proofs.YbulkdwomFmt
open Go Go.ChangeShapes Go.WideShapes Go.ChangeAt Go.RowKit Go.Extern.Stop Go.Stop Go.Extern
set_option linter.unusedVariables false

theorem own : ownKnob Ybaf.prog.godebug = none := by kernel_rfl
theorem laidOutP : laidOutB Ybaf.pinned.checked.prog = true := by kernel_rfl
theorem stopsE : Ybaf.pinned.checked.prog.stops = ["fmt.errorf"] := by kernel_rfl
theorem stopKnobs : Ybaf.pinned.checked.prog.stopKnobs = [] := by kernel_rfl
theorem quiet (os : Os) : Stop.quiet Ybaf.pinned.checked.prog os := by
  intro k hk
  rw [stopKnobs] at hk
  cases hk
theorem cells60 : Ybaf.prog.cellsOf 60 = 2 := by kernel_rfl
theorem cells63 : Ybaf.prog.cellsOf 63 = 4 := by kernel_rfl
theorem cells2 : Ybaf.prog.cellsOf 2 = 1 := by kernel_rfl
theorem cells3 : Ybaf.prog.cellsOf 3 = 1 := by kernel_rfl
theorem cells4 : Ybaf.prog.cellsOf 4 = 1 := by kernel_rfl
theorem bytes60 : Ybaf.prog.bytesOf 60 = 16 := by kernel_rfl
theorem bytes63 : Ybaf.prog.bytesOf 63 = 32 := by kernel_rfl
theorem bytes3 : Ybaf.prog.bytesOf 3 = 8 := by kernel_rfl

theorem list1 {α : Type} {l : List α} (h : l.length = 1) : ∃ a, l = [a] := by
  match l, h with
  | [a], _ => exact ⟨a, rfl⟩
theorem list2 {α : Type} {l : List α} (h : l.length = 2) : ∃ a b, l = [a, b] := by
  match l, h with
  | [a, b], _ => exact ⟨a, b, rfl⟩
theorem list4 {α : Type} {l : List α} (h : l.length = 4) : ∃ a b c d, l = [a, b, c, d] := by
  match l, h with
  | [a, b, c, d], _ => exact ⟨a, b, c, d, rfl⟩

set_option maxRecDepth 100000 in
/-- More than the law looks at. -/
theorem law_long (c0 l0 s0 : Option Addr) (nc nl ns cc cl cs : Nat) (fs node peer t : Int) (w : World) (hn : 1048576 < nc + nl + ns) (h0 : nc ≤ 140737488355328) (h1 : nl ≤ 140737488355328) (h2 : ns ≤ 140737488355328) :
    Calls Ybaf.prog 4 #[.slice c0 nc cc, .slice l0 nl cl, .slice s0 ns cs, .int .i64 fs, .int .i64 node, .int .i64 peer, .int .i64 t] w fun e w' => e = .returned (.bool true) ∧ Below w.heap.size w w' := by
  have hi : (1048576 : Int) < (nc : Int) + (nl : Int) + (ns : Int) := by omega
  go_enter Ybaf.func4, Ybaf.ntmps4
  go_wp2
  go_ret
  exact ⟨rfl, Below.refl _ _⟩

section
variable {H : Type} {enc : TypeId × Value → H} {W : World} {a0 : Option Addr} {len cap fuel : Nat} {x : DataW H × List MemPlace}

/-- How long a slice's datum is. -/
def SliceDatum (len : Nat) (d : DataW H) : Prop := len = 0 ∨ ∃ elems spare, d = .slice elems spare ∧ elems.length = len

theorem cr_open (h : DataW.trod enc Ybaf.prog W 0 (fun _ => true) true fuel 34 [.slice a0 len cap] = some x) : SliceDatum len x.1 ∧ ∃ Nd At, CrAt W a0 len Nd At := by
  rcases Deep.open_slice Ybaf.underlying34 h with ⟨hcs, _⟩ | ⟨a, l, c, m, n, D, Pl, hcs, _, hl, hm, hmm, hx, hel⟩
  · simp at hcs
    obtain ⟨rfl, rfl, rfl⟩ := hcs
    exact ⟨Or.inl rfl, fun _ => 0, fun _ => 0, fun k hk => by omega⟩
  · simp at hcs
    obtain ⟨rfl, rfl, rfl⟩ := hcs
    simp at hmm
    subst hmm
    refine ⟨Or.inr ⟨_, _, congrArg Prod.fst hx, by simp⟩, ?_⟩
    have each : ∀ i, ∃ d : Int × Int, i < len → W.cell? (a.add (i * 2)) = some (.int .i64 d.1) ∧ W.cell? ((a.add (i * 2)).add 1) = some (.int .i64 d.2) ∧ I64 d.1 ∧ I64 d.2 := by
      intro i
      by_cases hi : i < len
      · obtain ⟨cs', hc, ht⟩ := hel i (by omega)
        rw [cells60] at hc
        obtain ⟨y0, y1, n', _, hlen, t0, t1⟩ := trod_struct2 Ybaf.underlying60 ht
        rw [cells60] at hlen
        obtain ⟨_, hlc, hcell⟩ := World.cells?_some hc
        obtain ⟨c0, c1, rfl⟩ := list2 hlen
        obtain ⟨b0, e0, _, w0⟩ := DataW.trod_int Ybaf.underlying3 t0
        obtain ⟨b1, e1, _, w1⟩ := DataW.trod_int Ybaf.underlying2 t1
        simp only [cells2, cells3] at e0 e1
        obtain rfl : c0 = .int .i64 b0 := (List.cons.inj e0).1
        obtain rfl : c1 = .int .i64 b1 := (List.cons.inj e1).1
        exact ⟨(b0, b1), fun _ => ⟨hcell 0 (by omega), hcell 1 (by omega), w0, w1⟩⟩
      · exact ⟨default, fun h => absurd h hi⟩
    refine ⟨fun i => (Classical.choose (each i)).1, fun i => (Classical.choose (each i)).2, fun k hk => ?_⟩
    have hsp : a.spot = none := by
      obtain ⟨r0, _⟩ := Classical.choose_spec (each 0) (by omega)
      exact World.cell?_spot (a := a) r0
    obtain ⟨q0, q1, q2, q3⟩ := Classical.choose_spec (each k) hk
    obtain ⟨db, off, spot⟩ := a
    cases hsp
    refine ⟨db, off, rfl, ?_, ?_, q2, q3⟩
    · rw [← add_plain]; exact q0
    · rw [← add_plain, ← add_plain]; exact q1

theorem li_open (h : DataW.trod enc Ybaf.prog W 0 (fun _ => true) true fuel 35 [.slice a0 len cap] = some x) : SliceDatum len x.1 ∧ ∃ Li, LiAt W a0 len Li := by
  rcases Deep.open_slice Ybaf.underlying35 h with ⟨hcs, _⟩ | ⟨a, l, c, m, n, D, Pl, hcs, _, hl, hm, hmm, hx, hel⟩
  · simp at hcs
    obtain ⟨rfl, rfl, rfl⟩ := hcs
    exact ⟨Or.inl rfl, fun _ => 0, fun k hk => by omega⟩
  · simp at hcs
    obtain ⟨rfl, rfl, rfl⟩ := hcs
    simp at hmm
    subst hmm
    refine ⟨Or.inr ⟨_, _, congrArg Prod.fst hx, by simp⟩, ?_⟩
    have each : ∀ i, ∃ d : Int, i < len → W.cell? (a.add i) = some (.int .i64 d) ∧ I64 d := by
      intro i
      by_cases hi : i < len
      · obtain ⟨cs', hc, ht⟩ := hel i (by omega)
        rw [cells3, Nat.mul_one] at hc
        obtain ⟨b0, e0, _, w0⟩ := DataW.trod_int Ybaf.underlying3 ht
        subst e0
        obtain ⟨_, hlc, hcell⟩ := World.cells?_some hc
        exact ⟨b0, fun _ => ⟨hcell 0 (by omega), w0⟩⟩
      · exact ⟨default, fun h => absurd h hi⟩
    refine ⟨fun i => Classical.choose (each i), fun k hk => ?_⟩
    have hsp : a.spot = none := by
      obtain ⟨r0, _⟩ := Classical.choose_spec (each 0) (by omega)
      exact World.cell?_spot (a := a) r0
    obtain ⟨q0, q1⟩ := Classical.choose_spec (each k) hk
    obtain ⟨db, off, spot⟩ := a
    cases hsp
    refine ⟨db, off, rfl, ?_, q1⟩
    rw [← add_plain]; exact q0

theorem su_open (h : DataW.trod enc Ybaf.prog W 0 (fun _ => true) true fuel 36 [.slice a0 len cap] = some x) : SliceDatum len x.1 ∧ ∃ Sn Sp Ss Sw, SuAt W a0 len Sn Sp Ss Sw := by
  rcases Deep.open_slice Ybaf.underlying36 h with ⟨hcs, _⟩ | ⟨a, l, c, m, n, D, Pl, hcs, _, hl, hm, hmm, hx, hel⟩
  · simp at hcs
    obtain ⟨rfl, rfl, rfl⟩ := hcs
    exact ⟨Or.inl rfl, fun _ => 0, fun _ => 0, fun _ => 0, fun _ => false, fun k hk => by omega⟩
  · simp at hcs
    obtain ⟨rfl, rfl, rfl⟩ := hcs
    simp at hmm
    subst hmm
    refine ⟨Or.inr ⟨_, _, congrArg Prod.fst hx, by simp⟩, ?_⟩
    have each : ∀ i, ∃ d : Int × Int × Int × Bool, i < len → W.cell? (a.add (i * 4)) = some (.int .i64 d.1) ∧ W.cell? ((a.add (i * 4)).add 1) = some (.int .i64 d.2.1) ∧ W.cell? ((a.add (i * 4)).add 2) = some (.int .i64 d.2.2.1) ∧ W.cell? ((a.add (i * 4)).add 3) = some (.bool d.2.2.2) ∧ I64 d.1 ∧ I64 d.2.1 := by
      intro i
      by_cases hi : i < len
      · obtain ⟨cs', hc, ht⟩ := hel i (by omega)
        rw [cells63] at hc
        obtain ⟨y0, y1, y2, y3, n', _, hlen, t0, t1, t2, t3⟩ := Joins.trod_struct4 Ybaf.underlying63 ht
        rw [cells63] at hlen
        obtain ⟨_, hlc, hcell⟩ := World.cells?_some hc
        obtain ⟨c0, c1, c2, c3, rfl⟩ := list4 hlen
        obtain ⟨b0, e0, _, w0⟩ := DataW.trod_int Ybaf.underlying3 t0
        obtain ⟨b1, e1, _, w1⟩ := DataW.trod_int Ybaf.underlying3 t1
        obtain ⟨b2, e2, _⟩ := DataW.trod_int Ybaf.underlying2 t2
        obtain ⟨b3, e3, _⟩ := DataW.trod_bool Ybaf.underlying4 t3
        simp only [cells2, cells3, cells4] at e0 e1 e2 e3
        obtain rfl : c0 = .int .i64 b0 := (List.cons.inj e0).1
        obtain rfl : c1 = .int .i64 b1 := (List.cons.inj e1).1
        obtain rfl : c2 = .int .i64 b2 := (List.cons.inj e2).1
        obtain rfl : c3 = .bool b3 := (List.cons.inj e3).1
        exact ⟨(b0, b1, b2, b3), fun _ => ⟨hcell 0 (by omega), hcell 1 (by omega), hcell 2 (by omega), hcell 3 (by omega), w0, w1⟩⟩
      · exact ⟨default, fun h => absurd h hi⟩
    refine ⟨fun i => (Classical.choose (each i)).1, fun i => (Classical.choose (each i)).2.1, fun i => (Classical.choose (each i)).2.2.1, fun i => (Classical.choose (each i)).2.2.2, fun k hk => ?_⟩
    have hsp : a.spot = none := by
      obtain ⟨r0, _⟩ := Classical.choose_spec (each 0) (by omega)
      exact World.cell?_spot (a := a) r0
    obtain ⟨q0, q1, q2, q3, q4, q5⟩ := Classical.choose_spec (each k) hk
    obtain ⟨db, off, spot⟩ := a
    cases hsp
    refine ⟨db, off, rfl, ?_, ?_, ?_, ?_, q4, q5⟩
    · rw [← add_plain]; exact q0
    · rw [← add_plain, ← add_plain]; exact q1
    · rw [← add_plain, ← add_plain]; exact q2
    · rw [← add_plain, ← add_plain]; exact q3
end

theorem short {H : Type} {ts : List TypeId} {ds : List (DataW H)} (h : (DataW.weightsEach Ybaf.prog ts ds).all (· ≤ reachBytes) = true) {j : Nat} {t e : TypeId} {d : DataW H} {len : Nat} (ht : ts[j]? = some t) (hd : ds[j]? = some d) (hu : Ybaf.prog.underlying t = some (.slice e)) (hb : 1 ≤ Ybaf.prog.bytesOf e) (hs : SliceDatum len d) : len ≤ 140737488355328 := by
  rcases hs with rfl | ⟨elems, spare, rfl, rfl⟩
  · omega
  · have h1 := sized_slice h ht hd hu
    have h2 : elems.length + spare.length ≤ (elems.length + spare.length) * Ybaf.prog.bytesOf e := Nat.le_mul_of_pos_right _ hb
    have h3 : reachBytes ≤ 140737488355328 := by decide
    omega

set_option maxRecDepth 100000 in
theorem lifted (os : Os) (started : os.Started) (H : Type) (enc : TypeId × Value → H) :
    ReturnsInTold none {} Ybaf.checked os 4 .any Input.okWide ((OpenSpec.ofChange Rows.lawS6161CWholeSpec).preRow enc Ybaf.prog Ybaf.f4 [] false []) (fun F => ((OpenSpec.ofChange Rows.lawS6161CWholeSpec).at F).post enc Ybaf.prog Ybaf.f4 false true false false) (aloneAtReturn Ybaf.prog) nothingAlways := by
  refine returnsInTold_of_row (C := Ybaf.checked) (s := OpenSpec.ofChange Rows.lawS6161CWholeSpec) (by kernel_rfl) own started (by kernel_rfl) Ybaf.func4
    (OpenSpec.witness_stopped (enc := enc) (C := Ybaf.checked) false ⟨#[], #[.slice none 0 0, .slice none 0 0, .slice none 0 0, .int .i64 0, .int .i64 0, .int .i64 0, .int .i64 0], []⟩ 8 (by kernel_rfl) (by kernel_rfl) (by kernel_rfl) (by kernel_rfl)) ?_
  intro F W base args ds gs before _ hF hval0 hW _ _ hsz0 _ _
  have hval : ∀ (j : Nat) t v, Ybaf.f4.params[j]? = some t → args[j]? = some v → Value.okWide Ybaf.prog W .any base t v := hval0
  have hsz : (DataW.weightsEach Ybaf.prog (Ybaf.f4.params.toList ++ (OpenSpec.ofChange Rows.lawS6161CWholeSpec).bare.plain.varTypes Ybaf.prog) (ds ++ gs)).all (· ≤ reachBytes) = true := hsz0
  have hW' := hW
  obtain ⟨p, q, hA0, hV, rfl, hfz, hnd⟩ := hW
  have hA : DataW.TrodAll enc Ybaf.prog W 0 (fun _ => true) true Ybaf.f4.params.toList args.toList ds p := hA0
  rw [Ybaf.params4] at hA hval hsz
  obtain ⟨v0, vs0, d0, ds0, p0, q0, hargs, rfl, rfl, h0, r0⟩ := trodAll_cons hA
  obtain ⟨v1, vs1, d1, ds1, p1, q1, rfl, rfl, rfl, h1, r1⟩ := trodAll_cons r0
  obtain ⟨v2, vs2, d2, ds2, p2, q2, rfl, rfl, rfl, h2, r2⟩ := trodAll_cons r1
  obtain ⟨v3, vs3, d3, ds3, p3, q3, rfl, rfl, rfl, h3, r3⟩ := trodAll_cons r2
  obtain ⟨v4, vs4, d4, ds4, p4, q4, rfl, rfl, rfl, h4, r4⟩ := trodAll_cons r3
  obtain ⟨v5, vs5, d5, ds5, p5, q5, rfl, rfl, rfl, h5, r5⟩ := trodAll_cons r4
  obtain ⟨v6, vs6, d6, ds6, p6, q6, rfl, rfl, rfl, h6, r6⟩ := trodAll_cons r5
  obtain ⟨rfl, rfl, rfl⟩ := trodAll_nil r6
  obtain rfl : args = #[v0, v1, v2, v3, v4, v5, v6] := by cases args; simp_all
  obtain ⟨rfl, rfl⟩ := trodVars_none hV
  obtain ⟨a0, len0, cap0, rfl⟩ := okWide_slice Ybaf.underlying34 (hval 0 34 v0 rfl rfl)
  obtain ⟨a1, len1, cap1, rfl⟩ := okWide_slice Ybaf.underlying35 (hval 1 35 v1 rfl rfl)
  obtain ⟨a2, len2, cap2, rfl⟩ := okWide_slice Ybaf.underlying36 (hval 2 36 v2 rfl rfl)
  have k0 := h0
  have k1 := h1
  have k2 := h2
  have lt0 : ∀ x ∈ p0, x.block < W.heap.size := by obtain ⟨m, hm⟩ := k0; exact DataW.trod_lt m _ _ _ hm
  have lt1 : ∀ x ∈ p1, x.block < W.heap.size := by obtain ⟨m, hm⟩ := k1; exact DataW.trod_lt m _ _ _ hm
  have lt2 : ∀ x ∈ p2, x.block < W.heap.size := by obtain ⟨m, hm⟩ := k2; exact DataW.trod_lt m _ _ _ hm
  obtain ⟨n0, Nd, At, hcr⟩ : SliceDatum len0 d0 ∧ ∃ Nd At, CrAt W a0 len0 Nd At := by
    obtain ⟨fuel, hf⟩ := h0
    exact cr_open hf
  obtain ⟨n1, Li, hli⟩ : SliceDatum len1 d1 ∧ ∃ Li, LiAt W a1 len1 Li := by
    obtain ⟨fuel, hf⟩ := h1
    exact li_open hf
  obtain ⟨n2, Sn, Sp, Ss, Sw, hsu⟩ : SliceDatum len2 d2 ∧ ∃ Sn Sp Ss Sw, SuAt W a2 len2 Sn Sp Ss Sw := by
    obtain ⟨fuel, hf⟩ := h2
    exact su_open hf
  have s0 : len0 ≤ 140737488355328 := short hsz (j := 0) (t := 34) rfl rfl Ybaf.underlying34 (by rw [bytes60]; omega) n0
  have s1 : len1 ≤ 140737488355328 := short hsz (j := 1) (t := 35) rfl rfl Ybaf.underlying35 (by rw [bytes3]; omega) n1
  have s2 : len2 ≤ 140737488355328 := short hsz (j := 2) (t := 36) rfl rfl Ybaf.underlying36 (by rw [bytes63]; omega) n2
  obtain ⟨fs, rfl, rfl, rfl, w3⟩ := open_int Ybaf.underlying3 (hval 3 3 v3 rfl rfl) h3
  obtain ⟨node, rfl, rfl, rfl, w4⟩ := open_int Ybaf.underlying3 (hval 4 3 v4 rfl rfl) h4
  obtain ⟨peer, rfl, rfl, rfl, w5⟩ := open_int Ybaf.underlying3 (hval 5 3 v5 rfl rfl) h5
  obtain ⟨t, rfl, rfl, rfl, w6⟩ := open_int Ybaf.underlying2 (hval 6 2 v6 rfl rfl) h6
  clear hA0 hval0 hsz0
  have walk : Calls Ybaf.prog 4 #[.slice a0 len0 cap0, .slice a1 len1 cap1, .slice a2 len2 cap2, .int .i64 fs, .int .i64 node, .int .i64 peer, .int .i64 t] W fun e w' => e = .returned (.bool true) ∧ Below W.heap.size W w' := by
    by_cases hn : len0 + len1 + len2 ≤ 1048576
    · exact law_walk F.told a0 a1 a2 len0 len1 len2 cap0 cap1 cap2 fs node peer t Nd At Li Sn Sp Ss Sw W hF hn w4 w5 hcr hli hsu
    · exact law_long a0 a1 a2 len0 len1 len2 cap0 cap1 cap2 fs node peer t W (by omega) s0 s1 s2
  refine walk.mono fun e W' ⟨he, bel⟩ => ?_
  subst he
  exact ⟨_, rfl, _, _, _, [], _, [], hW', trodAll_mk1 (shut_bool Ybaf.underlying4 _), (trodAll_cons_mk (Below.trod laidOut' (by kernel_rfl) (of_decide_eq_true (by kernel_rfl)) k0 bel lt0) (trodAll_cons_mk (Below.trod laidOut' (by kernel_rfl) (of_decide_eq_true (by kernel_rfl)) k1 bel lt1) (trodAll_cons_mk (Below.trod laidOut' (by kernel_rfl) (of_decide_eq_true (by kernel_rfl)) k2 bel lt2) (trodAll_cons_mk (shut_int Ybaf.underlying3 w3) (trodAll_cons_mk (shut_int Ybaf.underlying3 w4) (trodAll_cons_mk (shut_int Ybaf.underlying3 w5) (trodAll_cons_mk (shut_int Ybaf.underlying2 w6) trodAll_mk0))))))), rfl, bel.frame _, fun h => by cases h⟩

/-- THE CARD. -/
theorem card_holds : Rows.LawS6161CWholeToldSaid :=
  Claim7.holds_of_told_any 4 Ybaf.f4 "fmt.errorf" [] [] _ _ _ (by kernel_rfl) rfl rfl rfl laidOutP (by kernel_rfl) rfl ⟨rfl, rfl, rfl, rfl, rfl, rfl, rfl⟩ rfl rfl (by kernel_rfl) (by kernel_rfl) Ybaf.func4 (by kernel_rfl)
    (of_decide_eq_true (by kernel_rfl)) (by unfold Func.isWrapper; rw [if_neg (of_decide_eq_false (by kernel_rfl))]; exact ⟨rfl, rfl⟩) stopsE.symm rfl stopKnobs.symm (by kernel_rfl)
    (by kernel_rfl) (by kernel_rfl) (by kernel_rfl) (by kernel_rfl) (by kernel_rfl) (by kernel_rfl) (by kernel_rfl) (by kernel_rfl) (by kernel_rfl) rfl (by kernel_rfl) rfl rfl
    rfl rfl
    rfl (by kernel_rfl) (by kernel_rfl) (by kernel_rfl) (by decide) (by kernel_rfl)
    (OpenClaim.moreEntering_of (by kernel_rfl) (by kernel_rfl) (by kernel_rfl) (by kernel_rfl) (by kernel_rfl) (by kernel_rfl) (by kernel_rfl) (by kernel_rfl) (by kernel_rfl) (by kernel_rfl))
    ⟨_, WideRow.started_initial, quiet _⟩
    (fun os started _ H enc _ => lifted os started H enc)
end Go.Proofs.YbulkdwomFmt
