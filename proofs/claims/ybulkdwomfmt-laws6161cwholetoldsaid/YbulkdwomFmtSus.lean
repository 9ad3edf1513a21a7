import Derived.Test.YbulkdwomFmtFns
namespace Go.Proofs.YbulkdwomFmt
open Go Go.RowKit Go.Maps Go.Extern.Stop Go.Stop Go.Extern
set_option linter.unusedVariables false

theorem call23 (args : Array Value) (w : World) : (callFunc 23 args).run Ybaf.prog w = ((FmtStop.errorf #[9, 86] #[28] args).run Ybaf.prog w).andThen fun v w' => .ok (.value v) w' :=
  run_callFunc_extern Ybaf.func23 (by kernel_rfl) (by kernel_rfl) (by kernel_rfl) (by kernel_rfl) args w
theorem guardE (name : String) (w : World) : (FmtStop.guard name).run Ybaf.prog w = .ok () w := by kernel_rfl
theorem ptr96 (w : World) : (FmtStop.ptrTo "errors.errorString").run Ybaf.prog w = .ok 96 w := by kernel_rfl
theorem elem96 (w : World) : (elemOf 96).run Ybaf.prog w = .ok 98 w := by kernel_rfl
theorem isError96 (w : World) : (FmtDoors.textMethod 96 "Error").run Ybaf.prog w = .ok true w := by kernel_rfl
def shape61 : List UInt8 := 5 :: FmtStop.pack "clockless.NodeID".toUTF8.data.toList
theorem op61 (name : String) (x : Int) (w : World) : (FmtStop.operand name true 100 false (.iface 61 (.int .i64 x))).run Ybaf.prog w = .ok (shape61, Go.Extern.Stop.digits 8 (x % 2 ^ 64).toNat) w := by kernel_rfl

theorem fmt0 : FmtStop.printed? ⟨#[110, 111, 100, 101, 32, 37, 100, 32, 115, 117, 115, 112, 101, 99, 116, 101, 100, 32, 110, 111, 100, 101, 32, 37, 100, 44, 32, 119, 104, 105, 99, 104, 32, 105, 116, 32, 115, 117, 115, 112, 101, 99, 116, 101, 100, 32, 97, 108, 114, 101, 97, 100, 121]⟩ 2 = some [(0, 100, false), (1, 100, false)] := by kernel_rfl
theorem fmt0r (w : World) : (FmtDoors.printed ⟨#[110, 111, 100, 101, 32, 37, 100, 32, 115, 117, 115, 112, 101, 99, 116, 101, 100, 32, 110, 111, 100, 101, 32, 37, 100, 44, 32, 119, 104, 105, 99, 104, 32, 105, 116, 32, 115, 117, 115, 112, 101, 99, 116, 101, 100, 32, 97, 108, 114, 101, 97, 100, 121]⟩ 2).run Ybaf.prog w = .ok [(0, 100, false), (1, 100, false)] w := by kernel_rfl

theorem look_ex {M : Nat} {w wr : World} {fs : Int} {nm : Nat} {Dc Dl Ds Dw : D0} (h : St M w fs nm Dc Dl Ds Dw wr) {a b : Int} (ha : I64 a) (hb : I64 b) : ∃ s x, sd s x = Ds.atKey (kk a b) (sd 0 false) := by
  obtain ⟨v, ps, _, hv⟩ := h.ms.look_ok law65 Ybaf.underlying40 (zero67 _) (RS_sv 0 false) (key_wv ha hb)
  obtain ⟨s, x, _, hz⟩ := RS_inv hv
  simp only [Prod.mk.injEq] at hz
  exact ⟨s, x, hz.1.symm⟩
theorem look_s {M : Nat} {w wr : World} {fs : Int} {nm : Nat} {Dc Dl Ds Dw : D0} (h : St M w fs nm Dc Dl Ds Dw wr) {a b : Int} (ha : I64 a) (hb : I64 b) {s : Int} {x : Bool} (hk : sd s x = Ds.atKey (kk a b) (sd 0 false)) :
    (Instr.lookup 40 (.map (some (M + 1 + 1))) (.agg #[.int .i64 a, .int .i64 b]) true).run Ybaf.prog wr = .ok (.tuple #[.agg #[.int .i64 s, .bool x], .bool (Maps.has Ds (kk a b))]) wr := by
  obtain ⟨v, ps, hrun, hv⟩ := h.ms.look_ok law65 Ybaf.underlying40 (zero67 _) (RS_sv 0 false) (key_wv ha hb)
  obtain ⟨s', x', rfl, hz⟩ := RS_inv hv
  simp only [Prod.mk.injEq] at hz
  obtain ⟨rfl, rfl⟩ := sd_inj (hk.trans hz.1)
  exact hrun
theorem look_s0 {M : Nat} {w wr : World} {fs : Int} {nm : Nat} {Dc Dl Ds Dw : D0} (h : St M w fs nm Dc Dl Ds Dw wr) {a b : Int} (ha : I64 a) (hb : I64 b) {s : Int} {x : Bool} (hk : sd s x = Ds.atKey (kk a b) (sd 0 false)) :
    (Instr.lookup 40 (.map (some (M + 1 + 1))) (.agg #[.int .i64 a, .int .i64 b]) false).run Ybaf.prog wr = .ok (.agg #[.int .i64 s, .bool x]) wr := by
  obtain ⟨v, ps, hrun, hv⟩ := h.ms.lookup law65 Ybaf.underlying40 (zero67 _) (RS_sv 0 false) (key_wv ha hb)
  obtain ⟨s', x', rfl, hz⟩ := RS_inv hv
  simp only [Prod.mk.injEq] at hz
  obtain ⟨rfl, rfl⟩ := sd_inj (hk.trans hz.1)
  exact hrun
theorem look_w {M : Nat} {w wr : World} {fs : Int} {nm : Nat} {Dc Dl Ds Dw : D0} (h : St M w fs nm Dc Dl Ds Dw wr) {a b : Int} (ha : I64 a) (hb : I64 b) :
    ∃ s x, sd s x = Dw.atKey (kk a b) (sd 0 false) ∧ (Instr.lookup 40 (.map (some (M + 1 + 1 + 1 + 1))) (.agg #[.int .i64 a, .int .i64 b]) true).run Ybaf.prog wr = .ok (.tuple #[.agg #[.int .i64 s, .bool x], .bool (Maps.has Dw (kk a b))]) wr := by
  obtain ⟨v, ps, hrun, hv⟩ := h.mw.look_ok law65 Ybaf.underlying40 (zero67 _) (RS_sv 0 false) (key_wv ha hb)
  obtain ⟨s', x', rfl, hz⟩ := RS_inv hv
  simp only [Prod.mk.injEq] at hz
  exact ⟨s', x', hz.1.symm, hrun⟩
theorem look_w0 {M : Nat} {w wr : World} {fs : Int} {nm : Nat} {Dc Dl Ds Dw : D0} (h : St M w fs nm Dc Dl Ds Dw wr) {a b : Int} (ha : I64 a) (hb : I64 b) {s : Int} {x : Bool} (hk : sd s x = Dw.atKey (kk a b) (sd 0 false)) :
    (Instr.lookup 40 (.map (some (M + 1 + 1 + 1 + 1))) (.agg #[.int .i64 a, .int .i64 b]) false).run Ybaf.prog wr = .ok (.agg #[.int .i64 s, .bool x]) wr := by
  obtain ⟨v, ps, hrun, hv⟩ := h.mw.lookup law65 Ybaf.underlying40 (zero67 _) (RS_sv 0 false) (key_wv ha hb)
  obtain ⟨s', x', rfl, hz⟩ := RS_inv hv
  simp only [Prod.mk.injEq] at hz
  obtain ⟨rfl, rfl⟩ := sd_inj (hk.trans hz.1)
  exact hrun

/-- All but the checker's and the suspicions' blocks. -/
def Rest (M : Nat) (W w' : World) : Prop := W.heap.size ≤ w'.heap.size ∧ ∀ k, k < W.heap.size → k ≠ M + 1 + 1 → k ≠ M + 1 + 1 + 1 → w'.heap[k]? = W.heap[k]?

theorem Rest.refl (M : Nat) (W : World) : Rest M W W := ⟨Nat.le_refl _, fun _ _ _ _ => rfl⟩
theorem St.setFs {M : Nat} {w wr : World} {fs : Int} {nm : Nat} {Dc Dl Ds Dw : D0} (h : St M w fs nm Dc Dl Ds Dw wr) (v : Int) : St M w v nm Dc Dl Ds Dw (wr.setCell ⟨M + 1 + 1 + 1, 22, none⟩ (.int .i64 v)) := by
  have o : ∀ j, j ≠ 22 → (wr.setCell ⟨M + 1 + 1 + 1, 22, none⟩ (.int .i64 v)).cell? ⟨M + 1 + 1 + 1, j, none⟩ = wr.cell? ⟨M + 1 + 1 + 1, j, none⟩ := fun j hj => World.cell?_setCell_other _ _ _ _ (by simp <;> omega)
  exact ⟨h.below.setCell (by show M ≤ M + 1 + 1 + 1; omega) _, (o 3 (by omega)).trans h.c3, (o 4 (by omega)).trans h.c4, (o 21 (by omega)).trans h.c21, World.cell?_setCell_same _ _ _ h.c22, (World.frozen?_setCell _ _ _ _).trans h.f22,
    h.mc.setCell (by show M ≠ M + 1 + 1 + 1; omega) _, h.ml.setCell (by show M + 1 ≠ M + 1 + 1 + 1; omega) _, h.ms.setCell (by show M + 1 + 1 ≠ M + 1 + 1 + 1; omega) _, h.mw.setCell (by show M + 1 + 1 + 1 + 1 ≠ M + 1 + 1 + 1; omega) _⟩

/-- What lies ready for the store into the map. -/
structure Mid (M : Nat) (w W W3 : World) (fs : Int) (nm : Nat) (Dc Dl Ds Dw : D0) (node peer t : Int) (wg : Bool) : Prop where
  st : St M w fs nm Dc Dl Ds Dw W3
  rest : Rest M W W3
  k0 : W3.cell? ⟨W.heap.size, 0, none⟩ = some (.int .i64 node)
  k1 : W3.cell? ⟨W.heap.size, 1, none⟩ = some (.int .i64 peer)
  s0 : W3.cell? ⟨W.heap.size + 1 + 1, 0, none⟩ = some (.int .i64 t)
  s1 : W3.cell? ⟨W.heap.size + 1 + 1, 1, none⟩ = some (.bool wg)

theorem mid_no {M : Nat} {w W : World} {fs : Int} {nm : Nat} {Dc Dl Ds Dw : D0} (h : St M w fs nm Dc Dl Ds Dw W) (node peer t : Int) (wg : Bool) (o : Obj) :
    Mid M w W (((W.alloc (.cells #[.int .i64 node, .int .i64 peer] 65)).alloc o).alloc (.cells #[.int .i64 t, .bool wg] 67)).drew fs nm Dc Dl Ds Dw node peer t wg := by
  have b : Below W.heap.size W (((W.alloc (.cells #[.int .i64 node, .int .i64 peer] 65)).alloc o).alloc (.cells #[.int .i64 t, .bool wg] 67)).drew := ((((Below.refl _ W).alloc (Nat.le_refl _) _).alloc (by simp) _).alloc (by simp; omega) _).drew
  have e1 : (((W.alloc (.cells #[.int .i64 node, .int .i64 peer] 65)).alloc o).alloc (.cells #[.int .i64 t, .bool wg] 67)).drew.heap[W.heap.size]? = some (.cells #[.int .i64 node, .int .i64 peer] 65 (0, 0)) := by
    show (((W.alloc (.cells #[.int .i64 node, .int .i64 peer] 65)).alloc o).alloc (.cells #[.int .i64 t, .bool wg] 67)).heap[W.heap.size]? = _
    rw [Deep.blk_alloc_lt _ _ _ (by simp; omega), Deep.blk_alloc_lt _ _ _ (by simp)]
    exact Deep.blk_alloc_new _ _
  have e2 : (((W.alloc (.cells #[.int .i64 node, .int .i64 peer] 65)).alloc o).alloc (.cells #[.int .i64 t, .bool wg] 67)).drew.heap[W.heap.size + 1 + 1]? = some (.cells #[.int .i64 t, .bool wg] 67 (0, 0)) := by
    have := Deep.blk_alloc_new ((W.alloc (.cells #[.int .i64 node, .int .i64 peer] 65)).alloc o) (.cells #[.int .i64 t, .bool wg] 67)
    simp only [Deep.nblk_alloc] at this
    exact this
  refine ⟨h.later b (Nat.le_refl _), ⟨b.size, fun k hk _ _ => b.block k hk⟩, ?_, ?_, ?_, ?_⟩
  · simp only [World.cell?, e1]; rfl
  · simp only [World.cell?, e1]; rfl
  · simp only [World.cell?, e2]; rfl
  · simp only [World.cell?, e2]; rfl
theorem Mid.set {M : Nat} {w W W3 : World} {fs : Int} {nm : Nat} {Dc Dl Ds Dw : D0} {node peer t : Int} {wg : Bool} (h : Mid M w W W3 fs nm Dc Dl Ds Dw node peer t wg) (hM : M + 1 + 1 + 1 < W.heap.size) (v : Int) : Mid M w W (W3.setCell ⟨M + 1 + 1 + 1, 22, none⟩ (.int .i64 v)) v nm Dc Dl Ds Dw node peer t wg := by
  have f : ∀ b j, b ≠ M + 1 + 1 + 1 → (W3.setCell ⟨M + 1 + 1 + 1, 22, none⟩ (.int .i64 v)).cell? ⟨b, j, none⟩ = W3.cell? ⟨b, j, none⟩ := fun b j hb => World.cell?_setCell_other _ _ _ _ (by simp <;> omega)
  exact ⟨h.st.setFs v, ⟨by rw [Deep.nblk_setCell]; exact h.rest.1, fun k hk h1 h2 => (Deep.blk_setCell_other _ _ _ _ h2).trans (h.rest.2 k hk h1 h2)⟩, (f _ _ (by omega)).trans h.k0, (f _ _ (by omega)).trans h.k1, (f _ _ (by omega)).trans h.s0, (f _ _ (by omega)).trans h.s1⟩
theorem Mid.done {M : Nat} {w W W3 w5 : World} {fs : Int} {nm : Nat} {Dc Dl Ds Dw D' : D0} {node peer t : Int} {wg : Bool} (h : Mid M w W W3 fs nm Dc Dl Ds Dw node peer t wg) (hg : W3.drew.grownBy w5 (some (M + 1 + 1))) (ho : w5.ownsMap Ybaf.prog 65 RS (M + 1 + 1) (nm + 1) D') :
    St M w fs (nm + 1) Dc Dl D' Dw w5 ∧ Rest M W w5 := by
  have hst : St M w fs nm Dc Dl Ds Dw W3.drew := h.st.later ((Below.refl _ _).drew) (Nat.le_refl _)
  refine ⟨hst.putS hg ho, ⟨Nat.le_trans h.rest.1 hg.size, fun k hk h1 h2 => (hg.block k (Nat.lt_of_lt_of_le hk h.rest.1) (by simpa using h1)).trans (h.rest.2 k hk h1 h2)⟩⟩

attribute [local go_sem] call23 guardE ptr96 elem96 isError96 op61 fmt0 fmt0r

set_option maxRecDepth 100000 in
set_option maxHeartbeats 800000 in
theorem suspect_had (F : Interp) {M : Nat} {w W : World} {fs : Int} {nm : Nat} {Dc Dl Ds Dw : D0} (h : St M w fs nm Dc Dl Ds Dw W) (hF : F.answers W.tape) {node peer : Int} (hn : I64 node) (hp : I64 peer) (t : Int) (hh : Maps.has Ds (kk node peer) = true) :
    Calls Ybaf.prog 10 #[.pointer (some ⟨M + 1 + 1 + 1, 0, none⟩), .agg #[.int .i64 node, .int .i64 peer], .int .i64 t] W fun e w' => (∃ x, e = .returned (.iface 96 x)) ∧ Below W.heap.size W w' := by
  have hF' := answers_open hF
  obtain ⟨s, x, hk⟩ := look_ex h hn hp
  have c21 := (h.later ((Below.refl _ W).alloc (Nat.le_refl _) (.cells #[.int .i64 node, .int .i64 peer] 65)) (Nat.le_refl _)).c21
  have l0 := look_s (h.later (((Below.refl _ W).alloc (Nat.le_refl _) (.cells #[.int .i64 node, .int .i64 peer] 65)).drew) (Nat.le_refl _)) hn hp hk
  have l1 := fun o => look_s (h.later ((((Below.refl _ W).alloc (Nat.le_refl _) (.cells #[.int .i64 node, .int .i64 peer] 65)).alloc (by simp) o).drew) (Nat.le_refl _)) hn hp hk
  have c21' : ∀ o, ((W.alloc (.cells #[.int .i64 node, .int .i64 peer] 65)).alloc o).cell? ⟨M + 1 + 1 + 1, 21, none⟩ = _ := fun o => (h.later (((Below.refl _ W).alloc (Nat.le_refl _) (.cells #[.int .i64 node, .int .i64 peer] 65)).alloc (by simp) o) (Nat.le_refl _)).c21
  rw [hh] at l0 l1
  clear h hF hk
  go_enter Ybaf.func10, Ybaf.ntmps10
  go_wp2
  go_region
  go_wp2_with go_in
  go_ret
  exact ⟨⟨_, rfl⟩, ((((((Below.refl _ W).alloc (Nat.le_refl _) _).alloc (by simp) _).alloc (by simp; omega) _).alloc (by simp; omega) _).drew).drew⟩

set_option maxRecDepth 100000 in
set_option maxHeartbeats 800000 in
theorem suspect_new {M : Nat} {w W : World} {fs : Int} {nm : Nat} {Dc Dl Ds Dw : D0} (h : St M w fs nm Dc Dl Ds Dw W) {node peer : Int} (hn : I64 node) (hp : I64 peer) (t : Int) (hh : Maps.has Ds (kk node peer) = false) (hmax : nm < maxLen)
    {L : Option Int} {li : Bool} (hs : Says Dc Dl peer L li) (wg : Bool) (hwg : (!crashed L t && !li) = wg) :
    Calls Ybaf.prog 10 #[.pointer (some ⟨M + 1 + 1 + 1, 0, none⟩), .agg #[.int .i64 node, .int .i64 peer], .int .i64 t] W fun e w' => e = .returned .nilIface ∧ St M w (if wg then wrap64 (fs + 1) else fs) (nm + 1) Dc Dl (Ds.put (kk node peer) (sd t wg)) Dw w' ∧ Rest M W w' := by
  obtain ⟨s, x, hk⟩ := look_ex h hn hp
  have c21 := (h.later ((Below.refl _ W).alloc (Nat.le_refl _) (.cells #[.int .i64 node, .int .i64 peer] 65)) (Nat.le_refl _)).c21
  have l0 := look_s (h.later (((Below.refl _ W).alloc (Nat.le_refl _) (.cells #[.int .i64 node, .int .i64 peer] 65)).drew) (Nat.le_refl _)) hn hp hk
  have l1 := fun o => look_s (h.later ((((Below.refl _ W).alloc (Nat.le_refl _) (.cells #[.int .i64 node, .int .i64 peer] 65)).alloc (by simp) o).drew) (Nat.le_refl _)) hn hp hk
  have c21' : ∀ o, ((W.alloc (.cells #[.int .i64 node, .int .i64 peer] 65)).alloc o).cell? ⟨M + 1 + 1 + 1, 21, none⟩ = _ := fun o => (h.later (((Below.refl _ W).alloc (Nat.le_refl _) (.cells #[.int .i64 node, .int .i64 peer] 65)).alloc (by simp) o) (Nat.le_refl _)).c21
  rw [hh] at l0 l1
  have H : Hid (St M w fs nm Dc Dl Ds Dw W) := h
  have HS : Hid (Says Dc Dl peer L li) := hs
  have HW : Hid ((!crashed L t && !li) = wg) := hwg
  clear h hk hs hwg
  go_enter Ybaf.func10, Ybaf.ntmps10
  go_wp2
  go_region
  clear l0 l1 c21 c21'
  go_wp2_with (go_at_call 19; fail)
  refine (correct_any (H.out.later ((((Below.refl _ W).alloc (Nat.le_refl _) _).alloc (by simp) _).drew) (Nat.le_refl _)) hp HS.out t).mono ?_
  rintro e w2 ⟨rfl, rfl⟩
  rw [HW.out]
  have hM : M + 1 + 1 + 1 < W.heap.size := by have := H.out.size; omega
  cases wg
  · go_wp2
    generalize hWe : (((W.alloc (.cells #[.int .i64 node, .int .i64 peer] 65)).alloc (.cells #[.int .i64 s, .bool x] 67)).alloc (.cells #[.int .i64 t, .bool false] 67)).drew = W3
    have hm : Mid M w W W3 fs nm Dc Dl Ds Dw node peer t false := by rw [← hWe]; exact mid_no H.out node peer t false _
    obtain ⟨w5, hrun0, hown, hg⟩ := (hm.st.ms.drew).update law65 Ybaf.underlying40 hmax (key_wv hn hp) (RS_sv t false)
    have hrun : (Instr.mapUpdate 40 (.map (some (M + 1 + 1))) (.agg #[.int .i64 node, .int .i64 peer]) (.agg #[.int .i64 t, .bool false])).run Ybaf.prog W3.drew = .ok () w5 := hrun0
    have c21 := hm.st.c21
    have k0 := hm.k0
    have k1 := hm.k1
    have s0 := hm.s0
    have s1 := hm.s1
    obtain ⟨r1, r2⟩ := hm.done hg hown
    clear hm hWe hrun0 hown hg HW HS H hM
    have R1 : Hid _ := r1
    clear r1
    go_region
    go_wp2
    go_ret
    exact ⟨rfl, R1.out, r2⟩
  · have c22 := fun o1 o2 o3 => (H.out.later ((((Below.refl _ W).alloc (Nat.le_refl _) o1).alloc (by simp) o2).alloc (by simp; omega) o3) (Nat.le_refl _)).c22
    have f22 := fun o1 o2 o3 => (H.out.later ((((Below.refl _ W).alloc (Nat.le_refl _) o1).alloc (by simp) o2).alloc (by simp; omega) o3) (Nat.le_refl _)).f22
    go_wp2
    clear c22 f22
    generalize hWe : ((((W.alloc (.cells #[.int .i64 node, .int .i64 peer] 65)).alloc (.cells #[.int .i64 s, .bool x] 67)).alloc (.cells #[.int .i64 t, .bool true] 67)).setCell ⟨M + 1 + 1 + 1, 22, none⟩ (.int .i64 (wrap64 (fs + 1)))).drew = W3
    have hm : Mid M w W W3 (wrap64 (fs + 1)) nm Dc Dl Ds Dw node peer t true := by rw [← hWe]; exact (mid_no H.out node peer t true _).set hM _
    obtain ⟨w5, hrun0, hown, hg⟩ := (hm.st.ms.drew).update law65 Ybaf.underlying40 hmax (key_wv hn hp) (RS_sv t true)
    have hrun : (Instr.mapUpdate 40 (.map (some (M + 1 + 1))) (.agg #[.int .i64 node, .int .i64 peer]) (.agg #[.int .i64 t, .bool true])).run Ybaf.prog W3.drew = .ok () w5 := hrun0
    have c21 := hm.st.c21
    have k0 := hm.k0
    have k1 := hm.k1
    have s0 := hm.s0
    have s1 := hm.s1
    obtain ⟨r1, r2⟩ := hm.done hg hown
    clear hm hWe hrun0 hown hg HW HS H hM
    have R1 : Hid _ := r1
    clear r1
    go_region
    go_wp2
    go_ret
    exact ⟨rfl, R1.out, r2⟩
end Go.Proofs.YbulkdwomFmt
