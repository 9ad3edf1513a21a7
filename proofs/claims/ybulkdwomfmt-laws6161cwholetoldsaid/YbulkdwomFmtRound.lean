import Derived.Test.YbulkdwomFmtSus
import Derived.Laws.StructEq
namespace Go.Proofs.YbulkdwomFmt
open Go Go.RowKit Go.Maps Go.Extern.Stop Go.Stop Go.Extern
set_option linter.unusedVariables false

theorem neq67 (s : Int) (x : Bool) (w : World) : (binOp .neq 67 (.agg #[.int .i64 s, .bool x]) (.agg #[.int .i64 s, .bool x])).run Ybaf.prog w = .ok (.bool false) w := by
  simp [go_sem]

def lastAt (Nd At : Nat → Int) (peer : Int) : Nat → Option Int
  | 0 => none
  | k + 1 => if Nd k = peer then some (At k) else lastAt Nd At peer k

structure CrOk (Dc : D0) (peer : Int) (L : Option Int) : Prop where
  has : Maps.has Dc (.int .i64 peer) = L.isSome
  at_ : ∀ a, L = some a → Dc.atKey (.int .i64 peer) (.lit (.int .i64 0)) = .lit (.int .i64 a)
def LiOk (Dl : D0) (peer : Int) (li : Bool) : Prop := Dl.atKey (.int .i64 peer) (.lit (.bool false)) = .lit (.bool li)

theorem cr_start (peer : Int) : CrOk (.map []) peer none := ⟨rfl, fun a h => by cases h⟩
theorem li_start (peer : Int) : LiOk (.map []) peer false := rfl
theorem cr_step {Dc : D0} {peer : Int} {L : Option Int} (hD : IsMap Dc) (hp : I64 peer) (h : CrOk Dc peer L) (a b : Int) : CrOk (Dc.put (.int .i64 a) (.lit (.int .i64 b))) peer (if a = peer then some b else L) := by
  by_cases e : a = peer
  · subst e
    rw [if_pos rfl]
    exact ⟨has_put_same hD (isKey61 hp) _, fun x hx => by cases hx; exact atKey_put_same hD (isKey61 hp) _ _⟩
  · rw [if_neg e]
    have hne : (Lit.int .i64 peer) ≠ .int .i64 a := fun h => e (by injection h with _ h; exact h.symm)
    exact ⟨(has_put_other hne _).trans h.has, fun x hx => (atKey_put_other hne _ _).trans (h.at_ x hx)⟩
theorem li_step {Dl : D0} {peer : Int} {li : Bool} (hD : IsMap Dl) (hp : I64 peer) (h : LiOk Dl peer li) (a : Int) : LiOk (Dl.put (.int .i64 a) (.lit (.bool true))) peer (li || decide (a = peer)) := by
  unfold LiOk at *
  by_cases e : a = peer
  · subst e
    rw [atKey_put_same hD (isKey61 hp)]; simp
  · have hne : (Lit.int .i64 peer) ≠ .int .i64 a := fun h => e (by injection h with _ h; exact h.symm)
    rw [atKey_put_other hne, h]; simp [e]

theorem has_step {D : D0} {Sn Sp : Nat → Int} {k : Nat} (hD : IsMap D) (hk : WideAt.IsKeyLit (kk (Sn k) (Sp k))) (h : ∀ j, j < k → Maps.has D (kk (Sn j) (Sp j)) = true) (d : D0) : ∀ j, j < k + 1 → Maps.has (D.put (kk (Sn k) (Sp k)) d) (kk (Sn j) (Sp j)) = true := by
  intro j hj
  by_cases e : kk (Sn j) (Sp j) = kk (Sn k) (Sp k)
  · rw [e]; exact has_put_same hD hk _
  · rw [has_put_other e]
    refine h j ?_
    rcases Nat.lt_succ_iff_lt_or_eq.1 hj with h' | h'
    · exact h'
    · subst h'; exact absurd rfl e

section
variable {M : Nat} {w wr : World} {fs : Int} {nm : Nat} {Dc Dl Ds Dw D : D0}
theorem round_c (h : St M w fs nm Dc Dl Ds Dw wr) (o : Obj) {a b : Int} (ha : I64 a) (hb : I64 b) (hmax : nm < maxLen) :
    ∃ w5, (Instr.mapUpdate 38 (.map (some M)) (.int .i64 a) (.int .i64 b)).run Ybaf.prog (wr.alloc o).drew = .ok () w5 ∧ St M w fs (nm + 1) (Dc.put (.int .i64 a) (.lit (.int .i64 b))) Dl Ds Dw w5 := by
  have h1 : St M w fs nm Dc Dl Ds Dw (wr.alloc o).drew := h.later (((Below.refl _ wr).alloc (Nat.le_refl _) o).drew) (Nat.le_refl _)
  obtain ⟨w5, hrun, hown, hg⟩ := h1.mc.update law61 Ybaf.underlying38 hmax (key_61 ha) (plainElem_int Ybaf.underlying2 hb)
  exact ⟨w5, hrun, h1.putC hg hown⟩
theorem round_l (h : St M w fs nm Dc Dl Ds Dw wr) {a : Int} (ha : I64 a) (hmax : nm < maxLen) :
    ∃ w5, (Instr.mapUpdate 39 (.map (some (M + 1))) (.int .i64 a) (.bool true)).run Ybaf.prog wr = .ok () w5 ∧ St M w fs (nm + 1) Dc (Dl.put (.int .i64 a) (.lit (.bool true))) Ds Dw w5 := by
  obtain ⟨w5, hrun, hown, hg⟩ := h.ml.update law61 Ybaf.underlying39 hmax (key_61 ha) (plainElem_bool Ybaf.underlying4 true)
  exact ⟨w5, hrun, h.putL hg hown⟩
theorem round_s (h : St M w fs nm Dc Dl D D wr) (o : Obj) {a b : Int} (s : Int) (x : Bool) (ha : I64 a) (hb : I64 b) (hmax : nm < maxLen) :
    ∃ w5 w6, (Instr.mapUpdate 40 (.map (some (M + 1 + 1))) (.agg #[.int .i64 a, .int .i64 b]) (.agg #[.int .i64 s, .bool x])).run Ybaf.prog (((wr.alloc o).alloc (.cells #[.int .i64 a, .int .i64 b] 65)).alloc (.cells #[.int .i64 s, .bool x] 67)).drew = .ok () w5 ∧
      (w5.cell? ⟨wr.heap.size + 1, 0, none⟩ = some (.int .i64 a) ∧ w5.cell? ⟨wr.heap.size + 1, 1, none⟩ = some (.int .i64 b) ∧ w5.cell? ⟨wr.heap.size + 1 + 1, 0, none⟩ = some (.int .i64 s) ∧ w5.cell? ⟨wr.heap.size + 1 + 1, 1, none⟩ = some (.bool x)) ∧
      (Instr.mapUpdate 40 (.map (some (M + 1 + 1 + 1 + 1))) (.agg #[.int .i64 a, .int .i64 b]) (.agg #[.int .i64 s, .bool x])).run Ybaf.prog w5 = .ok () w6 ∧ St M w fs (nm + 1) Dc Dl (D.put (kk a b) (sd s x)) (D.put (kk a b) (sd s x)) w6 := by
  have hsz := h.size
  have hb3 : Below wr.heap.size wr (((wr.alloc o).alloc (.cells #[.int .i64 a, .int .i64 b] 65)).alloc (.cells #[.int .i64 s, .bool x] 67)).drew := ((((Below.refl _ wr).alloc (Nat.le_refl _) _).alloc (by simp) _).alloc (by simp; omega) _).drew
  have h1 : St M w fs nm Dc Dl D D (((wr.alloc o).alloc (.cells #[.int .i64 a, .int .i64 b] 65)).alloc (.cells #[.int .i64 s, .bool x] 67)).drew := h.later hb3 (Nat.le_refl _)
  obtain ⟨w5, hrun, hown, hg⟩ := h1.ms.update law65 Ybaf.underlying40 hmax (key_wv ha hb) (RS_sv s x)
  have h5 := h1.putS hg hown
  have hw5 : w5.ownsMap Ybaf.prog 65 RS (M + 1 + 1 + 1 + 1) nm D := h1.mw.kept hg (by simp <;> omega)
  obtain ⟨w6, hrun6, hown6, hg6⟩ := hw5.update law65 Ybaf.underlying40 hmax (key_wv ha hb) (RS_sv s x)
  have e1 : (((wr.alloc o).alloc (.cells #[.int .i64 a, .int .i64 b] 65)).alloc (.cells #[.int .i64 s, .bool x] 67)).drew.heap[wr.heap.size + 1]? = some (.cells #[.int .i64 a, .int .i64 b] 65 (0, 0)) := by
    show (((wr.alloc o).alloc (.cells #[.int .i64 a, .int .i64 b] 65)).alloc (.cells #[.int .i64 s, .bool x] 67)).heap[wr.heap.size + 1]? = _
    rw [Deep.blk_alloc_lt _ _ _ (by simp)]
    have := Deep.blk_alloc_new (wr.alloc o) (.cells #[.int .i64 a, .int .i64 b] 65)
    simp only [Deep.nblk_alloc] at this
    exact this
  have e2 : (((wr.alloc o).alloc (.cells #[.int .i64 a, .int .i64 b] 65)).alloc (.cells #[.int .i64 s, .bool x] 67)).drew.heap[wr.heap.size + 1 + 1]? = some (.cells #[.int .i64 s, .bool x] 67 (0, 0)) := by
    have := Deep.blk_alloc_new ((wr.alloc o).alloc (.cells #[.int .i64 a, .int .i64 b] 65)) (.cells #[.int .i64 s, .bool x] 67)
    simp only [Deep.nblk_alloc] at this
    exact this
  have f1 := (hg.block (wr.heap.size + 1) (Array.getElem?_eq_some_iff.1 e1).1 (by simp; omega)).trans e1
  have f2 := (hg.block (wr.heap.size + 1 + 1) (Array.getElem?_eq_some_iff.1 e2).1 (by simp; omega)).trans e2
  refine ⟨w5, w6, hrun, ⟨?_, ?_, ?_, ?_⟩, hrun6, h5.putW hg6 hown6⟩
  · simp only [World.cell?, f1]; rfl
  · simp only [World.cell?, f1]; rfl
  · simp only [World.cell?, f2]; rfl
  · simp only [World.cell?, f2]; rfl
end

/-- The state ahead of the backward scan: the looked-for watch lies boxed at KB. -/
structure Pre (M : Nat) (w : World) (fs : Int) (nm : Nat) (Dc Dl D : D0) (KB : Nat) (node peer : Int) (W : World) : Prop where
  st : St M w fs nm Dc Dl D D W
  k0 : W.cell? ⟨KB, 0, none⟩ = some (.int .i64 node)
  k1 : W.cell? ⟨KB, 1, none⟩ = some (.int .i64 peer)
  far : M + 1 + 1 + 1 + 1 < KB
  lt : KB < W.heap.size
theorem pre_mk {M : Nat} {w wr : World} {fs : Int} {nm : Nat} {Dc Dl D : D0} (h : St M w fs nm Dc Dl D D wr) (node peer : Int) (o : Obj) : Pre M w fs nm Dc Dl D wr.heap.size node peer ((wr.alloc (.cells #[.int .i64 node, .int .i64 peer] 65)).alloc o) := by
  have e : ((wr.alloc (.cells #[.int .i64 node, .int .i64 peer] 65)).alloc o).heap[wr.heap.size]? = some (.cells #[.int .i64 node, .int .i64 peer] 65 (0, 0)) := by
    rw [Deep.blk_alloc_lt _ _ _ (by simp)]; exact Deep.blk_alloc_new _ _
  refine ⟨h.later (((Below.refl _ wr).alloc (Nat.le_refl _) _).alloc (by simp) _) (Nat.le_refl _), ?_, ?_, h.size, by simp; omega⟩
  · simp only [World.cell?, e]; rfl
  · simp only [World.cell?, e]; rfl

/-- The state ahead of the last loop. -/
structure Fin (M : Nat) (w : World) (ns : Nat) (Sn Sp : Nat → Int) (wx : World) : Prop where
  all : ∃ (fs : Int) (nm : Nat) (Dc Dl Ds Dw : D0), St M w fs nm Dc Dl Ds Dw wx ∧ ∀ j, j < ns → Ds.atKey (kk (Sn j) (Sp j)) (sd 0 false) = Dw.atKey (kk (Sn j) (Sp j)) (sd 0 false)
theorem Fin.later {M : Nat} {w wx wy : World} {ns : Nat} {Sn Sp : Nat → Int} (h : Fin M w ns Sn Sp wx) (hb : Below wx.heap.size wx wy) : Fin M w ns Sn Sp wy := by
  obtain ⟨fs, nm, Dc, Dl, Ds, Dw, h1, h2⟩ := h.all
  exact ⟨fs, nm, Dc, Dl, Ds, Dw, h1.later hb (Nat.le_refl _), h2⟩
theorem fin_same {M : Nat} {w wx : World} {fs : Int} {nm : Nat} {Dc Dl D : D0} (h : St M w fs nm Dc Dl D D wx) (ns : Nat) (Sn Sp : Nat → Int) : Fin M w ns Sn Sp wx := ⟨fs, nm, Dc, Dl, D, D, h, fun _ _ => rfl⟩
theorem fin_new {M : Nat} {w wx : World} {fs : Int} {nm : Nat} {Dc Dl D d : D0} {a b : Int} {ns : Nat} {Sn Sp : Nat → Int} (h : St M w fs nm Dc Dl (D.put (kk a b) d) D wx) (hn : Maps.has D (kk a b) = false) (hh : ∀ j, j < ns → Maps.has D (kk (Sn j) (Sp j)) = true) : Fin M w ns Sn Sp wx :=
  ⟨fs, nm, Dc, Dl, _, D, h, fun j hj => atKey_put_other (fun e => by have := hh j hj; rw [e, hn] at this; cases this) _ _⟩
theorem look_two {M : Nat} {w wx : World} {ns : Nat} {Sn Sp : Nat → Int} (h : Fin M w ns Sn Sp wx) {j : Nat} (hj : j < ns) (ha : I64 (Sn j)) (hb : I64 (Sp j)) :
    ∃ s x, ∀ wy, Below wx.heap.size wx wy → (Instr.lookup 40 (.map (some (M + 1 + 1))) (.agg #[.int .i64 (Sn j), .int .i64 (Sp j)]) false).run Ybaf.prog wy = .ok (.agg #[.int .i64 s, .bool x]) wy ∧ (Instr.lookup 40 (.map (some (M + 1 + 1 + 1 + 1))) (.agg #[.int .i64 (Sn j), .int .i64 (Sp j)]) false).run Ybaf.prog wy = .ok (.agg #[.int .i64 s, .bool x]) wy ∧ wy.cell? ⟨M + 1 + 1 + 1, 21, none⟩ = some (.map (some (M + 1 + 1))) := by
  obtain ⟨fs, nm, Dc, Dl, Ds, Dw, h1, h2⟩ := h.all
  obtain ⟨s, x, hk⟩ := look_ex h1 ha hb
  exact ⟨s, x, fun wy hy => ⟨look_s0 (h1.later hy (Nat.le_refl _)) ha hb hk, look_w0 (h1.later hy (Nat.le_refl _)) ha hb (hk.trans (h2 j hj)), (h1.later hy (Nat.le_refl _)).c21⟩⟩
theorem fin_below {M : Nat} {w wx : World} {ns : Nat} {Sn Sp : Nat → Int} (h : Fin M w ns Sn Sp wx) : Below M w wx := by
  obtain ⟨fs, nm, Dc, Dl, Ds, Dw, h1, h2⟩ := h.all
  exact h1.below

/-- HOW suspect ENDS. -/
def SusPost (M : Nat) (w : World) (fs : Int) (nm : Nat) (Dc Dl D : D0) (wg hd : Bool) (node peer t : Int) (W : World) (v : Value) (w' : World) : Prop :=
  (hd = true ∧ (∃ x, v = .iface 96 x) ∧ Below W.heap.size W w') ∨ (hd = false ∧ v = .nilIface ∧ St M w (if wg then wrap64 (fs + 1) else fs) (nm + 1) Dc Dl (D.put (kk node peer) (sd t wg)) D w' ∧ Rest M W w')
theorem suspect_both (F : Interp) {M : Nat} {w W : World} {fs : Int} {nm : Nat} {Dc Dl D : D0} (h : St M w fs nm Dc Dl D D W) (hF : F.answers w.tape) {node peer : Int} (hn : I64 node) (hp : I64 peer) (t : Int) (hd : Bool) (hh : Maps.has D (kk node peer) = hd) (hmax : nm < maxLen)
    {L : Option Int} {li : Bool} (hs : Says Dc Dl peer L li) (wg : Bool) (hwg : (!crashed L t && !li) = wg) :
    Calls Ybaf.prog 10 #[.pointer (some ⟨M + 1 + 1 + 1, 0, none⟩), .agg #[.int .i64 node, .int .i64 peer], .int .i64 t] W fun e w' => ∃ v, e = .returned v ∧ SusPost M w fs nm Dc Dl D wg hd node peer t W v w' := by
  cases hd
  · exact (suspect_new h hn hp t hh hmax hs wg hwg).mono fun e w' ⟨h1, h2, h3⟩ => ⟨_, h1, Or.inr ⟨rfl, rfl, h2, h3⟩⟩
  · exact (suspect_had F h (by rw [h.below.tape]; exact hF) hn hp t hh).mono fun e w' ⟨⟨x, h1⟩, h2⟩ => ⟨_, h1, Or.inl ⟨rfl, ⟨x, rfl⟩, h2⟩⟩

theorem isIface28 : Ybaf.prog.isIface 28 = true := by kernel_rfl
theorem eql_err (x : Value) (w : World) : (binOp .eql 28 (.iface 96 x) .nilIface).run Ybaf.prog w = .ok (.bool false) w := run_eql_iface_nil _ _ isIface28 _ _
theorem neq_ok (w : World) : (binOp .neq 28 .nilIface .nilIface).run Ybaf.prog w = .ok (.bool false) w := run_neq_nil_nil_at _ _ isIface28

/-- What the law reads behind a new suspicion. -/
structure New (M : Nat) (KB : Nat) (node peer t : Int) (wg : Bool) (fs2 : Int) (z : Nat) (w2 : World) : Prop where
  c22 : w2.cell? ⟨M + 1 + 1 + 1, 22, none⟩ = some (.int .i64 fs2)
  c21 : w2.cell? ⟨M + 1 + 1 + 1, 21, none⟩ = some (.map (some (M + 1 + 1)))
  c21a : ∀ o, (w2.alloc o).cell? ⟨M + 1 + 1 + 1, 21, none⟩ = some (.map (some (M + 1 + 1)))
  k0 : w2.cell? ⟨KB, 0, none⟩ = some (.int .i64 node)
  k1 : w2.cell? ⟨KB, 1, none⟩ = some (.int .i64 peer)
  k0a : ∀ o, (w2.alloc o).cell? ⟨KB, 0, none⟩ = some (.int .i64 node)
  k1a : ∀ o, (w2.alloc o).cell? ⟨KB, 1, none⟩ = some (.int .i64 peer)
  l3 : (Builtin.len_ #[40] 3 #[.map (some (M + 1 + 1))]).run Ybaf.prog w2 = .ok (.int .i64 ((z : Int) + 1)) w2
  lw : (Builtin.len_ #[40] 3 #[.map (some (M + 1 + 1 + 1 + 1))]).run Ybaf.prog w2 = .ok (.int .i64 (z : Int)) w2
  z_le : z ≤ 1048576
  lk : (Instr.lookup 40 (.map (some (M + 1 + 1))) (.agg #[.int .i64 node, .int .i64 peer]) true).run Ybaf.prog w2.drew = .ok (.tuple #[.agg #[.int .i64 t, .bool wg], .bool true]) w2.drew
  lka : ∀ o, (Instr.lookup 40 (.map (some (M + 1 + 1))) (.agg #[.int .i64 node, .int .i64 peer]) true).run Ybaf.prog (w2.alloc o).drew = .ok (.tuple #[.agg #[.int .i64 t, .bool wg], .bool true]) (w2.alloc o).drew

theorem new_of {M : Nat} {w W w2 : World} {fs fs2 : Int} {nm : Nat} {Dc Dl D : D0} {KB : Nat} {node peer t : Int} {wg : Bool} (hP : Pre M w fs nm Dc Dl D KB node peer W) (hnm : nm ≤ 1048576) (hn : I64 node) (hp : I64 peer) (hh : Maps.has D (kk node peer) = false)
    (h : St M w fs2 (nm + 1) Dc Dl (D.put (kk node peer) (sd t wg)) D w2) (hr : Rest M W w2) : New M KB node peer t wg fs2 (Maps.size D) w2 := by
  have e : w2.heap[KB]? = W.heap[KB]? := hr.2 KB hP.lt (by have := hP.far; omega) (by have := hP.far; omega)
  have k0 : w2.cell? ⟨KB, 0, none⟩ = some (.int .i64 node) := (World.cell?_of_block (a := ⟨KB, 0, none⟩) e).trans hP.k0
  have k1 : w2.cell? ⟨KB, 1, none⟩ = some (.int .i64 peer) := (World.cell?_of_block (a := ⟨KB, 1, none⟩) e).trans hP.k1
  have hlt : KB < w2.heap.size := Nat.lt_of_lt_of_le hP.lt hr.1
  have b : ∀ o, Below w2.heap.size w2 (w2.alloc o) := fun o => (Below.refl _ _).alloc (Nat.le_refl _) o
  have hD : IsMap D := hP.st.ms.isMap
  have hsz : Maps.size (D.put (kk node peer) (sd t wg)) = Maps.size D + 1 := by rw [size_put (hP.st.ms.tidy law65), hh]; rfl
  have hat : sd t wg = (D.put (kk node peer) (sd t wg)).atKey (kk node peer) (sd 0 false) := (atKey_put_same hD (isKey65 hn hp) _ _).symm
  have hhs : Maps.has (D.put (kk node peer) (sd t wg)) (kk node peer) = true := has_put_same hD (isKey65 hn hp) _
  have l3 := h.ms.len Ybaf.underlying40 3
  rw [hsz] at l3
  have q := look_s (h.later ((Below.refl _ w2).drew) (Nat.le_refl _)) hn hp hat
  have qa := fun o => look_s (h.later ((b o).drew) (Nat.le_refl _)) hn hp hat
  rw [hhs] at q
  simp only [hhs] at qa
  exact ⟨h.c22, h.c21, fun o => (h.later (b o) (Nat.le_refl _)).c21, k0, k1, fun o => ((b o).cell (by exact hlt)).trans k0, fun o => ((b o).cell (by exact hlt)).trans k1, by simpa using l3, h.mw.len Ybaf.underlying40 3, Nat.le_trans hP.st.ms.size_le hnm, q, qa⟩
end Go.Proofs.YbulkdwomFmt
