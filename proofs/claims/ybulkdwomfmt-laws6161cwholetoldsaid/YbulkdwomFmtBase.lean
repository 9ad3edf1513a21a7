import Derived.Test.YbulkdwomFmtRows
import Derived.WalkKit
import Derived.WalkSpells
import Derived.WalkLawsBesides
import Derived.OneCell
import Derived.Deep.Heap
import Derived.Deep.OwnRows
import Derived.Deep.QuietTactic
import Derived.Deep.DeepCutAuto
import Derived.BigQuiet
import Derived.RegionTactic
import Derived.Lib.Builder
import Derived.Maps.Own
import Derived.Maps.OwnSet
import Derived.Maps.Views
import Derived.DeepKeys4
import Derived.Stop.CallBack
import Derived.Stop.IfaceNil
namespace Go.Proofs.YbulkdwomFmt
open Go Go.RowKit Go.Maps Go.Extern.Stop Go.Stop Go.Extern
set_option linter.unusedVariables false

theorem laidOut' : laidOutB Ybaf.prog = true := by kernel_rfl
theorem row65 : (65 : TypeId) < Ybaf.prog.types.size := of_decide_eq_true (by kernel_rfl)
theorem deep65 : Ybaf.prog.keyTypeAt 3 65 = true := by kernel_rfl
theorem law65 : Keyed Ybaf.prog 65 := Keyed.of_law (deep_law_laid laidOut' (m := 3) (by omega) row65 deep65 (by rw [Ybaf.underlying65]))
theorem law61 : Keyed Ybaf.prog 61 := int_keyed Ybaf.underlying61
theorem cells65 : Ybaf.prog.cellsOf 65 = 2 := by kernel_rfl
theorem cells61 : Ybaf.prog.cellsOf 61 = 1 := by kernel_rfl
theorem key65 : Ybaf.prog.keyType 65 = true := by kernel_rfl
theorem zero2 (w : World) : (zeroValue 2).run Ybaf.prog w = .ok (.int .i64 0) w := by kernel_rfl
theorem zero4 (w : World) : (zeroValue 4).run Ybaf.prog w = .ok (.bool false) w := by kernel_rfl
theorem zero67 (w : World) : (zeroValue 67).run Ybaf.prog w = .ok (.agg #[.int .i64 0, .bool false]) w := by kernel_rfl

/-- A watch as a key. -/
def wv (a b : Int) : Value := .agg #[.int .i64 a, .int .i64 b]
def kk (a b : Int) : Lit := .string (keyBytes [.int .i64 a, .int .i64 b])
def I64 (a : Int) : Prop := (Lit.int .i64 a).wf = true
theorem keyLits61 (d : Nat) {a : Int} (h : I64 a) : Ybaf.prog.keyLits (d + 1) 61 [.int .i64 a] = some [.int .i64 a] := by
  have h' : (Lit.int .i64 a).wf = true := h
  simp [Program.keyLits, Ybaf.underlying61, h']
theorem size_succ : ∃ d, Ybaf.prog.types.size + 1 = d + 1 + 1 := by
  have h : 65 < Ybaf.prog.types.size := row65
  exact ⟨Ybaf.prog.types.size - 1, by omega⟩
theorem key_wv {a b : Int} (ha : I64 a) (hb : I64 b) : keyOf Ybaf.prog 65 (wv a b) = some (kk a b) := by
  have hf : (wv a b).formed Ybaf.prog 65 = true := by simp [wv, Value.formed, Ybaf.underlying65, cells65]
  obtain ⟨d, hd⟩ := size_succ
  have hc : (wv a b).cells.toList = [.int .i64 a, .int .i64 b] := rfl
  simp only [keyOf, Ybaf.underlying65, key65, hf, Bool.and_self, if_true, hc, hd]
  have h1 : Ybaf.prog.keyLits (d + 1 + 1) 65 [.int .i64 a, .int .i64 b] = some [.int .i64 a, .int .i64 b] := by
    unfold Program.keyLits
    rw [Ybaf.underlying65]
    simp [cells65, cells61, keyLits61 d ha, keyLits61 d hb]
  rw [h1]; rfl
theorem key_61 {a : Int} (ha : I64 a) : keyOf Ybaf.prog 61 (.int .i64 a) = some (.int .i64 a) := keyOf_int_mk Ybaf.underlying61 ha
theorem isKey65 {a b : Int} (ha : I64 a) (hb : I64 b) : WideAt.IsKeyLit (kk a b) := law65.key (key_wv ha hb)
theorem isKey61 {a : Int} (ha : I64 a) : WideAt.IsKeyLit (.int .i64 a) := law61.key (key_61 ha)

/-- How a suspicion reads. -/
def RL : List Value → Option (DataW Unit × List MemPlace)
  | [.int .i64 s, .bool b] => some (.agg [.lit (.int .i64 s), .lit (.bool b)], [])
  | _ => none
def RS : Value → Option (DataW Unit × List MemPlace)
  | .agg cs => RL cs.toList
  | _ => none
def sv (s : Int) (b : Bool) : Value := .agg #[.int .i64 s, .bool b]
def sd (s : Int) (b : Bool) : DataW Unit := .agg [.lit (.int .i64 s), .lit (.bool b)]
theorem RS_sv (s : Int) (b : Bool) : RS (sv s b) = some (sd s b, []) := rfl
theorem RS_inv {v : Value} {z : DataW Unit × List MemPlace} (h : RS v = some z) : ∃ s b, v = sv s b ∧ z = (sd s b, []) := by
  unfold RS at h
  split at h
  · rename_i cs
    unfold RL at h
    split at h
    · rename_i s b hl
      cases h
      refine ⟨s, b, ?_, rfl⟩
      rw [show cs = #[.int .i64 s, .bool b] from by cases cs; simpa using hl]; rfl
    · cases h
  · cases h
theorem sd_inj {s s' : Int} {b b' : Bool} (h : sd s b = sd s' b') : s = s' ∧ b = b' := by
  unfold sd at h
  injection h with h
  injection h with h1 h2
  injection h2 with h2 _
  injection h1 with h1
  injection h2 with h2
  injection h1 with _ h1
  injection h2 with h2
  exact ⟨h1, h2⟩

abbrev D0 := DataW Unit

/-- THE CHECKER AND THE FOUR MAPS. Blocks: M crashes, M + 1 listed, M + 2 suspicions, M + 3 the checker, M + 4 want. -/
structure St (M : Nat) (w : World) (fs : Int) (nm : Nat) (Dc Dl Ds Dw : D0) (wr : World) : Prop where
  below : Below M w wr
  c3 : wr.cell? ⟨M + 1 + 1 + 1, 3, none⟩ = some (.map (some (M + 1)))
  c4 : wr.cell? ⟨M + 1 + 1 + 1, 4, none⟩ = some (.map (some M))
  c21 : wr.cell? ⟨M + 1 + 1 + 1, 21, none⟩ = some (.map (some (M + 1 + 1)))
  c22 : wr.cell? ⟨M + 1 + 1 + 1, 22, none⟩ = some (.int .i64 fs)
  f22 : wr.frozen? ⟨M + 1 + 1 + 1, 22, none⟩ = false
  mc : wr.ownsMap Ybaf.prog 61 (plainElem (H := Unit) Ybaf.prog 2) M nm Dc
  ml : wr.ownsMap Ybaf.prog 61 (plainElem (H := Unit) Ybaf.prog 4) (M + 1) nm Dl
  ms : wr.ownsMap Ybaf.prog 65 RS (M + 1 + 1) nm Ds
  mw : wr.ownsMap Ybaf.prog 65 RS (M + 1 + 1 + 1 + 1) nm Dw

theorem St.size {M : Nat} {w wr : World} {fs : Int} {nm : Nat} {Dc Dl Ds Dw : D0} (h : St M w fs nm Dc Dl Ds Dw wr) : M + 1 + 1 + 1 + 1 < wr.heap.size := h.mw.lt

/-- Nothing below has turned. -/
theorem St.later {M : Nat} {w wr w' : World} {fs : Int} {nm nm' : Nat} {Dc Dl Ds Dw : D0} (h : St M w fs nm Dc Dl Ds Dw wr) (hg : Below wr.heap.size wr w') (hn : nm ≤ nm') : St M w fs nm' Dc Dl Ds Dw w' := by
  have hs := h.size
  have hb : M ≤ wr.heap.size := by omega
  have hgr : wr.grownBy w' none := ⟨hg.os, hg.tape, hg.output, hg.size, fun i hi _ => hg.block i hi⟩
  have c : ∀ j, w'.cell? ⟨M + 1 + 1 + 1, j, none⟩ = wr.cell? ⟨M + 1 + 1 + 1, j, none⟩ := fun j => hg.cell (by show M + 1 + 1 + 1 < _; omega)
  exact ⟨h.below.trans (hg.mono hb), (c 3).trans h.c3, (c 4).trans h.c4, (c 21).trans h.c21, (c 22).trans h.c22, (hg.frozen (by show M + 1 + 1 + 1 < _; omega)).trans h.f22, (h.mc.kept hgr (by simp)).mono hn, (h.ml.kept hgr (by simp)).mono hn, (h.ms.kept hgr (by simp)).mono hn, (h.mw.kept hgr (by simp)).mono hn⟩

/-- One map's block has turned. -/
theorem St.cellsKept {M : Nat} {w wr w' : World} {fs : Int} {nm : Nat} {Dc Dl Ds Dw : D0} (h : St M w fs nm Dc Dl Ds Dw wr) {b : Nat} (hg : wr.grownBy w' (some b)) (hb : M ≤ b) (hne : b ≠ M + 1 + 1 + 1) :
    Below M w w' ∧ (∀ j, w'.cell? ⟨M + 1 + 1 + 1, j, none⟩ = wr.cell? ⟨M + 1 + 1 + 1, j, none⟩) ∧ w'.frozen? ⟨M + 1 + 1 + 1, 22, none⟩ = wr.frozen? ⟨M + 1 + 1 + 1, 22, none⟩ := by
  have hs := h.size
  have e : w'.heap[M + 1 + 1 + 1]? = wr.heap[M + 1 + 1 + 1]? := hg.block _ (by omega) (by simp <;> omega)
  exact ⟨h.below.trans ⟨hg.os, hg.tape, hg.output, hg.size, fun k hk => hg.block k (by omega) (by simp <;> omega)⟩, fun j => by simp only [World.cell?, e], by simp only [World.frozen?, e]⟩

theorem St.putC {M : Nat} {w wr w' : World} {fs : Int} {nm : Nat} {Dc Dl Ds Dw D' : D0} (h : St M w fs nm Dc Dl Ds Dw wr) (hg : wr.grownBy w' (some M)) (ho : w'.ownsMap Ybaf.prog 61 (plainElem (H := Unit) Ybaf.prog 2) M (nm + 1) D') : St M w fs (nm + 1) D' Dl Ds Dw w' := by
  obtain ⟨b, c, f⟩ := h.cellsKept hg (by omega) (by omega)
  exact ⟨b, (c 3).trans h.c3, (c 4).trans h.c4, (c 21).trans h.c21, (c 22).trans h.c22, f.trans h.f22, ho, (h.ml.kept hg (by simp <;> omega)).mono (by omega), (h.ms.kept hg (by simp <;> omega)).mono (by omega), (h.mw.kept hg (by simp <;> omega)).mono (by omega)⟩
theorem St.putL {M : Nat} {w wr w' : World} {fs : Int} {nm : Nat} {Dc Dl Ds Dw D' : D0} (h : St M w fs nm Dc Dl Ds Dw wr) (hg : wr.grownBy w' (some (M + 1))) (ho : w'.ownsMap Ybaf.prog 61 (plainElem (H := Unit) Ybaf.prog 4) (M + 1) (nm + 1) D') : St M w fs (nm + 1) Dc D' Ds Dw w' := by
  obtain ⟨b, c, f⟩ := h.cellsKept hg (by omega) (by omega)
  exact ⟨b, (c 3).trans h.c3, (c 4).trans h.c4, (c 21).trans h.c21, (c 22).trans h.c22, f.trans h.f22, (h.mc.kept hg (by simp <;> omega)).mono (by omega), ho, (h.ms.kept hg (by simp <;> omega)).mono (by omega), (h.mw.kept hg (by simp <;> omega)).mono (by omega)⟩
theorem St.putS {M : Nat} {w wr w' : World} {fs : Int} {nm : Nat} {Dc Dl Ds Dw D' : D0} (h : St M w fs nm Dc Dl Ds Dw wr) (hg : wr.grownBy w' (some (M + 1 + 1))) (ho : w'.ownsMap Ybaf.prog 65 RS (M + 1 + 1) (nm + 1) D') : St M w fs (nm + 1) Dc Dl D' Dw w' := by
  obtain ⟨b, c, f⟩ := h.cellsKept hg (by omega) (by omega)
  exact ⟨b, (c 3).trans h.c3, (c 4).trans h.c4, (c 21).trans h.c21, (c 22).trans h.c22, f.trans h.f22, (h.mc.kept hg (by simp <;> omega)).mono (by omega), (h.ml.kept hg (by simp <;> omega)).mono (by omega), ho, (h.mw.kept hg (by simp <;> omega)).mono (by omega)⟩
theorem St.putW {M : Nat} {w wr w' : World} {fs : Int} {nm : Nat} {Dc Dl Ds Dw D' : D0} (h : St M w fs (nm + 1) Dc Dl Ds Dw wr) (hg : wr.grownBy w' (some (M + 1 + 1 + 1 + 1))) (ho : w'.ownsMap Ybaf.prog 65 RS (M + 1 + 1 + 1 + 1) (nm + 1) D') : St M w fs (nm + 1) Dc Dl Ds D' w' := by
  obtain ⟨b, c, f⟩ := h.cellsKept hg (by omega) (by omega)
  exact ⟨b, (c 3).trans h.c3, (c 4).trans h.c4, (c 21).trans h.c21, (c 22).trans h.c22, f.trans h.f22, h.mc.kept hg (by simp <;> omega), h.ml.kept hg (by simp <;> omega), h.ms.kept hg (by simp <;> omega), ho⟩

theorem st_start (w : World) (fs : Int) (cs : Array Value) (h3 : cs[3]? = some (.map (some (w.heap.size + 1)))) (h4 : cs[4]? = some (.map (some w.heap.size))) (h21 : cs[21]? = some (.map (some (w.heap.size + 1 + 1)))) (h22 : cs[22]? = some (.int .i64 fs)) :
    St w.heap.size w fs 0 (.map []) (.map []) (.map []) (.map []) (((((w.alloc (.map #[] 0)).alloc (.map #[] 0)).alloc (.map #[] 0)).alloc (.cells cs 58)).alloc (.map #[] 0)) := by
  have e1 : (w.alloc (.map #[] 0)).heap.size = w.heap.size + 1 := by simp
  have e2 : ((w.alloc (.map #[] 0)).alloc (.map #[] 0)).heap.size = w.heap.size + 1 + 1 := by simp
  have e3 : (((w.alloc (.map #[] 0)).alloc (.map #[] 0)).alloc (.map #[] 0)).heap.size = w.heap.size + 1 + 1 + 1 := by simp
  have e4 : ((((w.alloc (.map #[] 0)).alloc (.map #[] 0)).alloc (.map #[] 0)).alloc (.cells cs 58)).heap.size = w.heap.size + 1 + 1 + 1 + 1 := by simp
  have hC : (((((w.alloc (.map #[] 0)).alloc (.map #[] 0)).alloc (.map #[] 0)).alloc (.cells cs 58)).alloc (.map #[] 0)).heap[w.heap.size + 1 + 1 + 1]? = some (.cells cs 58 (0, 0)) := by
    rw [Deep.blk_alloc_lt _ _ _ (by rw [e4]; omega)]
    have := Deep.blk_alloc_new (((w.alloc (.map #[] 0)).alloc (.map #[] 0)).alloc (.map #[] 0)) (.cells cs 58)
    rw [e3] at this; exact this
  refine ⟨((((((Below.refl _ w).alloc (Nat.le_refl _) _).alloc (by rw [e1]; omega) _).alloc (by rw [e2]; omega) _).alloc (by rw [e3]; omega) _).alloc (by rw [e4]; omega) _), ?_, ?_, ?_, ?_, ?_, ?_, ?_, ?_, ?_⟩
  · simp only [World.cell?, hC]; exact h3
  · simp only [World.cell?, hC]; exact h4
  · simp only [World.cell?, hC]; exact h21
  · simp only [World.cell?, hC]; exact h22
  · simp only [World.frozen?, hC]; rfl
  · exact ((((World.ownsMap_made w Ybaf.prog 61 (plainElem (H := Unit) Ybaf.prog 2)).alloc _).alloc _).alloc _).alloc _
  · have := World.ownsMap_made (w.alloc (.map #[] 0)) Ybaf.prog 61 (plainElem (H := Unit) Ybaf.prog 4)
    rw [e1] at this
    exact ((this.alloc _).alloc _).alloc _
  · have := World.ownsMap_made ((w.alloc (.map #[] 0)).alloc (.map #[] 0)) Ybaf.prog 65 RS
    rw [e2] at this
    exact (this.alloc _).alloc _
  · have := World.ownsMap_made ((((w.alloc (.map #[] 0)).alloc (.map #[] 0)).alloc (.map #[] 0)).alloc (.cells cs 58)) Ybaf.prog 65 RS
    rw [e4] at this
    exact this
end Go.Proofs.YbulkdwomFmt
