import Derived.Test.YbulkdwjcFmtRows
import Derived.Test.YbulkdwjcFmtKeep
import Derived.WalkSpells
import Derived.WalkLawsBesides
import Derived.Deep.RegionLaw
import Derived.Deep.DeepCutAuto
namespace Go.Proofs.YbulkdwjcFmt
open Go Go.RowKit
set_option linter.unusedVariables false

theorem info9 : (Ybaf.prog.info? 9).map (fun i => (i.zero, i.size, i.bytes)) = some (some (.string ⟨#[]⟩), 1, 16) := by kernel_rfl

theorem new3 (w : World) (c0 c1 c2 : Value) (t : TypeId) : (w.alloc (.cells #[c0, c1, c2] t)).cell? ⟨w.heap.size, 0, none⟩ = some c0 ∧ (w.alloc (.cells #[c0, c1, c2] t)).cell? ⟨w.heap.size, 1, none⟩ = some c1 ∧ (w.alloc (.cells #[c0, c1, c2] t)).cell? ⟨w.heap.size, 2, none⟩ = some c2 := by
  have h := Deep.blk_alloc_new w (.cells #[c0, c1, c2] t)
  simp only [World.cell?, h]
  exact ⟨rfl, rfl, rfl⟩

/-- What the region leaves: the log's variable holds the longer row; nothing else below B has turned. -/
theorem take_rel {B LG : Nat} {w W w1 : World} {O : Obj} {f : Bool} {x2 v : Value} {g cp n : Nat} {ys : List Value} (hB : B ≤ w.heap.size) (hLG : LG < B) (hWs : w.heap.size < W.heap.size) (hbw : Below w.heap.size w W)
    (ho : w1.ownsRow B 9 1 (.slice (some ⟨g, 0, none⟩) (n + 1) cp) (n + 1) ys) (hgrow : (W.alloc O).drew.grownBy w1 v.ownBlock) (hG : ∀ k, v.ownBlock = some k → B ≤ k ∧ k < w.heap.size)
    (he : w1.heap[LG]? = some (.cells #[v] 57 (0, 0))) (e1 : w1.cell? ⟨w.heap.size, 1, none⟩ = some (.bool f)) (e2 : w1.cell? ⟨w.heap.size, 2, none⟩ = some x2) :
    ∃ v', (w1.setCell ⟨LG, 0, none⟩ (.slice (some ⟨g, 0, none⟩) (n + 1) cp)).heap[LG]? = some (.cells #[v'] 57 (0, 0)) ∧ (w1.setCell ⟨LG, 0, none⟩ (.slice (some ⟨g, 0, none⟩) (n + 1) cp)).ownsRow B 9 1 v' (n + 1) ys ∧ Keep B LG LG w (w1.setCell ⟨LG, 0, none⟩ (.slice (some ⟨g, 0, none⟩) (n + 1) cp)) ∧
      (w1.setCell ⟨LG, 0, none⟩ (.slice (some ⟨g, 0, none⟩) (n + 1) cp)).cell? ⟨w.heap.size, 1, none⟩ = some (.bool f) ∧ (w1.setCell ⟨LG, 0, none⟩ (.slice (some ⟨g, 0, none⟩) (n + 1) cp)).cell? ⟨w.heap.size, 2, none⟩ = some x2 := by
  refine ⟨_, one_setCell he, ownsRow_setCell_below ho hLG _, ?_, ?_, ?_⟩
  · have k1 : Keep B LG LG w (W.alloc O).drew := ((Keep.ofBelow (hbw.mono hB)).alloc (by omega) O).drew
    exact (k1.grown hgrow (by show B ≤ (W.alloc O).heap.size; simp; omega) (fun k hk => (hG k hk).1)).setCell (Or.inl rfl) _
  · rw [World.cell?_setCell_other _ _ _ _ (fun e => by have := congrArg Addr.block e; simp at this; omega)]; exact e1
  · rw [World.cell?_setCell_other _ _ _ _ (fun e => by have := congrArg Addr.block e; simp at this; omega)]; exact e2

set_option maxRecDepth 100000 in
set_option maxHeartbeats 800000 in
theorem take75 (B LG R SB : Nat) (f : Bool) (lb : ByteArray) (v : Value) (n : Nat) (xs : List Value) (w : World)
    (hB : B ≤ w.heap.size) (hLG : LG < B) (hR : R < B) (hne : LG ≠ R) (hn : n < 8192)
    (hl : w.heap[LG]? = some (.cells #[v] 57 (0, 0))) (hr : w.cell? ⟨R, 8, none⟩ = some (.string lb)) (hown : w.ownsRow B 9 1 v n xs) :
    Calls Ybaf.prog 75 #[.agg #[.pointer (some ⟨LG, 0, none⟩), .bool f, .iface 106 (.pointer (some ⟨SB, 0, none⟩))], .pointer (some ⟨R, 0, none⟩)] w fun e w' =>
      e = .returned (if f then .iface 106 (.pointer (some ⟨SB, 0, none⟩)) else .nilIface) ∧ ∃ v', w'.heap[LG]? = some (.cells #[v'] 57 (0, 0)) ∧ w'.ownsRow B 9 1 v' (n + 1) (xs ++ [.string lb]) ∧ Keep B LG LG w w' := by
  obtain ⟨i0, hi0, hz0, hz1, hz2⟩ := info_parts info9
  go_enter Ybaf.func75, Ybaf.ntmps75
  go_wp2
  generalize hWe : w.alloc (.cells #[.pointer (some ⟨LG, 0, none⟩), .bool f, .iface 106 (.pointer (some ⟨SB, 0, none⟩))] 63) = W
  have hcl := new3 w (.pointer (some ⟨LG, 0, none⟩)) (.bool f) (.iface 106 (.pointer (some ⟨SB, 0, none⟩))) 63
  rw [hWe] at hcl
  obtain ⟨k0, k1, k2⟩ := hcl
  have hWs : w.heap.size < W.heap.size := by rw [← hWe]; simp
  have hbw : Below w.heap.size w W := by rw [← hWe]; exact (Below.refl _ _).alloc (Nat.le_refl _) _
  have hrW : W.cell? ⟨R, 8, none⟩ = some (.string lb) := (hbw.cell (by show R < _; omega)).trans hr
  have hlW : W.heap[LG]? = some (.cells #[v] 57 (0, 0)) := (hbw.block LG (by omega)).trans hl
  have hownW : W.ownsRow B 9 1 v n xs := by rw [← hWe]; exact hown.alloc _
  have ge := own_ge hown
  have lt := own_lt hown
  have HG : Hid (∀ k, v.ownBlock = some k → B ≤ k ∧ k < w.heap.size) := fun k hk => ⟨ge k hk, lt k hk⟩
  have HO : Hid (W.ownsRow B 9 1 v n xs) := hownW
  clear hWe hl hr hown ge lt hownW
  have hn1 : w.heap.size ≠ LG := by omega
  have hn2 : LG ≠ w.heap.size := by omega
  have hcL := cell_of_one hlW
  have hfL := free_of_one hlW
  have hLa : ∀ o, (W.alloc o).cell? ⟨LG, 0, none⟩ = some v := fun o => cell_later ((Below.refl _ W).alloc (Nat.le_refl _) o) hcL
  have hRa : ∀ o, (W.alloc o).cell? ⟨R, 8, none⟩ = some (.string lb) := fun o => cell_later ((Below.refl _ W).alloc (Nat.le_refl _) o) hrW
  have hXa : ∀ o, (W.alloc o).cell? ⟨w.heap.size, 0, none⟩ = some (.pointer (some ⟨LG, 0, none⟩)) := fun o => cell_later ((Below.refl _ W).alloc (Nat.le_refl _) o) k0
  have HL : Hid _ := hlW
  clear hlW
  go_cut [] (fun wx => ∃ v', wx.heap[LG]? = some (.cells #[v'] 57 (0, 0)) ∧ wx.ownsRow B 9 1 v' (n + 1) (xs ++ [.string lb]) ∧ Keep B LG LG w wx ∧ wx.cell? ⟨w.heap.size, 1, none⟩ = some (.bool f) ∧ wx.cell? ⟨w.heap.size, 2, none⟩ = some (.iface 106 (.pointer (some ⟨SB, 0, none⟩))))
  case first =>
    go_region_law (refine step_append_own rfl (.tmp 10) (.tmp 15) 57 rfl B 9 i0 (.string ⟨#[]⟩) 1 16 Ybaf.underlying57 hi0 hz0 hz1 hz2 rfl (by decide) v n xs (by simp [Act.eval]) (by exact (HO.out.alloc _).drew) ⟨W.heap.size, 0, none⟩ 1 1 [.string lb] (by simp [Act.eval]) rfl (by exact cell_one_new W (.string lb) 9) (by simp [Value.oneCell']) (by unfold maxLen; omega) (by omega) (by simp; omega) ?_; intro v' w1 hown' hgrow; obtain ⟨g, cp, hv⟩ := Joins.ownsRow_form hown' (by omega); subst hv; have hbk := after_append hgrow; have eL := (hbk LG (by omega) (fun k hk => by have := HG.out k hk; omega)).trans HL.out; have eX := hbk w.heap.size hWs (fun k hk => by have := HG.out k hk; omega); have cL1 := cell_of_one eL; have fL1 := free_of_one eL; have x0 := (World.cell?_of_block (a := ⟨w.heap.size, 0, none⟩) eX).trans k0; have x1 := (World.cell?_of_block (a := ⟨w.heap.size, 1, none⟩) eX).trans k1; have x2 := (World.cell?_of_block (a := ⟨w.heap.size, 2, none⟩) eX).trans k2; have HO1 : Hid _ := hown'; have HG1 : Hid _ := hgrow; have HE : Hid _ := eL; clear hown' hgrow hbk eX eL)
    all_goals
      go_wp2_with fail
      go_meet
      case rel => exact take_rel hB hLG hWs hbw HO1.out HG1.out HG.out HE.out x1 x2
  case rest =>
    obtain ⟨v', q1, q2, q3, q4, q5⟩ := hcut
    have Q1 : Hid _ := q1
    clear q1
    cases f
    · go_wp2
      go_ret
      exact ⟨rfl, v', Q1.out, q2, q3⟩
    · go_wp2
      go_ret
      exact ⟨rfl, v', Q1.out, q2, q3⟩
end Go.Proofs.YbulkdwjcFmt
