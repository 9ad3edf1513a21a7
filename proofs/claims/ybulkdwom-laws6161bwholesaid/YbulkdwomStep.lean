import Derived.Test.YbulkdwomBase
namespace Go.Proofs.Ybulkdwom
open Go Go.RowKit
set_option linter.unusedVariables false

theorem Fill.congr {w wr : World} {n k : Nat} {A : Nat → Int} {Hs : Nat → Bool} {Nx : Nat → Int} {pf pg : Nat → Option Addr} (h : Fill w n A Hs Nx pf k wr) (e : ∀ j, j < k → pf j = pg j) : Fill w n A Hs Nx pg k wr := by
  refine ⟨h.below, h.hv, h.row.congr fun j hj => ?_, h.bs.congr fun j hj => ?_, fun j hj => ?_⟩
  · unfold slotF
    by_cases h1 : j < 2 * k
    · rw [if_pos h1, if_pos h1, e (j / 2) (by omega)]
    · rw [if_neg h1, if_neg h1]
  · by_cases h1 : j < k
    · simp only [if_pos h1, e j h1]
    · simp only [if_neg h1]
  · rw [← e j hj]; exact h.bk j hj

/-- The two writes of a round. -/
theorem Fill.put {w wr : World} {n k : Nat} {A : Nat → Int} {Hs : Nat → Bool} {Nx : Nat → Int} {pf : Nat → Option Addr} (h : Fill w n A Hs Nx pf k wr) (hk : k < n) (hb : Bks wr (w.heap.size + 1 + 1) (k + 1) Hs Nx pf) :
    Fill w n A Hs Nx pf (k + 1) (((wr.setCell ⟨w.heap.size + 1 + 1, k, none⟩ (.pointer (pf k))).drew.setCell ⟨w.heap.size, k * 2, none⟩ (.int .i64 (A k))).setCell ⟨w.heap.size, k * 2 + 1, none⟩ (.pointer (pf k))) := by
  have h1 : (wr.setCell ⟨w.heap.size + 1 + 1, k, none⟩ (.pointer (pf k))).rowIs w.heap.size 33 (n * 2) (slotF A pf k) := h.row.setOther (by simp; omega) _
  have h2 := (h1.drew.set (k * 2) (.int .i64 (A k))).set (k * 2 + 1) (.pointer (pf k))
  have h3 := (((h.bs.set k (.pointer (pf k))).drew.setOther (a := ⟨w.heap.size, k * 2, none⟩) (by simp; omega) (.int .i64 (A k))).setOther (a := ⟨w.heap.size, k * 2 + 1, none⟩) (by simp; omega) (.pointer (pf k)))
  refine ⟨?_, ?_, h2.congr fun j hj => ?_, h3.congr fun j hj => ?_, fun j hj => ?_⟩
  · exact (((h.below.setCell (by simp; omega) _).drew).setCell (by simp) _).setCell (by simp) _
  · rw [Deep.blk_setCell_other _ _ _ _ (by simp), Deep.blk_setCell_other _ _ _ _ (by simp)]
    exact (Deep.blk_setCell_other _ _ _ _ (by simp)).trans h.hv
  · unfold slotF
    by_cases e1 : j = k * 2 + 1
    · subst e1; rw [if_pos rfl, if_pos (by omega), if_neg (by omega), show (k * 2 + 1) / 2 = k by omega]
    · rw [if_neg e1]
      by_cases e2 : j = k * 2
      · subst e2; rw [if_pos rfl, if_pos (by omega), if_pos (by omega), show k * 2 / 2 = k by omega]
      · rw [if_neg e2]
        by_cases e3 : j < 2 * k
        · simp only [if_pos e3, if_pos (show j < 2 * (k + 1) by omega)]
        · simp only [if_neg e3, if_neg (show ¬ j < 2 * (k + 1) by omega)]
  · by_cases e1 : j = k
    · subst e1; simp
    · by_cases e2 : j < k
      · simp only [if_neg e1, if_pos e2, if_pos (show j < k + 1 by omega)]
      · simp only [if_neg e1, if_neg e2, if_neg (show ¬ j < k + 1 by omega)]
  · rcases hb j hj with h' | ⟨p1, b, p2, p3, p4⟩
    · exact Or.inl h'
    · refine Or.inr ⟨p1, b, p2, p3, ?_⟩
      rw [Deep.blk_setCell_other _ _ _ _ (by simp; omega), Deep.blk_setCell_other _ _ _ _ (by simp; omega)]
      exact (Deep.blk_setCell_other _ _ _ _ (by simp; omega)).trans p4

theorem fill_no {w wr : World} {n k : Nat} {A : Nat → Int} {Hs : Nat → Bool} {Nx : Nat → Int} {pf : Nat → Option Addr} (h : Fill w n A Hs Nx pf k wr) (hk : k < n) (hh : Hs k = false) :
    ∃ pg, Fill w n A Hs Nx pg (k + 1) (((wr.setCell ⟨w.heap.size + 1 + 1, k, none⟩ (.pointer none)).drew.setCell ⟨w.heap.size, k * 2, none⟩ (.int .i64 (A k))).setCell ⟨w.heap.size, k * 2 + 1, none⟩ (.pointer none)) := by
  refine ⟨fun j => if j = k then none else pf j, ?_⟩
  have h1 : Fill w n A Hs Nx (fun j => if j = k then none else pf j) k wr := h.congr fun j hj => by simp only [if_neg (show ¬ j = k by omega)]
  have h2 := h1.put hk (fun j hj => by
    by_cases e : j = k
    · subst e; exact Or.inl ⟨hh, by simp⟩
    · exact h1.bk j (by omega))
  simpa using h2

theorem fill_yes {w wr : World} {n k : Nat} {A : Nat → Int} {Hs : Nat → Bool} {Nx : Nat → Int} {pf : Nat → Option Addr} (h : Fill w n A Hs Nx pf k wr) (hk : k < n) (hh : Hs k = true) :
    ∃ pg, Fill w n A Hs Nx pg (k + 1) ((((wr.alloc (.cells #[.slice none 0 0, .int .i64 (Nx k)] 31)).setCell ⟨w.heap.size + 1 + 1, k, none⟩ (.pointer (some ⟨wr.heap.size, 0, none⟩))).drew.setCell ⟨w.heap.size, k * 2, none⟩ (.int .i64 (A k))).setCell ⟨w.heap.size, k * 2 + 1, none⟩ (.pointer (some ⟨wr.heap.size, 0, none⟩))) := by
  have hs := h.bs.lt
  refine ⟨fun j => if j = k then some ⟨wr.heap.size, 0, none⟩ else pf j, ?_⟩
  have h1 : Fill w n A Hs Nx (fun j => if j = k then some ⟨wr.heap.size, 0, none⟩ else pf j) k wr := h.congr fun j hj => by simp only [if_neg (show ¬ j = k by omega)]
  have h2 : Fill w n A Hs Nx (fun j => if j = k then some ⟨wr.heap.size, 0, none⟩ else pf j) k (wr.alloc (.cells #[.slice none 0 0, .int .i64 (Nx k)] 31)) := by
    refine ⟨h1.below.alloc h1.below.size _, (Deep.blk_alloc_lt _ _ _ (by omega)).trans h1.hv, h1.row.alloc _, h1.bs.alloc _, fun j hj => ?_⟩
    rcases h1.bk j hj with h' | ⟨p1, b, p2, p3, p4⟩
    · exact Or.inl h'
    · exact Or.inr ⟨p1, b, p2, p3, (Deep.blk_alloc_lt _ _ _ (Array.getElem?_eq_some_iff.1 p4).1).trans p4⟩
  have h3 := h2.put hk (fun j hj => by
    by_cases e : j = k
    · subst e; exact Or.inr ⟨hh, wr.heap.size, by simp, hs, Deep.blk_alloc_new _ _⟩
    · exact h2.bk j (by omega))
  simpa using h3
end Go.Proofs.Ybulkdwom
