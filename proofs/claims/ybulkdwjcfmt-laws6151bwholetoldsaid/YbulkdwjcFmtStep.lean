import Derived.Test.YbulkdwjcFmtModel
import Derived.Test.YbulkdwjcFmtTk
namespace Go.Proofs.YbulkdwjcFmt
open Go Go.RowKit Go.Extern.Stop Go.Stop Go.Extern
set_option linter.unusedVariables false

def sentV (pend : Bool) (X : Nat) : Value := if pend then .slice (some ⟨X, 0, none⟩) 1 1 else .slice none 0 0
def innerV (LG SB : Nat) (e f : Bool) : Value :=
  if e then .iface 67 (.agg #[.pointer (some ⟨LG, 0, none⟩), .bool f, .iface 106 (.pointer (some ⟨SB, 0, none⟩))]) else .iface 63 (.agg #[.pointer (some ⟨LG, 0, none⟩), .bool f, .iface 106 (.pointer (some ⟨SB, 0, none⟩))])

/-- takeAll has stopped at step m ahead of its taking: a message pends, the step is no expectation. -/
structure Stopped (B LG R : Nat) (st : List (Bool × Bool × Bool)) (pre : ByteArray) (first : Int) (sent : Value) (w : World) (k : Nat) (x : Nat) (wr : World) : Prop where
  keep : Keep B LG R w wr
  log : ∃ v, wr.heap[LG]? = some (.cells #[v] 57 (0, 0)) ∧ wr.ownsRow B 9 1 v k (labels st pre first k)
  run : wr.heap[R]? = some (.cells (runC (label st pre first k) sent) 92 (0, 0))
  err : ∃ t, wr.heap[x]? = some (.cells #[.string t] 108 (0, 0))
  new : B ≤ x

theorem keep_set {B x y : Nat} {w w1 w2 : World} {a : Addr} {u : Value} (h : Keep B x y w w1) (ha : a.block = y) (h2 : Keep B x x (w1.setCell a u) w2) : Keep B x y w w2 :=
  (h.setCell (Or.inr (Or.inl ha)) u).trans h2.wide

/-- ONE STEP TAKEN. -/
theorem take_step (F : Interp) (B LG R SB X Y : Nat) (st : List (Bool × Bool × Bool)) (pre : ByteArray) (first : Int) (pend e f : Bool) (k : Nat) (w w1 : World)
    (hF : F.answers w.tape) (hBw : B ≤ w.heap.size) (hLG : LG < B) (hR : R < B) (hne : LG ≠ R) (hk : k < 8192)
    (hX : pend = true → X < B ∧ X ≠ LG ∧ X ≠ R ∧ w.cell? ⟨X, 0, none⟩ = some (.slice (some ⟨Y, 0, none⟩) 1 1)) (hY : pend = true → Y < B ∧ Y ≠ LG ∧ Y ≠ R ∧ w.cell? ⟨Y, 0, none⟩ = some (.int .u8 1))
    (hi : Inv B LG R st pre first (sentV pend X) w k w1) :
    Calls Ybaf.prog 21 #[.pointer (some ⟨R, 0, none⟩), .string (label st pre first k), innerV LG SB e f] w1 fun en w' =>
      (pend = true ∧ e = false ∧ ∃ x, en = .returned (.iface 106 (.pointer (some ⟨x, 0, none⟩))) ∧ Stopped B LG R st pre first (sentV pend X) w k x w') ∨
      ((pend = true → e = true) ∧ en = .returned (if f then .iface 106 (.pointer (some ⟨SB, 0, none⟩)) else .nilIface) ∧ Inv B LG R st pre first (sentV pend X) w (k + 1) w') := by
  obtain ⟨keep, ⟨v, hv, hown⟩, run⟩ := hi
  have hs := keep.size
  obtain ⟨c8, c9, c10, f8, _⟩ := run_cells run
  have close : ∀ w' v', w'.heap[LG]? = some (.cells #[v'] 57 (0, 0)) → w'.ownsRow B 9 1 v' (k + 1) (labels st pre first k ++ [.string (label st pre first k)]) → Keep B LG LG (w1.setCell ⟨R, 8, none⟩ (.string (label st pre first k))) w' → Inv B LG R st pre first (sentV pend X) w (k + 1) w' := by
    intro w' v' q1 q2 q3
    refine ⟨keep_set keep rfl q3, ⟨v', q1, by rw [labels_succ]; exact q2⟩, ?_⟩
    rw [q3.block R hR hne.symm hne.symm]
    exact run_set run _
  cases e with
  | true =>
    refine (tk_expect B LG R SB f _ _ v k _ w1 (by omega) hLG hR hne hk hv c8 f8 hown).mono ?_
    rintro en w' ⟨he, v', q1, q2, q3⟩
    exact Or.inr ⟨fun _ => rfl, he, close w' v' q1 q2 q3⟩
  | false =>
    cases pend with
    | false =>
      refine (tk_plain B LG R SB f _ _ v k _ w1 (by omega) hLG hR hne hk hv c8 f8 hown c9 c10).mono ?_
      rintro en w' ⟨he, v', q1, q2, q3⟩
      exact Or.inr ⟨(fun h => by cases h), he, close w' v' q1 q2 q3⟩
    | true =>
      obtain ⟨x1, x2, x3, x4⟩ := hX rfl
      obtain ⟨y1, y2, y3, y4⟩ := hY rfl
      have cX : w1.cell? ⟨X, 0, none⟩ = some (.slice (some ⟨Y, 0, none⟩) 1 1) := (World.cell?_of_block (a := ⟨X, 0, none⟩) (keep.block X x1 x2 x3)).trans x4
      have cY : w1.cell? ⟨Y, 0, none⟩ = some (.int .u8 1) := (World.cell?_of_block (a := ⟨Y, 0, none⟩) (keep.block Y y1 y2 y3)).trans y4
      refine (tk_pending F LG R SB X Y f _ _ w1 (by rw [keep.tape]; exact hF) c8 f8 c9 cX cY).mono ?_
      rintro en w' ⟨he, O, t, rfl⟩
      refine Or.inl ⟨rfl, rfl, _, he, ?_, ⟨v, ?_, ?_⟩, ?_, ⟨t, ?_⟩, by omega⟩
      · exact (((keep.setCell (Or.inr (Or.inl rfl)) _).alloc (by simp [World.setCell]; omega) _).alloc (by simp [World.setCell]; omega) _).drew
      · show (((w1.setCell ⟨R, 8, none⟩ _).alloc O).alloc _).heap[LG]? = _
        rw [Deep.blk_alloc_lt _ _ _ (by simp [World.setCell]; omega), Deep.blk_alloc_lt _ _ _ (by simp [World.setCell]; omega), Below.heap_setCell _ _ _ _ hne]
        exact hv
      · exact (((ownsRow_setCell_below hown hR _).alloc _).alloc _).drew
      · show (((w1.setCell ⟨R, 8, none⟩ _).alloc O).alloc _).heap[R]? = _
        rw [Deep.blk_alloc_lt _ _ _ (by simp [World.setCell]; omega), Deep.blk_alloc_lt _ _ _ (by simp [World.setCell]; omega)]
        exact run_set run _
      · show (((w1.setCell ⟨R, 8, none⟩ _).alloc O).alloc _).heap[w1.heap.size + 1]? = _
        have := Deep.blk_alloc_new ((w1.setCell ⟨R, 8, none⟩ (.string (label st pre first k))).alloc O) (.cells #[.string t] 108)
        simpa [World.setCell] using this

theorem take_step' (F : Interp) (B LG R SB X Y : Nat) (st : List (Bool × Bool × Bool)) (pre : ByteArray) (first : Int) (pend e f : Bool) (k : Nat) (w w1 : World) (T : TypeId) (x : Value) (hin : innerV LG SB e f = .iface T x)
    (hF : F.answers w.tape) (hBw : B ≤ w.heap.size) (hLG : LG < B) (hR : R < B) (hne : LG ≠ R) (hk : k < 8192)
    (hX : pend = true → X < B ∧ X ≠ LG ∧ X ≠ R ∧ w.cell? ⟨X, 0, none⟩ = some (.slice (some ⟨Y, 0, none⟩) 1 1)) (hY : pend = true → Y < B ∧ Y ≠ LG ∧ Y ≠ R ∧ w.cell? ⟨Y, 0, none⟩ = some (.int .u8 1))
    (hi : Inv B LG R st pre first (sentV pend X) w k w1) :
    Calls Ybaf.prog 21 #[.pointer (some ⟨R, 0, none⟩), .string (label st pre first k), .iface T x] w1 fun en w' =>
      (pend = true ∧ e = false ∧ ∃ x, en = .returned (.iface 106 (.pointer (some ⟨x, 0, none⟩))) ∧ Stopped B LG R st pre first (sentV pend X) w k x w') ∨
      ((pend = true → e = true) ∧ en = .returned (if f then .iface 106 (.pointer (some ⟨SB, 0, none⟩)) else .nilIface) ∧ Inv B LG R st pre first (sentV pend X) w (k + 1) w') := by
  rw [← hin]; exact take_step F B LG R SB X Y st pre first pend e f k w w1 hF hBw hLG hR hne hk hX hY hi

/-- The state stands behind new blocks. -/
theorem Inv.later {B LG R : Nat} {st : List (Bool × Bool × Bool)} {pre : ByteArray} {first : Int} {sent : Value} {w wr wx : World} {k : Nat} (h : Inv B LG R st pre first sent w k wr) (hB : B ≤ w.heap.size) (hLG : LG < B) (hR : R < B) (hb : Below wr.heap.size wr wx) : Inv B LG R st pre first sent w k wx := by
  have hs := h.keep.size
  obtain ⟨v, h1, h2⟩ := h.log
  refine ⟨h.keep.trans (.ofBelow (hb.mono (by omega))), ⟨v, (hb.block LG (by omega)).trans h1, ?_⟩, (hb.block R (by omega)).trans h.run⟩
  obtain ⟨q1, q2⟩ := h2
  refine ⟨q1, ?_⟩
  rcases q2 with q2 | ⟨g, cap, cur, hv, hg, hh, r⟩
  · exact Or.inl q2
  · exact Or.inr ⟨g, cap, cur, hv, hg, (hb.block g (lt_of_block hh)).trans hh, r⟩
end Go.Proofs.YbulkdwjcFmt
