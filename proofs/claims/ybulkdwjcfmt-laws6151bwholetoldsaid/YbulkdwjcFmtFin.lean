import Derived.Test.YbulkdwjcFmtAll
import Derived.LaidEql
namespace Go.Proofs.YbulkdwjcFmt
open Go Go.RowKit Go.Extern.Stop Go.Stop Go.Extern
set_option linter.unusedVariables false

def senS : ByteArray := ⟨#[122, 122, 32, 115, 116, 97, 110, 100, 45, 105, 110, 32, 102, 97, 105, 108, 117, 114, 101]⟩

/-- What the law finds behind its second loop. LG, R, S: the log's variable, the run, the sentinel. -/
structure Fin (w : World) (LG R S X Y : Nat) (pend : Bool) (v want : Value) (s : ByteArray) (kind : Int) (wx : World) : Prop where
  below : Below w.heap.size w wx
  logs : ∃ vl L ys B1 B2, wx.heap[LG]? = some (.cells #[vl] 57 (0, 0)) ∧ wx.ownsRow B1 9 1 vl L (List.map Value.string ys) ∧ wx.ownsRow B2 9 1 want L (List.map Value.string ys) ∧ L ≤ 8192
  run : wx.heap[R]? = some (.cells (runC s (sentV pend X)) 92 (0, 0))
  sen : wx.heap[S]? = some (.cells #[.string senS] 108 (0, 0))
  pends : pend = true → wx.cell? ⟨X, 0, none⟩ = some (.slice (some ⟨Y, 0, none⟩) 1 1) ∧ wx.cell? ⟨Y, 0, none⟩ = some (.int .u8 1)
  err : (kind = 0 ∧ v = .nilIface) ∨ (kind = 1 ∧ v = .iface 106 (.pointer (some ⟨S, 0, none⟩))) ∨ (kind = 2 ∧ ∃ x, v = .iface 106 (.pointer (some ⟨x, 0, none⟩)) ∧ x ≠ S ∧ ∃ t, wx.heap[x]? = some (.cells #[.string t] 108 (0, 0)))

/-- HOW takeAll HAS ENDED, by the value that it handed back. -/
def EndsV (B LG R SB X : Nat) (st : List (Bool × Bool × Bool)) (pre : ByteArray) (first : Int) (pend : Bool) (w : World) (n : Nat) (v : Value) (w' : World) : Prop :=
  ∃ m, m ≤ n ∧ (∀ j, j < m → okAt st pend j) ∧
    ((m = n ∧ v = .nilIface ∧ Inv B LG R st pre first (sentV pend X) w m w') ∨
     (m < n ∧ pend = true ∧ (st.getD m default).2.1 = false ∧ ∃ x, v = .iface 106 (.pointer (some ⟨x, 0, none⟩)) ∧ Stopped B LG R st pre first (sentV pend X) w m x w') ∨
     (m < n ∧ (pend = true → (st.getD m default).2.1 = true) ∧ (st.getD m default).2.2 = true ∧ v = .iface 106 (.pointer (some ⟨SB, 0, none⟩)) ∧ Inv B LG R st pre first (sentV pend X) w (m + 1) w'))

theorem ends_v {B LG R SB X : Nat} {st : List (Bool × Bool × Bool)} {pre : ByteArray} {first : Int} {pend : Bool} {w : World} {n : Nat} {en : Ending} {w' : World} (h : Ends B LG R SB X st pre first pend w n en w') :
    ∃ v, en = .returned v ∧ EndsV B LG R SB X st pre first pend w n v w' ∧ Keep B LG R w w' ∧ (v = .nilIface ∨ ∃ T x, v = .iface T x) := by
  obtain ⟨m, h1, h2, h3⟩ := h
  rcases h3 with ⟨a, b, c⟩ | ⟨a, b, c, x, d, e⟩ | ⟨a, b, c, d, e⟩
  · exact ⟨_, b, ⟨m, h1, h2, Or.inl ⟨a, rfl, c⟩⟩, c.keep, Or.inl rfl⟩
  · exact ⟨_, d, ⟨m, h1, h2, Or.inr (Or.inl ⟨a, b, c, x, rfl, e⟩)⟩, e.keep, Or.inr ⟨_, _, rfl⟩⟩
  · exact ⟨_, d, ⟨m, h1, h2, Or.inr (Or.inr ⟨a, b, c, rfl, e⟩)⟩, e.keep, Or.inr ⟨_, _, rfl⟩⟩

theorem labels_map (st : List (Bool × Bool × Bool)) (pre : ByteArray) (first : Int) (k : Nat) : labels st pre first k = List.map Value.string ((List.range k).map (label st pre first)) := by
  simp [labels]

theorem own_later {w wx : World} {B : Nat} {v : Value} {n : Nat} {xs : List Value} (h2 : w.ownsRow B 9 1 v n xs) (hb : Below w.heap.size w wx) : wx.ownsRow B 9 1 v n xs := by
  obtain ⟨q1, q2⟩ := h2
  refine ⟨q1, ?_⟩
  rcases q2 with q2 | ⟨g, cap, cur, hv, hg, hh, r⟩
  · exact Or.inl q2
  · exact Or.inr ⟨g, cap, cur, hv, hg, (hb.block g (lt_of_block hh)).trans hh, r⟩

/-- What is known at the loop's head. -/
structure Ctx (w W w4 wx : World) (LG R S X Y n k : Nat) (st : List (Bool × Bool × Bool)) (pre : ByteArray) (first : Int) (pend : Bool) (v : Value) : Prop where
  hn : n ≤ 4096
  hbw : Below w.heap.size w wx
  hsen : wx.heap[S]? = some (.cells #[.string senS] 108 (0, 0))
  hLG : LG < w4.heap.size
  hR : R < w4.heap.size
  hSW : S < W.heap.size
  hpe : pend = true → wx.cell? ⟨X, 0, none⟩ = some (.slice (some ⟨Y, 0, none⟩) 1 1) ∧ wx.cell? ⟨Y, 0, none⟩ = some (.int .u8 1)
  hE : EndsV W.heap.size LG R S X st pre first pend W n v w4
  hb4 : Below w4.heap.size w4 wx
  hok : ∀ j, j < k → okAt st pend j
  hS4 : S < w4.heap.size
  hw4 : w.heap.size ≤ w4.heap.size
  hXY : pend = true → X < w4.heap.size ∧ Y < w4.heap.size

theorem Ctx.move {w W w4 wy wx : World} {LG R S X Y n k : Nat} {st : List (Bool × Bool × Bool)} {pre : ByteArray} {first : Int} {pend : Bool} {v : Value} (c : Ctx w W w4 wy LG R S X Y n k st pre first pend v) (hb : Below w4.heap.size w4 wx) : Ctx w W w4 wx LG R S X Y n k st pre first pend v := by
  have b4 : Below w.heap.size w w4 := ⟨c.hb4.os.symm.trans c.hbw.os, c.hb4.tape.symm.trans c.hbw.tape, c.hb4.output.symm.trans c.hbw.output, c.hw4, fun j hj => (c.hb4.block j (Nat.lt_of_lt_of_le hj c.hw4)).symm.trans (c.hbw.block j hj)⟩
  refine ⟨c.hn, b4.trans (hb.mono c.hw4), ((hb.block S c.hS4).trans (c.hb4.block S c.hS4).symm).trans c.hsen, c.hLG, c.hR, c.hSW, fun h => ?_, c.hE, hb, c.hok, c.hS4, c.hw4, c.hXY⟩
  obtain ⟨h1, h2⟩ := c.hXY h
  obtain ⟨h3, h4⟩ := c.hpe h
  exact ⟨((hb.cell (by exact h1)).trans (c.hb4.cell (by exact h1)).symm).trans h3, ((hb.cell (by exact h2)).trans (c.hb4.cell (by exact h2)).symm).trans h4⟩
theorem Ctx.step {w W w4 wx : World} {LG R S X Y n k : Nat} {st : List (Bool × Bool × Bool)} {pre : ByteArray} {first : Int} {pend : Bool} {v : Value} (c : Ctx w W w4 wx LG R S X Y n k st pre first pend v) (h : okAt st pend k) : Ctx w W w4 wx LG R S X Y n (k + 1) st pre first pend v :=
  ⟨c.hn, c.hbw, c.hsen, c.hLG, c.hR, c.hSW, c.hpe, c.hE, c.hb4, fun j hj => by
    rcases Nat.lt_succ_iff_lt_or_eq.1 hj with h' | h'
    · exact c.hok j h'
    · subst h'; exact h, c.hS4, c.hw4, c.hXY⟩

section
variable {w W w4 wx : World} {LG R S X Y n k : Nat} {st : List (Bool × Bool × Bool)} {pre : ByteArray} {first : Int} {pend : Bool} {v want : Value}

/-- The loop has come to its end. -/
theorem fin_all (cx : Ctx w W w4 wx LG R S X Y n k st pre first pend v) (hk : k = n) (hw : wx.ownsRow w4.heap.size 9 1 want k (labels st pre first k)) : Fin w LG R S X Y pend v want (stepS st pre first k) 0 wx := by
  obtain ⟨hn, hbw, hsen, hLG, hR, hSW, hpe, hE, hb4, hok, _, _, _⟩ := cx
  obtain ⟨m, h1, h2, h3⟩ := hE
  rcases h3 with ⟨a, b, c⟩ | ⟨a, b, c, x, d, e⟩ | ⟨a, b, c, d, e⟩
  · obtain ⟨vl, l1, l2⟩ := c.log
    obtain rfl : m = k := by omega
    rw [labels_map] at l2 hw
    exact ⟨hbw, ⟨vl, m, _, _, _, (hb4.block LG hLG).trans l1, own_later l2 hb4, hw, by omega⟩, (hb4.block R hR).trans c.run, hsen, hpe, Or.inl ⟨rfl, b⟩⟩
  · have := (hok m (by omega)).1 b; rw [c] at this; cases this
  · have := (hok m (by omega)).2; rw [c] at this; cases this

/-- It was left ahead of a step that is no expectation. -/
theorem fin_stop (cx : Ctx w W w4 wx LG R S X Y n k st pre first pend v) (hk : k < n) (hp : pend = true) (he : (st.getD k default).2.1 = false) (hw : wx.ownsRow w4.heap.size 9 1 want k (labels st pre first k)) : Fin w LG R S X Y pend v want (label st pre first k) 2 wx := by
  obtain ⟨hn, hbw, hsen, hLG, hR, hSW, hpe, hE, hb4, hok, _, _, _⟩ := cx
  obtain ⟨m, h1, h2, h3⟩ := hE
  have hnk : ¬ okAt st pend k := fun h => by have := h.1 hp; rw [he] at this; cases this
  rcases h3 with ⟨a, b, c⟩ | ⟨a, b, c, x, d, e⟩ | ⟨a, b, c, d, e⟩
  · exact absurd (h2 k (by omega)) hnk
  · have hmk : m = k := by
      rcases Nat.lt_trichotomy m k with h | h | h
      · have := (hok m h).1 b; rw [c] at this; cases this
      · exact h
      · exact absurd (h2 k h) hnk
    subst hmk
    obtain ⟨vl, l1, l2⟩ := e.log
    obtain ⟨t, ht⟩ := e.err
    have hnew := e.new
    rw [labels_map] at l2 hw
    exact ⟨hbw, ⟨vl, m, _, _, _, (hb4.block LG hLG).trans l1, own_later l2 hb4, hw, by omega⟩, (hb4.block R hR).trans e.run, hsen, hpe, Or.inr (Or.inr ⟨rfl, x, d, by omega, t, (hb4.block x (lt_of_block ht)).trans ht⟩)⟩
  · rcases Nat.lt_trichotomy m k with h | h | h
    · have := (hok m h).2; rw [c] at this; cases this
    · subst h; have := b hp; rw [he] at this; cases this
    · exact absurd (h2 k h) hnk

/-- It was left behind a step that fails. -/
theorem fin_fail (cx : Ctx w W w4 wx LG R S X Y n k st pre first pend v) (hk : k < n) (he : pend = true → (st.getD k default).2.1 = true) (hf : (st.getD k default).2.2 = true) (hw : wx.ownsRow w4.heap.size 9 1 want (k + 1) (labels st pre first (k + 1))) : Fin w LG R S X Y pend v want (label st pre first k) 1 wx := by
  obtain ⟨hn, hbw, hsen, hLG, hR, hSW, hpe, hE, hb4, hok, _, _, _⟩ := cx
  obtain ⟨m, h1, h2, h3⟩ := hE
  have hnk : ¬ okAt st pend k := fun h => by have := h.2; rw [hf] at this; cases this
  rcases h3 with ⟨a, b, c⟩ | ⟨a, b, c, x, d, e⟩ | ⟨a, b, c, d, e⟩
  · exact absurd (h2 k (by omega)) hnk
  · rcases Nat.lt_trichotomy m k with h | h | h
    · have := (hok m h).1 b; rw [c] at this; cases this
    · subst h; have := he b; rw [c] at this; cases this
    · exact absurd (h2 k h) hnk
  · have hmk : m = k := by
      rcases Nat.lt_trichotomy m k with h | h | h
      · have := (hok m h).2; rw [c] at this; cases this
      · exact h
      · exact absurd (h2 k h) hnk
    subst hmk
    obtain ⟨vl, l1, l2⟩ := e.log
    rw [labels_map] at l2 hw
    exact ⟨hbw, ⟨vl, m + 1, _, _, _, (hb4.block LG hLG).trans l1, own_later l2 hb4, hw, by omega⟩, (hb4.block R hR).trans e.run, hsen, hpe, Or.inr (Or.inl ⟨rfl, d⟩)⟩
end

/-- A row of strings, cell by cell. -/
theorem own_cells {w : World} {B : Nat} {v : Value} {L : Nat} {ys : List ByteArray} (h : w.ownsRow B 9 1 v L (List.map Value.string ys)) (hL : 0 < L) :
    ∃ g cap, v = .slice (some ⟨g, 0, none⟩) L cap ∧ ys.length = L ∧ ∀ j, j < ys.length → w.cell? ⟨g, 0 + j, none⟩ = some (.string (ys.getD j ByteArray.empty)) := by
  obtain ⟨h1, h2⟩ := h
  have hl : ys.length = L := by simpa using h1
  rcases h2 with ⟨_, h0⟩ | ⟨g, cap, cur, hv, hg, hh, hc1, hc2, hs, ht⟩
  · omega
  · refine ⟨g, cap, hv, hl, fun j hj => ?_⟩
    have hj2 : (cur.toList.take (L * 1))[j]? = some (.string (ys.getD j ByteArray.empty)) := by
      rw [ht, List.getElem?_map, List.getElem?_eq_getElem hj]
      simp [List.getD, List.getElem?_eq_getElem hj]
    rw [List.getElem?_take_of_lt (by omega)] at hj2
    simp only [World.cell?, hh]
    simpa using hj2

/-- slices.Equal at two rows that hold the same strings. -/
theorem equal_logs {w : World} {B1 B2 : Nat} {v1 v2 : Value} {L : Nat} {ys : List ByteArray} (h1 : w.ownsRow B1 9 1 v1 L (List.map Value.string ys)) (h2 : w.ownsRow B2 9 1 v2 L (List.map Value.string ys)) (hL : L ≤ 8192) :
    Calls Ybaf.prog 15 #[v1, v2] w fun e w' => e = .returned (.bool true) ∧ ∃ q, w' = w.drewN q := by
  by_cases h0 : L = 0
  · subst h0
    have f1 : ∃ a c, v1 = .slice a 0 c := by
      rcases Joins.ownsRow_forms h1 with ⟨rfl, _⟩ | ⟨g, cap, rfl⟩
      · exact ⟨_, _, rfl⟩
      · exact ⟨_, _, rfl⟩
    have f2 : ∃ a c, v2 = .slice a 0 c := by
      rcases Joins.ownsRow_forms h2 with ⟨rfl, _⟩ | ⟨g, cap, rfl⟩
      · exact ⟨_, _, rfl⟩
      · exact ⟨_, _, rfl⟩
    obtain ⟨a1, c1, rfl⟩ := f1
    obtain ⟨a2, c2, rfl⟩ := f2
    refine (equal_empty a1 a2 c1 0 c2 w (by omega)).mono ?_
    rintro e w' ⟨rfl, rfl⟩
    exact ⟨rfl, 0, rfl⟩
  · obtain ⟨g1, c1, rfl, hl, hc1⟩ := own_cells h1 (by omega)
    obtain ⟨g2, c2, rfl, _, hc2⟩ := own_cells h2 (by omega)
    refine (equal_strings g1 0 L c1 g2 0 L c2 ys ys w (by omega) (by omega) (by omega) (by omega) hc1 hc2).mono ?_
    rintro e w' ⟨rfl, hq⟩
    exact ⟨by simp, hq⟩

theorem nil57 (w : World) : (binOp .eql 57 (.slice none 0 0) (.slice none 0 0)).run Ybaf.prog w = .ok (.bool true) w := by kernel_rfl
theorem nil77 (w : World) : (binOp .eql 77 (.slice none 0 0) (.slice none 0 0)).run Ybaf.prog w = .ok (.bool true) w := by kernel_rfl
theorem nil71 (w : World) : (binOp .eql 71 (.slice none 0 0) (.slice none 0 0)).run Ybaf.prog w = .ok (.bool true) w := by kernel_rfl
theorem nil90 (w : World) : (binOp .eql 90 (.slice none 0 0) (.slice none 0 0)).run Ybaf.prog w = .ok (.bool true) w := by kernel_rfl
theorem info106 : (Ybaf.prog.info? 106).map (·.comparable) = some true := by kernel_rfl
theorem info108 : (Ybaf.prog.info? 108).map (·.size) = some 1 := by kernel_rfl

theorem neq_same (S : Nat) (w : World) : (binOp .neq 29 (.iface 106 (.pointer (some ⟨S, 0, none⟩))) (.iface 106 (.pointer (some ⟨S, 0, none⟩)))).run Ybaf.prog w = .ok (.bool false) w := by
  obtain ⟨i, hi, hc⟩ := Option.map_eq_some_iff.1 info106
  obtain ⟨j, hj, _⟩ := Option.map_eq_some_iff.1 info108
  simp only [binOp]
  simp [Op.equal, Op.maxDepth, run_equalIn_iface_ptr_same w 9998 ⟨S, 0, none⟩ Ybaf.underlying29 Ybaf.underlying106 hi hc hj]

theorem eql_other {S x : Nat} {w : World} {t1 t2 : ByteArray} (hne : x ≠ S) (h1 : w.heap[x]? = some (.cells #[.string t1] 108 (0, 0))) (h2 : w.heap[S]? = some (.cells #[.string t2] 108 (0, 0))) :
    (binOp .eql 29 (.iface 106 (.pointer (some ⟨x, 0, none⟩))) (.iface 106 (.pointer (some ⟨S, 0, none⟩)))).run Ybaf.prog w = .ok (.bool false) w := by
  obtain ⟨i, hi, hc⟩ := Option.map_eq_some_iff.1 info106
  obtain ⟨j, hj, hs⟩ := Option.map_eq_some_iff.1 info108
  exact run_eql_iface_ptr_other w Ybaf.underlying29 Ybaf.underlying106 hi hc hj (by rw [hs]; decide) (fun e => hne (congrArg Addr.block e)) h1 h2
end Go.Proofs.YbulkdwjcFmt
