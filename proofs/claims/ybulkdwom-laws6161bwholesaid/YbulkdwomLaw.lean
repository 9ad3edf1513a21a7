import Derived.Test.YbulkdwomStep
import Derived.Deep.DeepCutAuto
namespace Go.Proofs.Ybulkdwom
open Go Go.RowKit
set_option linter.unusedVariables false

theorem ta33 (v : Value) (w : World) : (Instr.typeAssert (.iface 33 v) 20 33 true).run Yba.prog w = .ok (.tuple #[v, .bool true]) w := by kernel_rfl

theorem kept2 {w wr W1 : World} {db off k n : Nat} {x : Int} (ho : ∀ j, j < wr.heap.size → j ≠ w.heap.size + 1 + 1 → W1.heap[j]? = wr.heap[j]?) (hsz : w.heap.size + 1 + 1 < wr.heap.size) (hdb : db < w.heap.size) (b0 : wr.cell? ⟨db, off + k * 3, none⟩ = some (.int .i64 x))
    (hv : wr.cell? ⟨w.heap.size + 1, 0, none⟩ = some (.slice (some ⟨w.heap.size, 0, none⟩) n n)) (hr0 : wr.cell? ⟨w.heap.size, k * 2, none⟩ = some (.int .i64 0)) (hr1 : wr.cell? ⟨w.heap.size, k * 2 + 1, none⟩ = some (.pointer none))
    (hr2 : wr.frozen? ⟨w.heap.size, k * 2, none⟩ = false) (hr3 : wr.frozen? ⟨w.heap.size, k * 2 + 1, none⟩ = false) :
    W1.cell? ⟨db, off + k * 3, none⟩ = some (.int .i64 x) ∧ W1.cell? ⟨w.heap.size + 1, 0, none⟩ = some (.slice (some ⟨w.heap.size, 0, none⟩) n n) ∧ W1.cell? ⟨w.heap.size, k * 2, none⟩ = some (.int .i64 0) ∧ W1.cell? ⟨w.heap.size, k * 2 + 1, none⟩ = some (.pointer none) ∧
    W1.frozen? ⟨w.heap.size, k * 2, none⟩ = false ∧ W1.frozen? ⟨w.heap.size, k * 2 + 1, none⟩ = false := by
  have c : ∀ a : Addr, a.block < wr.heap.size → a.block ≠ w.heap.size + 1 + 1 → W1.cell? a = wr.cell? a := fun a h1 h2 => by simp only [World.cell?, ho a.block h1 h2]
  have f : ∀ a : Addr, a.block < wr.heap.size → a.block ≠ w.heap.size + 1 + 1 → W1.frozen? a = wr.frozen? a := fun a h1 h2 => by simp only [World.frozen?, ho a.block h1 h2]
  exact ⟨(c _ (by show db < _; omega) (by show db ≠ _; omega)).trans b0, (c _ (by show _ + 1 < _; omega) (by show _ + 1 ≠ _; omega)).trans hv, (c _ (by show w.heap.size < _; omega) (by show w.heap.size ≠ _; omega)).trans hr0, (c _ (by show w.heap.size < _; omega) (by show w.heap.size ≠ _; omega)).trans hr1, (f _ (by show w.heap.size < _; omega) (by show w.heap.size ≠ _; omega)).trans hr2, (f _ (by show w.heap.size < _; omega) (by show w.heap.size ≠ _; omega)).trans hr3⟩

/-- The state behind Pop. -/
structure Popped (w : World) (db off n m : Nat) (A : Nat → Int) (Hs : Nat → Bool) (Nx : Nat → Int) (pf : Nat → Option Addr) (IT : Nat) (W : World) : Prop where
  below : Below w.heap.size w W
  hv : W.cell? ⟨w.heap.size + 1, 0, none⟩ = some (.slice (some ⟨w.heap.size, 0, none⟩) m n)
  it0 : W.cell? ⟨IT, 0, none⟩ = some (.int .i64 (A m))
  it1 : W.cell? ⟨IT, 1, none⟩ = some (.pointer (pf m))
  row : ∀ k, k < n → W.cell? ⟨w.heap.size, k * 2, none⟩ = some (.int .i64 (A k)) ∧ W.cell? ⟨w.heap.size, k * 2 + 1, none⟩ = some (.pointer (pf k))
  bs : ∀ k, k < n → W.cell? ⟨w.heap.size + 1 + 1, k, none⟩ = some (.pointer (pf k))
  inp : InAt W db off n A Hs Nx
  bk : ∀ k, k < n → (Hs k = false ∧ pf k = none) ∨ (Hs k = true ∧ ∃ b, pf k = some ⟨b, 0, none⟩ ∧ W.cell? ⟨b, 0, none⟩ = some (.slice none 0 0) ∧ W.cell? ⟨b, 1, none⟩ = some (.int .i64 (Nx k)))

theorem popped {w wr : World} {db off n m : Nat} {A : Nat → Int} {Hs : Nat → Bool} {Nx : Nat → Int} {pf : Nat → Option Addr} (h : Fill w n A Hs Nx pf n wr) (hin : InAt w db off n A Hs Nx) (hm : m < n) :
    Popped w db off n m A Hs Nx pf (wr.heap.size + 1) (((wr.alloc (.cells #[.int .i64 (A m), .pointer (pf m)] 33)).setCell ⟨w.heap.size + 1, 0, none⟩ (.slice (some ⟨w.heap.size, 0, none⟩) m n)).alloc (.cells #[.int .i64 (A m), .pointer (pf m)] 33)) := by
  have hsz := h.bs.lt
  have hb := h.below
  have hbs := hb.size
  generalize ho : Obj.cells #[.int .i64 (A m), .pointer (pf m)] 33 = o
  have hsw : ((wr.alloc o).setCell ⟨w.heap.size + 1, 0, none⟩ (.slice (some ⟨w.heap.size, 0, none⟩) m n)).heap.size = wr.heap.size + 1 := by simp [World.setCell]
  have hB : Below w.heap.size w (((wr.alloc o).setCell ⟨w.heap.size + 1, 0, none⟩ (.slice (some ⟨w.heap.size, 0, none⟩) m n)).alloc o) := ((hb.alloc hbs o).setCell (by simp) _).alloc (by rw [hsw]; omega) o
  have hblk : ∀ j, j < wr.heap.size → j ≠ w.heap.size + 1 → (((wr.alloc o).setCell ⟨w.heap.size + 1, 0, none⟩ (.slice (some ⟨w.heap.size, 0, none⟩) m n)).alloc o).heap[j]? = wr.heap[j]? := fun j h1 h2 =>
    (Deep.blk_alloc_lt _ _ _ (by rw [hsw]; omega)).trans ((Deep.blk_setCell_other _ _ _ _ (by simpa using h2)).trans (Deep.blk_alloc_lt _ _ _ h1))
  have hcell : ∀ a : Addr, a.block < wr.heap.size → a.block ≠ w.heap.size + 1 → (((wr.alloc o).setCell ⟨w.heap.size + 1, 0, none⟩ (.slice (some ⟨w.heap.size, 0, none⟩) m n)).alloc o).cell? a = wr.cell? a := fun a h1 h2 => by simp only [World.cell?, hblk a.block h1 h2]
  have hnew := Deep.blk_alloc_new ((wr.alloc o).setCell ⟨w.heap.size + 1, 0, none⟩ (.slice (some ⟨w.heap.size, 0, none⟩) m n)) o
  rw [hsw] at hnew
  refine ⟨hB, ?_, ?_, ?_, fun k hk => ⟨?_, ?_⟩, fun k hk => ?_, fun k hk => ?_, fun k hk => ?_⟩
  · have h1 : (wr.alloc o).rowIs (w.heap.size + 1) 24 1 (fun _ => .slice (some ⟨w.heap.size, 0, none⟩) n n) := by
      refine ⟨_, (Deep.blk_alloc_lt wr o (w.heap.size + 1) (by omega)).trans h.hv, rfl, fun i hi => ?_⟩
      match i, hi with
      | 0, _ => rfl
    have h2 := ((h1.set 0 (.slice (some ⟨w.heap.size, 0, none⟩) m n)).alloc o).cell (i := 0) (by omega)
    simpa using h2
  · subst ho; simp only [World.cell?, hnew]; rfl
  · subst ho; simp only [World.cell?, hnew]; rfl
  · rw [hcell _ (by show w.heap.size < _; omega) (by show w.heap.size ≠ _; omega), h.row.cell (by omega)]
    simp only [slotF, if_pos (show k * 2 < 2 * n by omega), if_pos (show k * 2 % 2 = 0 by omega), show k * 2 / 2 = k by omega]
  · rw [hcell _ (by show w.heap.size < _; omega) (by show w.heap.size ≠ _; omega), h.row.cell (by omega)]
    simp only [slotF, if_pos (show k * 2 + 1 < 2 * n by omega), if_neg (show ¬ (k * 2 + 1) % 2 = 0 by omega), show (k * 2 + 1) / 2 = k by omega]
  · rw [hcell _ (by exact hsz) (by show _ + 1 + 1 ≠ _; omega), h.bs.cell hk, if_pos hk]
  · obtain ⟨q0, q1, q2⟩ := hin k hk
    exact ⟨(hB.cell (World.block_lt_of_cell? _ _ q0)).trans q0, (hB.cell (World.block_lt_of_cell? _ _ q1)).trans q1, (hB.cell (World.block_lt_of_cell? _ _ q2)).trans q2⟩
  · rcases h.bk k hk with h' | ⟨p1, b, p2, p3, p4⟩
    · exact Or.inl h'
    · have p5 := (hblk b (Array.getElem?_eq_some_iff.1 p4).1 (by omega)).trans p4
      exact Or.inr ⟨p1, b, p2, by simp only [World.cell?, p5]; rfl, by simp only [World.cell?, p5]; rfl⟩

theorem neq_some (b : Nat) (w : World) : (binOp .neq 26 (.pointer (some ⟨b, 0, none⟩)) (.pointer none)).run Yba.prog w = .ok (.bool true) w := by kernel_rfl
theorem neq_nil (w : World) : (binOp .neq 29 (.slice none 0 0) (.slice none 0 0)).run Yba.prog w = .ok (.bool false) w := by kernel_rfl

set_option maxRecDepth 100000 in
set_option maxHeartbeats 800000 in
theorem law_walk (db off n cap : Nat) (A : Nat → Int) (Hs : Nat → Bool) (Nx : Nat → Int) (w : World) (hn : n ≤ 1048576) (h0 : 0 < n)
    (hin : InAt w db off n A Hs Nx) :
    Calls Yba.prog 3 #[.slice (some ⟨db, off, none⟩) n cap] w fun e w' => e = .returned (.bool true) ∧ Below w.heap.size w w' := by
  obtain ⟨i0, hi0, hz0, hz1, hz2⟩ := info_parts info33
  obtain ⟨j0, hj0, hy0, hy1, hy2⟩ := info_parts info26
  have HIN : Hid _ := hin
  clear hin
  go_enter Yba.func3, Yba.ntmps3
  go_wp2_with (first | (at_make; refine wpList_make_any _ rfl _ _ 24 rfl 33 i0 (.agg #[.int .i64 0, .pointer none]) 2 Yba.underlying24 hi0 hz0 hz1 _ _ n rfl rfl ?c1 ?c2 ?_) | (at_make; refine wpList_make_any _ rfl _ _ 25 rfl 26 j0 (.pointer none) 1 Yba.underlying25 hj0 hy0 hy1 _ _ n rfl rfl ?c3 ?c4 ?_))
  case c1 => rw [hz2]; omega
  case c2 => omega
  case c3 => rw [hy2]; omega
  case c4 => omega
  go_loopw [6] (fun a wr => ∃ (k : Nat) (pf : Nat → Option Addr), k ≤ n ∧ a = .int .i64 k ∧ Fill w n A Hs Nx pf k wr) (fun a _ => n - (intOf a).toNat)
  case atStart => exact ⟨0, fun _ => none, Nat.zero_le _, rfl, fill_start w n A Hs Nx (fun _ => none)⟩
  case round =>
    obtain ⟨k, pf, hk, rfl, hb⟩ := hrel
    by_cases hlt : k < n
    · obtain ⟨q0, q1, q2⟩ := HIN.out k hlt
      have b0 := (hb.below.cell (World.block_lt_of_cell? _ _ q0)).trans q0
      have b1 := (hb.below.cell (World.block_lt_of_cell? _ _ q1)).trans q1
      have b2 := (hb.below.cell (World.block_lt_of_cell? _ _ q2)).trans q2
      clear q0 q1 q2
      have hv : wr.cell? ⟨w.heap.size + 1, 0, none⟩ = some (.slice (some ⟨w.heap.size, 0, none⟩) n n) := by simp [World.cell?, hb.hv]
      have hsz := hb.bs.lt
      have hs0 : wr.cell? ⟨w.heap.size + 1 + 1, k, none⟩ = some (.pointer none) := by rw [hb.bs.cell hlt]; simp
      have hs1 := hb.bs.frozen k
      have hr0 : wr.cell? ⟨w.heap.size, k * 2, none⟩ = some (.int .i64 0) := by rw [hb.row.cell (by omega)]; simp [slotF]; omega
      have hr1 : wr.cell? ⟨w.heap.size, k * 2 + 1, none⟩ = some (.pointer none) := by rw [hb.row.cell (by omega)]; simp [slotF]; omega
      have hr2 := hb.row.frozen (k * 2)
      have hr3 := hb.row.frozen (k * 2 + 1)
      obtain ⟨hk', hhk⟩ : ∃ x, Hs k = x := ⟨_, rfl⟩
      rw [hhk] at b1
      have HH : Hid _ := hhk
      clear hhk
      have hdb : db < w.heap.size := World.block_lt_of_cell? _ _ (HIN.out k hlt).1
      have hns : Hid (Fill w n A Hs Nx pf k wr) := hb
      clear hb
      cases hk'
      · go_wp2
        generalize hWe : wr.setCell ⟨w.heap.size + 1 + 1, k, none⟩ (.pointer none) = W1
        have ho : ∀ j, j ≠ w.heap.size + 1 + 1 → W1.heap[j]? = wr.heap[j]? := fun j hj => by rw [← hWe]; exact Deep.blk_setCell_other _ _ _ _ (by simpa using hj)
        obtain ⟨b0, hv, hr0, hr1, hr2, hr3⟩ := kept2 (fun j _ h => ho j h) hsz hdb b0 hv hr0 hr1 hr2 hr3
        clear ho hs0 hs1 b1 b2
        go_region
        go_wp2
        go_roundw
        case rel => 
          obtain ⟨pg, hpg⟩ := fill_no hns.out hlt HH.out
          rw [hWe] at hpg
          exact ⟨k + 1, pg, by omega, by go_num, hpg⟩
        case measure => simp [intOf]; omega
      · have hs0' : ∀ o, (wr.alloc o).cell? ⟨w.heap.size + 1 + 1, k, none⟩ = some (.pointer none) := fun o => (((Below.refl _ wr).alloc (Nat.le_refl _) o).cell (by exact hsz)).trans hs0
        have hs1' : ∀ o, (wr.alloc o).frozen? ⟨w.heap.size + 1 + 1, k, none⟩ = false := fun o => (((Below.refl _ wr).alloc (Nat.le_refl _) o).frozen (by exact hsz)).trans hs1
        clear hs0 hs1
        go_wp2
        rw [← World.setCell_alloc_past _ _ _ _ (by exact hsz)]
        generalize hWe : (wr.alloc (.cells #[.slice none 0 0, .int .i64 (Nx k)] 31)).setCell ⟨w.heap.size + 1 + 1, k, none⟩ (.pointer (some ⟨wr.heap.size, 0, none⟩)) = W1
        have ho : ∀ j, j < wr.heap.size → j ≠ w.heap.size + 1 + 1 → W1.heap[j]? = wr.heap[j]? := fun j hl hj => by rw [← hWe]; exact (Deep.blk_setCell_other _ _ _ _ (by simpa using hj)).trans (Deep.blk_alloc_lt _ _ _ hl)
        obtain ⟨b0, hv, hr0, hr1, hr2, hr3⟩ := kept2 ho hsz hdb b0 hv hr0 hr1 hr2 hr3
        clear ho hs0' hs1' b1 b2
        go_region
        go_wp2
        go_roundw
        case rel => 
          obtain ⟨pg, hpg⟩ := fill_yes hns.out hlt HH.out
          rw [hWe] at hpg
          exact ⟨k + 1, pg, by omega, by go_num, hpg⟩
        case measure => simp [intOf]; omega
    · obtain rfl : n = k := by omega
      obtain ⟨m, hm⟩ : ∃ m, n = m + 1 := ⟨n - 1, by omega⟩
      have he : (n : Int) - 1 = (m : Int) := by omega
      have hmn : m < n := by omega
      have hmi : (m : Int) < (n : Int) := by omega
      have hml : (m : Int) ≤ (n : Int) := by omega
      have hsz := hb.bs.lt
      have hv : wr.cell? ⟨w.heap.size + 1, 0, none⟩ = some (.slice (some ⟨w.heap.size, 0, none⟩) n n) := by simp [World.cell?, hb.hv]
      have hvf : wr.frozen? ⟨w.heap.size + 1, 0, none⟩ = false := by simp [World.frozen?, hb.hv]
      have hv' : ∀ o, (wr.alloc o).cell? ⟨w.heap.size + 1, 0, none⟩ = some (.slice (some ⟨w.heap.size, 0, none⟩) n n) := fun o => (((Below.refl _ wr).alloc (Nat.le_refl _) o).cell (by show _ + 1 < _; omega)).trans hv
      have hvf' : ∀ o, (wr.alloc o).frozen? ⟨w.heap.size + 1, 0, none⟩ = false := fun o => (((Below.refl _ wr).alloc (Nat.le_refl _) o).frozen (by show _ + 1 < _; omega)).trans hvf
      have hr0 : wr.cell? ⟨w.heap.size, m * 2, none⟩ = some (.int .i64 (A m)) := by rw [hb.row.cell (by omega)]; simp only [slotF, if_pos (show m * 2 < 2 * n by omega), if_pos (show m * 2 % 2 = 0 by omega), show m * 2 / 2 = m by omega]
      have hr1 : wr.cell? ⟨w.heap.size, m * 2 + 1, none⟩ = some (.pointer (pf m)) := by rw [hb.row.cell (by omega)]; simp only [slotF, if_pos (show m * 2 + 1 < 2 * n by omega), if_neg (show ¬ (m * 2 + 1) % 2 = 0 by omega), show (m * 2 + 1) / 2 = m by omega]
      have t1 := ta33
      have hns : Hid (Fill w n A Hs Nx pf n wr) := hb
      clear hb hm
      go_wp2_with (first | (go_at_call 4; go_in) | go_in)
      generalize hWe : ((wr.alloc (.cells #[.int .i64 (A m), .pointer (pf m)] 33)).setCell ⟨w.heap.size + 1, 0, none⟩ (.slice (some ⟨w.heap.size, 0, none⟩) m n)).alloc (.cells #[.int .i64 (A m), .pointer (pf m)] 33) = W
      have hP : Popped w db off n m A Hs Nx pf (wr.heap.size + 1) W := by rw [← hWe]; exact popped hns.out HIN.out hmn
      clear hWe hns HIN hv hvf hv' hvf' hr0 hr1 hsz
      generalize wr.heap.size + 1 = IT at hP ⊢
      have hq : ∀ p w, (binOp .neq 26 (.pointer p) (.pointer p)).run Yba.prog w = .ok (.bool false) w := fun p w => neq_ptr 26 p w rfl
      have hq2 := fun (w : World) (a : Addr) => Lib.run_neq_ptr_same (P := Yba.prog) (tp := 36) (te := 33) (w := w) a Yba.underlying36 hi0
      have c0 := hP.hv
      have c1 := hP.it0
      have c2 := hP.it1
      obtain ⟨c3, _⟩ := hP.inp m hmn
      have c4 := hP.bs m hmn
      go_quiet (fail)
      go_wp2
      clear c1 c2 c3 c4
      go_cut [98] (fun a wx => a = .bool false ∧ ∃ q, wx = W.drewN q)
      case first =>
        rcases Nat.eq_zero_or_pos m with hm0 | hm0
        · have e1 : decide ((1 : Int) < (n : Int)) = false := decide_eq_false (by omega)
          go_quiet (fail)
          go_wp2
          go_meet
          case rel => exact ⟨rfl, _, World.drewN_drewN _ _ _⟩
        · have e1 : decide ((1 : Int) < (n : Int)) = true := decide_eq_true (by omega)
          have e2 : (0 : Int) < (m : Int) := by omega
          have e3 : (0 : Int) < (n : Int) := by omega
          go_quiet (fail)
          go_wp2
          go_meet
          case rel => exact ⟨rfl, _, World.drewN_drewN _ _ _⟩
      case rest =>
        obtain ⟨rfl, q, rfl⟩ := hcut
        have n1 : ∀ (b : Nat) (w : World), (binOp .neq 26 (.pointer (some ⟨b, 0, none⟩)) (.pointer none)).run Yba.prog w = .ok (.bool true) w := neq_some
        have n2 := neq_nil
        clear hq2
        go_wp2
        go_loopw [12] (fun a wr => ∃ k q : Nat, k ≤ m ∧ a = .int .i64 k ∧ wr = W.drewN q) (fun a _ => m - (intOf a).toNat)
        case atStart => exact ⟨0, _, Nat.zero_le _, rfl, rfl⟩
        case round =>
          obtain ⟨k, q, hk, rfl, rfl⟩ := hrel
          by_cases hlt : k < m
          · have hlt2 : k < n := by omega
            have hlt3 : (k : Int) < (n : Int) := by omega
            obtain ⟨d0, _⟩ := hP.inp k hlt2
            obtain ⟨d1, d2⟩ := hP.row k hlt2
            have d3 := hP.bs k hlt2
            go_wp2
            go_quiet (fail)
            go_wp2
            go_roundw
            case rel => exact ⟨k + 1, _, by omega, by go_num, rfl⟩
            case measure => simp [intOf]; omega
          · go_wp2
            go_loopw [13] (fun a wr => ∃ k q : Nat, k ≤ n ∧ a = .int .i64 k ∧ wr = W.drewN q) (fun a _ => n - (intOf a).toNat)
            case atStart => exact ⟨0, _, Nat.zero_le _, rfl, rfl⟩
            case round =>
              obtain ⟨l, q, hl, rfl, rfl⟩ := hrel
              by_cases hlt : l < n
              · obtain ⟨d0, d00, d01⟩ := hP.inp l hlt
                obtain ⟨d1, d2⟩ := hP.row l hlt
                have d3 := hP.bs l hlt
                rcases hP.bk l hlt with ⟨p1, p2⟩ | ⟨p1, b, p2, p3, p4⟩
                · rw [p2] at d2 d3
                  clear p1 p2
                  go_wp2
                  go_quiet (fail)
                  go_wp2
                  go_quiet (fail)
                  go_wp2
                  go_roundw
                  case rel => exact ⟨l + 1, _, by omega, by go_num, rfl⟩
                  case measure => simp [intOf]; omega
                · rw [p2] at d2 d3
                  clear p1 p2
                  go_wp2
                  go_quiet (fail)
                  go_wp2
                  go_quiet (fail)
                  go_wp2
                  go_roundw
                  case rel => exact ⟨l + 1, _, by omega, by go_num, rfl⟩
                  case measure => simp [intOf]; omega
              · go_wp2
                go_ret
                exact ⟨rfl, ⟨hP.below.os, hP.below.tape, hP.below.output, hP.below.size, hP.below.block⟩⟩
end Go.Proofs.Ybulkdwom
