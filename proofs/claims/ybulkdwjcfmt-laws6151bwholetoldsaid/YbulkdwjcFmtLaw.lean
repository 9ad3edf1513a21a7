import Derived.Test.YbulkdwjcFmtFin
import Derived.Deep.CutBlock
namespace Go.Proofs.YbulkdwjcFmt
open Go Go.RowKit Go.Extern.Stop Go.Stop Go.Extern
set_option linter.unusedVariables false

theorem info65 : (Ybaf.prog.info? 65).map (fun i => (i.zero, i.size, i.bytes)) = some (some .nilIface, 1, 16) := by kernel_rfl

/-- What the slice of drawn steps holds. -/
def StepsAt (w : World) (a0 : Option Addr) (n : Nat) (st : List (Bool × Bool × Bool)) : Prop :=
  ∀ k, k < n → ∃ db off, a0 = some ⟨db, off, none⟩ ∧ w.cell? ⟨db, off + k * 3, none⟩ = some (.bool (st.getD k default).1) ∧ w.cell? ⟨db, off + k * 3 + 1, none⟩ = some (.bool (st.getD k default).2.1) ∧ w.cell? ⟨db, off + k * 3 + 2, none⟩ = some (.bool (st.getD k default).2.2)

/-- THE STATE AHEAD OF ROUND k of the loop that builds the steps. -/
structure Bld (w : World) (n : Nat) (st : List (Bool × Bool × Bool)) (k : Nat) (wr : World) : Prop where
  below : Below w.heap.size w wr
  sen : wr.heap[w.heap.size]? = some (.cells #[.string senS] 108 (0, 0))
  log : wr.heap[w.heap.size + 1]? = some (.cells #[.slice none 0 0] 57 (0, 0))
  row : wr.rowIs (w.heap.size + 1 + 1) 65 n (fun j => if j < k then stepV (w.heap.size + 1) w.heap.size (st.getD j default) else .nilIface)

theorem bld_start (w : World) (n : Nat) (st : List (Bool × Bool × Bool)) : Bld w n st 0 (((w.alloc (.cells #[.string senS] 108)).alloc (.cells #[.slice none 0 0] 57)).alloc (.cells (madeCells #[.nilIface] n) 65)) := by
  refine ⟨(((Below.refl _ _).alloc (Nat.le_refl _) _).alloc (by simp) _).alloc (by simp; omega) _, ?_, ?_, ?_⟩
  · rw [Deep.blk_alloc_lt _ _ _ (by simp; omega), Deep.blk_alloc_lt _ _ _ (by simp)]; exact Deep.blk_alloc_new _ _
  · rw [Deep.blk_alloc_lt _ _ _ (by simp)]
    have := Deep.blk_alloc_new (w.alloc (.cells #[.string senS] 108)) (.cells #[.slice none 0 0] 57)
    simpa using this
  · have := World.rowIs_made ((w.alloc (.cells #[.string senS] 108)).alloc (.cells #[.slice none 0 0] 57)) .nilIface n 65
    simpa using this

theorem bld_step {w : World} {n : Nat} {st : List (Bool × Bool × Bool)} {k : Nat} {wr : World} (h : Bld w n st k wr) (hk : k < n) (o1 o2 : Obj) (v : Value) (hv : stepV (w.heap.size + 1) w.heap.size (st.getD k default) = v) :
    Bld w n st (k + 1) (((wr.alloc o1).alloc o2).setCell ⟨w.heap.size + 1 + 1, k, none⟩ v) := by
  have hs := h.row.lt
  refine ⟨((h.below.alloc (by omega) _).alloc (by simp; omega) _).setCell (by simp; omega) _, ?_, ?_, ?_⟩
  · rw [Below.heap_setCell _ _ _ _ (by simp; omega), Deep.blk_alloc_lt _ _ _ (by simp; omega), Deep.blk_alloc_lt _ _ _ (by omega)]; exact h.sen
  · rw [Below.heap_setCell _ _ _ _ (by simp), Deep.blk_alloc_lt _ _ _ (by simp; omega), Deep.blk_alloc_lt _ _ _ (by omega)]; exact h.log
  · refine ((((h.row.alloc o1).alloc o2).set k v).congr ?_)
    intro j hj
    by_cases e : j = k
    · subst e; rw [if_pos rfl, if_pos (by omega)]; exact hv.symm
    · simp only [if_neg e]
      by_cases e2 : j < k
      · simp [e2, Nat.lt_succ_of_lt e2]
      · rw [if_neg e2, if_neg (by omega)]

/-- THE STATE AHEAD OF takeAll. -/
structure Ready (wr : World) (pend : Bool) (W : World) : Prop where
  below : Below wr.heap.size wr W
  run : W.heap[wr.heap.size]? = some (.cells (runC ⟨#[105, 110, 105, 116]⟩ (sentV pend (wr.heap.size + 1 + 1))) 92 (0, 0))
  pends : pend = true → wr.heap.size + 1 + 1 < W.heap.size ∧ W.cell? ⟨wr.heap.size + 1 + 1, 0, none⟩ = some (.slice (some ⟨wr.heap.size + 1, 0, none⟩) 1 1) ∧ W.cell? ⟨wr.heap.size + 1, 0, none⟩ = some (.int .u8 1)

theorem ready_no (wr : World) : Ready wr false (wr.alloc (.cells (runC ⟨#[105, 110, 105, 116]⟩ (.slice none 0 0)) 92)) :=
  ⟨(Below.refl _ _).alloc (Nat.le_refl _) _, Deep.blk_alloc_new _ _, fun h => by cases h⟩
theorem ready_yes (wr : World) : Ready wr true (((wr.alloc (.cells (runC ⟨#[105, 110, 105, 116]⟩ (.slice (some ⟨wr.heap.size + 1 + 1, 0, none⟩) 1 1)) 92)).alloc (.cells #[.int .u8 1] 5)).alloc (.cells #[.slice (some ⟨wr.heap.size + 1, 0, none⟩) 1 1] 22)) := by
  refine ⟨(((Below.refl _ _).alloc (Nat.le_refl _) _).alloc (by simp) _).alloc (by simp; omega) _, ?_, fun _ => ⟨by simp, ?_, ?_⟩⟩
  · rw [Deep.blk_alloc_lt _ _ _ (by simp; omega), Deep.blk_alloc_lt _ _ _ (by simp)]; exact Deep.blk_alloc_new _ _
  · have := cell_new1 ((wr.alloc (.cells (runC ⟨#[105, 110, 105, 116]⟩ (.slice (some ⟨wr.heap.size + 1 + 1, 0, none⟩) 1 1)) 92)).alloc (.cells #[.int .u8 1] 5)) (.slice (some ⟨wr.heap.size + 1, 0, none⟩) 1 1) 22
    simpa using this
  · have h1 := cell_new1 (wr.alloc (.cells (runC ⟨#[105, 110, 105, 116]⟩ (.slice (some ⟨wr.heap.size + 1 + 1, 0, none⟩) 1 1)) 92)) (.int .u8 1) 5
    have h2 := cell_later ((Below.refl _ _).alloc (Nat.le_refl _) (.cells #[.slice (some ⟨wr.heap.size + 1, 0, none⟩) 1 1] 22)) h1
    simpa using h2

/-- FROM THE TWO STATES to takeAll. -/
theorem all_from {F : Interp} {w wr W : World} {n : Nat} {st : List (Bool × Bool × Bool)} {pend : Bool} (pre : ByteArray) (first : Int) (hb : Bld w n st n wr) (hr : Ready wr pend W)
    (hF : F.answers w.tape) (hn : n ≤ 4096) (hpre : pre.size ≤ 140737488351232) (h6 : 6 < w.heap.size) (hp : Pow10 w) :
    Calls Ybaf.prog 13 #[.pointer (some ⟨wr.heap.size, 0, none⟩), .string pre, .int .i64 first, .slice (some ⟨w.heap.size + 1 + 1, 0, none⟩) n n] W (Ends W.heap.size (w.heap.size + 1) wr.heap.size w.heap.size (wr.heap.size + 1 + 1) st pre first pend W n) := by
  have hs := hb.row.lt
  have hs2 := lt_of_block hr.run
  have hbW : Below w.heap.size w W := hb.below.trans (hr.below.mono hb.below.size)
  have hlog : W.heap[w.heap.size + 1]? = some (.cells #[.slice none 0 0] 57 (0, 0)) := (hr.below.block _ (by omega)).trans hb.log
  refine takeAll_any F W.heap.size (w.heap.size + 1) wr.heap.size w.heap.size (wr.heap.size + 1 + 1) (wr.heap.size + 1) (w.heap.size + 1 + 1) n st pre first pend W (by rw [hbW.tape]; exact hF) (Nat.le_refl _) (by omega) hs2 (by omega) hn hpre (by omega) (by omega) (by omega)
    (fun h => ?_) (fun h => ?_) (by omega) (by omega) (by omega) (fun j hj => ?_) (hp.keep (Keep.ofBelow (x := 7 + w.heap.size) (y := 7 + w.heap.size) hbW) h6 (by omega) (by omega)) ?_
  · obtain ⟨q1, q2, q3⟩ := hr.pends h
    exact ⟨q1, by omega, by omega, q2⟩
  · obtain ⟨q1, q2, q3⟩ := hr.pends h
    exact ⟨by omega, by omega, by omega, q3⟩
  · rw [hr.below.cell (by exact hs), hb.row.cell hj, if_pos hj]
  · exact ⟨Keep.refl _ _ _ _, ⟨_, hlog, World.ownsRow_nil _ _ _ _⟩, hr.run⟩

/-- What is known behind takeAll. -/
theorem ctx_of {w wr W w4 : World} {n : Nat} {st : List (Bool × Bool × Bool)} {pre : ByteArray} {first : Int} {pend : Bool} {v : Value} (hb : Bld w n st n wr) (hr : Ready wr pend W) (hn : n ≤ 4096) (h6 : 6 < w.heap.size) (hp : Pow10 w)
    (hV : EndsV W.heap.size (w.heap.size + 1) wr.heap.size w.heap.size (wr.heap.size + 1 + 1) st pre first pend W n v w4) (hK : Keep W.heap.size (w.heap.size + 1) wr.heap.size W w4) :
    Ctx w W w4 w4 (w.heap.size + 1) wr.heap.size w.heap.size (wr.heap.size + 1 + 1) (wr.heap.size + 1) n 0 st pre first pend v ∧ Pow10 w4 ∧ Below w.heap.size w w4 := by
  have hs := hb.row.lt
  have hs2 := lt_of_block hr.run
  have hs3 := hK.size
  have hbW : Below w.heap.size w W := hb.below.trans (hr.below.mono hb.below.size)
  have hb4 : Below w.heap.size w w4 := hbW.trans (hK.toBelow (by omega) (by omega) (by omega))
  refine ⟨⟨hn, hb4, ?_, by omega, by omega, by omega, fun h => ?_, hV, Below.refl _ _, fun j hj => absurd hj (Nat.not_lt_zero _), by omega, hb4.size, fun h => by obtain ⟨q1, _⟩ := hr.pends h; omega⟩, hp.keep (Keep.ofBelow (x := 7 + w.heap.size) (y := 7 + w.heap.size) hb4) h6 (by omega) (by omega), hb4⟩
  · rw [hK.block _ (by omega) (by omega) (by omega), hr.below.block _ (by omega)]; exact hb.sen
  · obtain ⟨q1, q2, q3⟩ := hr.pends h
    exact ⟨(World.cell?_of_block (a := ⟨wr.heap.size + 1 + 1, 0, none⟩) (hK.block (wr.heap.size + 1 + 1) q1 (by omega) (by omega))).trans q2, (World.cell?_of_block (a := ⟨wr.heap.size + 1, 0, none⟩) (hK.block (wr.heap.size + 1) (by omega) (by omega) (by omega))).trans q3⟩

set_option maxRecDepth 100000 in
set_option maxHeartbeats 800000 in
theorem law_walk (F : Interp) (pre : ByteArray) (first : Int) (a0 : Option Addr) (n cap : Nat) (pend : Bool) (st : List (Bool × Bool × Bool)) (w : World)
    (hF : F.answers w.tape) (hn : n ≤ 4096) (hpre : pre.size ≤ 140737488351232) (h6 : 6 < w.heap.size) (hp : Pow10 w) (hst : StepsAt w a0 n st) :
    Calls Ybaf.prog 4 #[.string pre, .int .i64 first, .slice a0 n cap, .bool pend] w fun e w' => e = .returned (.bool true) ∧ Below w.heap.size w w' := by
  obtain ⟨i0, hi0, hz0, hz1, hz2⟩ := info_parts info65
  obtain ⟨j0, hj0, hy0, hy1, hy2⟩ := info_parts info9
  have HST : Hid _ := hst
  clear hst
  go_enter Ybaf.func4, Ybaf.ntmps4
  go_wp2_with (first | (at_make; refine wpList_make_row _ rfl _ _ 58 rfl 65 i0 .nilIface Ybaf.underlying58 hi0 hz0 hz1 rfl _ _ n rfl rfl ?c1 ?c2 ?_) | (go_at_call 12; go_in) | go_in)
  case c1 => rw [hz2]; omega
  case c2 => omega
  go_loopw [35] (fun a wr => ∃ k : Nat, k ≤ n ∧ a = .int .i64 k ∧ Bld w n st k wr) (fun a _ => n - (intOf a).toNat)
  case atStart => exact ⟨0, Nat.zero_le _, rfl, bld_start w n st⟩
  case round =>
    obtain ⟨k, hk, rfl, hb⟩ := hrel
    by_cases hlt : k < n
    · obtain ⟨db, off, rfl, q0, q1, q2⟩ := HST.out k hlt
      have b0 := (hb.below.cell (World.block_lt_of_cell? _ _ q0)).trans q0
      have b1 := (hb.below.cell (World.block_lt_of_cell? _ _ q1)).trans q1
      have b2 := (hb.below.cell (World.block_lt_of_cell? _ _ q2)).trans q2
      clear q0 q1 q2
      have hcB : wr.cell? ⟨w.heap.size + 1 + 1, k, none⟩ = some .nilIface := by rw [hb.row.cell hlt]; simp
      have hfB : wr.frozen? ⟨w.heap.size + 1 + 1, k, none⟩ = false := hb.row.frozen k
      have hcB2 : ∀ o1 o2, ((wr.alloc o1).alloc o2).cell? ⟨w.heap.size + 1 + 1, k, none⟩ = some .nilIface := fun o1 o2 => cell_later (((Below.refl _ wr).alloc (Nat.le_refl _) o1).alloc (by simp) o2) hcB
      have hfB2 : ∀ o1 o2, ((wr.alloc o1).alloc o2).frozen? ⟨w.heap.size + 1 + 1, k, none⟩ = false := fun o1 o2 => ((((Below.refl _ wr).alloc (Nat.le_refl _) o1).alloc (by simp) o2).frozen (by exact hb.row.lt)).trans hfB
      obtain ⟨d, hd⟩ : ∃ d, st.getD k default = d := ⟨_, rfl⟩
      rw [hd] at b0 b1 b2
      obtain ⟨u, e, f⟩ := d
      have HD : Hid (st.getD k default = (u, e, f)) := hd
      clear hd
      cases u <;> cases e
      all_goals
        go_wp2
        go_roundw
        case rel => exact ⟨k + 1, by omega, by go_num, bld_step hb hlt _ _ _ (by rw [HD.out]; rfl)⟩
        case measure => simp [intOf]; omega
    · obtain rfl : n = k := by omega
      obtain ⟨wo, rfl⟩ : ∃ wo : World, wo = wr := ⟨_, rfl⟩
      go_upto_if 63 with (fail)
      go_cut [] (fun wx => Ready wo pend wx)
      case first =>
        cases pend
        · go_wp2
          go_meet
          case rel => exact ready_no wo
        · go_wp2
          go_meet
          case rel => exact ready_yes wo
      case rest =>
        go_wp2_with (go_at_call 13; fail)
        refine (all_from pre first hb hcut hF hn hpre h6 hp).mono ?_
        intro en w4 hE
        obtain ⟨v, rfl, hV, hK, hform⟩ := ends_v hE
        clear hE
        have cx0 := ctx_of hb hcut hn h6 hp hV hK
        obtain ⟨cx, hp4, hb4⟩ := cx0
        go_upto_block 2 with (fail)
        go_cut [18, 19, 20] (fun a b c wx => ∃ (kind : Int) (s : ByteArray), b = .string s ∧ c = .int .i64 kind ∧ Fin w (w.heap.size + 1) wo.heap.size w.heap.size (wo.heap.size + 1 + 1) (wo.heap.size + 1) pend v a s kind wx)
        case first =>
          go_wp2_with fail
          go_loopw [18, 19, 20, 21, 22, 76] (fun a b c d e g wx => ∃ k p l : Nat, k ≤ n ∧ Hid (cnt st k = (p, l)) ∧ b = .string (stepS st pre first k) ∧ c = .int .i64 0 ∧ d = .int .i64 p ∧ e = .int .i64 l ∧ g = .int .i64 k ∧ wx.ownsRow w4.heap.size 9 1 a k (labels st pre first k) ∧ Ctx w wc w4 wx (w.heap.size + 1) wo.heap.size w.heap.size (wo.heap.size + 1 + 1) (wo.heap.size + 1) n k st pre first pend v ∧ Pow10 wx) (fun _ _ _ _ _ g _ => n - (intOf g).toNat)
          case atStart => exact ⟨0, 0, 0, Nat.zero_le _, rfl, rfl, rfl, rfl, rfl, rfl, World.ownsRow_nil _ _ _ _, cx, hp4⟩
          case round =>
            have HP4 : Hid (Pow10 w4) := hp4
            clear hp4 hb4 hK hV cx
            obtain ⟨k, p, l, hk, HCN, rfl, rfl, rfl, rfl, rfl, hown, cx, hpx⟩ := hrel
            have hpl : p ≤ k ∧ l ≤ k := by have := cnt_le st k; rw [HCN.out] at this; exact this
            by_cases hlt : k < n
            · obtain ⟨db, off, rfl, q0, q1, q2⟩ := HST.out k hlt
              have b0 := (cx.hbw.cell (World.block_lt_of_cell? _ _ q0)).trans q0
              have b1 := (cx.hbw.cell (World.block_lt_of_cell? _ _ q1)).trans q1
              have b2 := (cx.hbw.cell (World.block_lt_of_cell? _ _ q2)).trans q2
              clear q0 q1 q2
              obtain ⟨d, hd⟩ : ∃ d, st.getD k default = d := ⟨_, rfl⟩
              rw [hd] at b0 b1 b2
              obtain ⟨u, e, f⟩ := d
              have HD : Hid (st.getD k default = (u, e, f)) := hd
              clear hd
              go_upto_if 81 with (fail)
              generalize hWe : wr.alloc (.cells #[.bool u, .bool e, .bool f] 60) = W1
              have hb1 : Below wr.heap.size wr W1 := by rw [← hWe]; exact (Below.refl _ _).alloc (Nat.le_refl _) _
              have hd3 := new3 wr (.bool u) (.bool e) (.bool f) 60
              rw [hWe] at hd3
              obtain ⟨d0, d1, d2⟩ := hd3
              have hs1 : wr.heap.size < W1.heap.size := by rw [← hWe]; simp
              have hpw : Hid (Pow10 W1) := hpx.keep (Keep.ofBelow (x := 7 + w.heap.size) (y := 7 + w.heap.size) (hb1.mono (by have := cx.hbw.size; omega))) h6 (by omega) (by omega)
              clear hWe b0 b1 b2
              go_cut [21, 22, 25] (fun d e' g wx => ∃ p2 l2 : Nat, Hid (cnt st (k + 1) = (p2, l2)) ∧ d = .int .i64 p2 ∧ e' = .int .i64 l2 ∧ g = .string (label st pre first k) ∧ Below wr.heap.size wr wx ∧ wr.heap.size < wx.heap.size ∧ wx.cell? ⟨wr.heap.size, 1, none⟩ = some (.bool e) ∧ wx.cell? ⟨wr.heap.size, 2, none⟩ = some (.bool f))
              case first =>
                cases u
                · have hds := dec_size first (p + 1)
                  go_wp2_with (go_at_call 14; fail)
                  rw [show ((p : Int) + 1) = ((p + 1 : Nat) : Int) from by omega, numAt_law]
                  have hnr := numAt_in first (p + 1)
                  obtain ⟨D, hD⟩ : ∃ D, dec (numAt first (p + 1)) = D := ⟨_, rfl⟩
                  rw [hD] at hds
                  have hll : pre ++ D = label st pre first k := by rw [← hD]; exact label_pr pre first HD.out HCN.out
                  refine (itoa_D (numAt first (p + 1)) D hD hnr.1 hnr.2 _ hpw.out).mono ?_
                  rintro e2 w2 ⟨rfl, hb2⟩
                  have r1 : ¬ pre.size + D.size > 9223372036854775807 := by omega
                  have x1 := (hb2.cell (p := ⟨wr.heap.size, 1, none⟩) (by exact hs1)).trans d1
                  have x2 := (hb2.cell (p := ⟨wr.heap.size, 2, none⟩) (by exact hs1)).trans d2
                  have hbx : Below wr.heap.size wr w2 := hb1.trans (hb2.mono hb1.size)
                  have hsx : wr.heap.size < w2.heap.size := by have := hb2.size; omega
                  clear hb2 hD
                  go_wp2_with fail
                  go_meet
                  case rel => exact ⟨p + 1, 0, cnt_pr HD.out HCN.out, by go_num, rfl, rfl, hbx, hsx, x1, x2⟩
                · have hds := dec_size first p
                  have hes := enc_size (97 + (l : Int))
                  go_wp2_with (go_at_call 14; fail)
                  rw [numAt_law]
                  have hnr := numAt_in first p
                  obtain ⟨D, hD⟩ : ∃ D, dec (numAt first p) = D := ⟨_, rfl⟩
                  obtain ⟨E, hE⟩ : ∃ E, Utf8.encode (97 + (l : Int)) = E := ⟨_, rfl⟩
                  rw [hD] at hds
                  rw [hE] at hes
                  have hll : pre ++ D ++ E = label st pre first k := by rw [← hD, ← hE]; exact label_un pre first HD.out HCN.out
                  refine (itoa_D (numAt first p) D hD hnr.1 hnr.2 _ hpw.out).mono ?_
                  rintro e2 w2 ⟨rfl, hb2⟩
                  have r1 : ¬ pre.size + D.size > 9223372036854775807 := by omega
                  have r2 : ¬ pre.size + D.size + E.size > 9223372036854775807 := by omega
                  have x1 := (hb2.cell (p := ⟨wr.heap.size, 1, none⟩) (by exact hs1)).trans d1
                  have x2 := (hb2.cell (p := ⟨wr.heap.size, 2, none⟩) (by exact hs1)).trans d2
                  have hbx : Below wr.heap.size wr w2 := hb1.trans (hb2.mono hb1.size)
                  have hsx : wr.heap.size < w2.heap.size := by have := hb2.size; omega
                  clear hb2 hD
                  have HLL : Hid _ := hll
                  clear hll
                  go_wp2_with fail
                  go_meet
                  case rel => exact ⟨p, l + 1, cnt_un HD.out HCN.out, rfl, by go_num, by rw [HLL.out], hbx, hsx, x1, x2⟩
              case rest =>
                obtain ⟨p2, l2, HC2, rfl, rfl, rfl, hbx, hsx, x1, x2⟩ := hcut
                clear hpw d0 d1 d2 hs1 hb1
                have hle : w4.heap.size ≤ wr.heap.size := cx.hb4.size
                have cx2 := cx.move (cx.hb4.trans (hbx.mono hle))
                have hown2 := own_later hown hbx
                have HG : Hid (∀ q, u18.ownBlock = some q → w4.heap.size ≤ q ∧ q < wr.heap.size) := fun q hq => ⟨own_ge hown q hq, own_lt hown q hq⟩
                have hlew : w4.heap.size ≤ wc.heap.size := by omega
                clear hown cx hpx
                by_cases hpe : pend = true ∧ e = false
                · obtain ⟨rfl, rfl⟩ := hpe
                  go_wp2
                  go_meet
                  case rel => exact ⟨2, _, rfl, rfl, fin_stop cx2 hlt rfl (by rw [HD.out]) hown2⟩
                · have hpe2 : pend = true → e = true := fun h => by
                    cases e with
                    | true => rfl
                    | false => exact absurd ⟨h, rfl⟩ hpe
                  have HPE : Hid (pend = true → e = true) := hpe2
                  clear hpe hpe2
                  have hcase : (pend = false) ∨ (pend = true ∧ e = true) := by
                    cases pend
                    · exact Or.inl rfl
                    · exact Or.inr ⟨rfl, HPE.out rfl⟩
                  have hlab := labels_succ st pre first k
                  have HLAB : Hid (labels st pre first (k + 1) = labels st pre first k ++ [.string (label st pre first k)]) := hlab
                  clear hlab
                  rcases hcase with rfl | ⟨rfl, rfl⟩
                  · cases f
                    · go_wp2_with (at_builtin; refine wpList_append_own _ rfl _ _ 57 rfl w4.heap.size 9 j0 (.string ⟨#[]⟩) 1 16 Ybaf.underlying57 hj0 hy0 hy1 hy2 rfl (by decide) _ _ _ rfl (hown2.alloc _) ⟨wc.heap.size, 0, none⟩ 1 1 [.string (label st pre first k)] rfl rfl (by exact cell_one_new wc _ 9) (by simp [Value.oneCell']) (by unfold maxLen; omega) (by omega) (by simp; omega) ?_; intro v' w6 hown6 hgrow6 _; have x6 := (grown_cell hgrow6 (a := ⟨wr.heap.size, 2, none⟩) (by simp; omega) (fun q hq => by have := HG.out q hq; simp; omega)).trans (cell_later ((Below.refl _ wc).alloc (Nat.le_refl _) _) x2))
                      have cx6 := cx2.move ((cx2.hb4.alloc hlew _).grown hgrow6 (by simp; omega) (fun q hq => (HG.out q hq).1))
                      have hp6 : Pow10 w6 := HP4.out.keep (Keep.ofBelow (x := 7 + w4.heap.size) (y := 7 + w4.heap.size) cx6.hb4) (by have := cx6.hw4; omega) (by omega) (by omega)
                      rw [← HLAB.out] at hown6
                      go_roundw
                      case rel => exact ⟨k + 1, p2, l2, by omega, HC2, rfl, rfl, rfl, rfl, by go_num, hown6, cx6.step ⟨fun h => by rw [HD.out]; exact HPE.out h, by rw [HD.out]⟩, hp6⟩
                      case measure => simp [intOf]; omega
                    · go_wp2_with (at_builtin; refine wpList_append_own _ rfl _ _ 57 rfl w4.heap.size 9 j0 (.string ⟨#[]⟩) 1 16 Ybaf.underlying57 hj0 hy0 hy1 hy2 rfl (by decide) _ _ _ rfl (hown2.alloc _) ⟨wc.heap.size, 0, none⟩ 1 1 [.string (label st pre first k)] rfl rfl (by exact cell_one_new wc _ 9) (by simp [Value.oneCell']) (by unfold maxLen; omega) (by omega) (by simp; omega) ?_; intro v' w6 hown6 hgrow6 _; have x6 := (grown_cell hgrow6 (a := ⟨wr.heap.size, 2, none⟩) (by simp; omega) (fun q hq => by have := HG.out q hq; simp; omega)).trans (cell_later ((Below.refl _ wc).alloc (Nat.le_refl _) _) x2))
                      have cx6 := cx2.move ((cx2.hb4.alloc hlew _).grown hgrow6 (by simp; omega) (fun q hq => (HG.out q hq).1))
                      rw [← HLAB.out] at hown6
                      go_meet
                      case rel => exact ⟨1, _, rfl, rfl, fin_fail cx6 hlt (fun h => by rw [HD.out]; exact HPE.out h) (by rw [HD.out]) hown6⟩
                  · cases f
                    · go_wp2_with (at_builtin; refine wpList_append_own _ rfl _ _ 57 rfl w4.heap.size 9 j0 (.string ⟨#[]⟩) 1 16 Ybaf.underlying57 hj0 hy0 hy1 hy2 rfl (by decide) _ _ _ rfl (hown2.alloc _) ⟨wc.heap.size, 0, none⟩ 1 1 [.string (label st pre first k)] rfl rfl (by exact cell_one_new wc _ 9) (by simp [Value.oneCell']) (by unfold maxLen; omega) (by omega) (by simp; omega) ?_; intro v' w6 hown6 hgrow6 _; have x6 := (grown_cell hgrow6 (a := ⟨wr.heap.size, 2, none⟩) (by simp; omega) (fun q hq => by have := HG.out q hq; simp; omega)).trans (cell_later ((Below.refl _ wc).alloc (Nat.le_refl _) _) x2))
                      have cx6 := cx2.move ((cx2.hb4.alloc hlew _).grown hgrow6 (by simp; omega) (fun q hq => (HG.out q hq).1))
                      have hp6 : Pow10 w6 := HP4.out.keep (Keep.ofBelow (x := 7 + w4.heap.size) (y := 7 + w4.heap.size) cx6.hb4) (by have := cx6.hw4; omega) (by omega) (by omega)
                      rw [← HLAB.out] at hown6
                      go_roundw
                      case rel => exact ⟨k + 1, p2, l2, by omega, HC2, rfl, rfl, rfl, rfl, by go_num, hown6, cx6.step ⟨fun h => by rw [HD.out], by rw [HD.out]⟩, hp6⟩
                      case measure => simp [intOf]; omega
                    · go_wp2_with (at_builtin; refine wpList_append_own _ rfl _ _ 57 rfl w4.heap.size 9 j0 (.string ⟨#[]⟩) 1 16 Ybaf.underlying57 hj0 hy0 hy1 hy2 rfl (by decide) _ _ _ rfl (hown2.alloc _) ⟨wc.heap.size, 0, none⟩ 1 1 [.string (label st pre first k)] rfl rfl (by exact cell_one_new wc _ 9) (by simp [Value.oneCell']) (by unfold maxLen; omega) (by omega) (by simp; omega) ?_; intro v' w6 hown6 hgrow6 _; have x6 := (grown_cell hgrow6 (a := ⟨wr.heap.size, 2, none⟩) (by simp; omega) (fun q hq => by have := HG.out q hq; simp; omega)).trans (cell_later ((Below.refl _ wc).alloc (Nat.le_refl _) _) x2))
                      have cx6 := cx2.move ((cx2.hb4.alloc hlew _).grown hgrow6 (by simp; omega) (fun q hq => (HG.out q hq).1))
                      rw [← HLAB.out] at hown6
                      go_meet
                      case rel => exact ⟨1, _, rfl, rfl, fin_fail cx6 hlt (fun h => by rw [HD.out]) (by rw [HD.out]) hown6⟩
            · go_wp2
              go_meet
              case rel => exact ⟨0, _, rfl, rfl, fin_all cx (by omega) hown⟩
        case rest =>
          obtain ⟨kind, s, rfl, rfl, hfin⟩ := hcut
          obtain ⟨vl, L, ys, B1, B2, g1, g2, g3, g4⟩ := hfin.logs
          obtain ⟨c8, c9, c10, f8, f9, c6, c7, c24⟩ := run_cells hfin.run
          have hcl := cell_of_one g1
          have hbel := hfin.below
          have hpen := hfin.pends
          have hsen := hfin.sen
          have herr := hfin.err
          have HSEN : Hid _ := hsen
          clear hsen g1 hfin hV hK cx hp4 hb4 hb
          have hns := neq_same w.heap.size
          have n57 := nil57
          have n77 := nil77
          have n71 := nil71
          have n90 := nil90
          rcases herr with ⟨rfl, rfl⟩ | ⟨rfl, rfl⟩ | ⟨rfl, x, rfl, hx1, t, hx2⟩
          · clear hns
            cases pend
            · have c9' : wc.cell? ⟨wo.heap.size, 9, none⟩ = some (.slice none 0 0) := c9
              clear c9 hpen
              go_wp2_with (go_at_call 15; fail)
              refine (equal_logs g2 g3 g4).mono ?_
              rintro e2 w5 ⟨rfl, q, rfl⟩
              go_wp2
              go_ret
              exact ⟨rfl, below_drewN hbel _⟩
            · have c9' : wc.cell? ⟨wo.heap.size, 9, none⟩ = some (.slice (some ⟨wo.heap.size + 1 + 1, 0, none⟩) 1 1) := c9
              obtain ⟨cX, cY⟩ := hpen rfl
              clear c9 hpen
              go_wp2_with (go_at_call 15; fail)
              refine (equal_logs g2 g3 g4).mono ?_
              rintro e2 w5 ⟨rfl, q, rfl⟩
              go_wp2
              go_ret
              exact ⟨rfl, below_drewN hbel _⟩
          · skip
            cases pend
            · have c9' : wc.cell? ⟨wo.heap.size, 9, none⟩ = some (.slice none 0 0) := c9
              clear c9 hpen
              go_wp2_with (go_at_call 15; fail)
              refine (equal_logs g2 g3 g4).mono ?_
              rintro e2 w5 ⟨rfl, q, rfl⟩
              go_wp2
              go_ret
              exact ⟨rfl, below_drewN hbel _⟩
            · have c9' : wc.cell? ⟨wo.heap.size, 9, none⟩ = some (.slice (some ⟨wo.heap.size + 1 + 1, 0, none⟩) 1 1) := c9
              obtain ⟨cX, cY⟩ := hpen rfl
              clear c9 hpen
              go_wp2_with (go_at_call 15; fail)
              refine (equal_logs g2 g3 g4).mono ?_
              rintro e2 w5 ⟨rfl, q, rfl⟩
              go_wp2
              go_ret
              exact ⟨rfl, below_drewN hbel _⟩
          · have heo := eql_other hx1 hx2 HSEN.out
            clear hns hx1 hx2
            cases pend
            · have c9' : wc.cell? ⟨wo.heap.size, 9, none⟩ = some (.slice none 0 0) := c9
              clear c9 hpen
              go_wp2_with (go_at_call 15; fail)
              refine (equal_logs g2 g3 g4).mono ?_
              rintro e2 w5 ⟨rfl, q, rfl⟩
              go_wp2
              go_ret
              exact ⟨rfl, below_drewN hbel _⟩
            · have c9' : wc.cell? ⟨wo.heap.size, 9, none⟩ = some (.slice (some ⟨wo.heap.size + 1 + 1, 0, none⟩) 1 1) := c9
              obtain ⟨cX, cY⟩ := hpen rfl
              clear c9 hpen
              go_wp2_with (go_at_call 15; fail)
              refine (equal_logs g2 g3 g4).mono ?_
              rintro e2 w5 ⟨rfl, q, rfl⟩
              go_wp2
              go_ret
              exact ⟨rfl, below_drewN hbel _⟩
end Go.Proofs.YbulkdwjcFmt
