import Derived.Test.YbulkdwjcFmtStep
import Derived.Deep.QuietTactic
import Derived.Deep.DeepCutAuto
import Derived.Deep.RegionWith
import Derived.Stop.FmtTextKit
namespace Go.Proofs.YbulkdwjcFmt
open Go Go.RowKit Go.Extern.Stop Go.Stop Go.Extern
set_option linter.unusedVariables false

def okAt (st : List (Bool × Bool × Bool)) (pend : Bool) (j : Nat) : Prop := (pend = true → (st.getD j default).2.1 = true) ∧ (st.getD j default).2.2 = false

/-- HOW takeAll ENDS. -/
def Ends (B LG R SB X : Nat) (st : List (Bool × Bool × Bool)) (pre : ByteArray) (first : Int) (pend : Bool) (w : World) (n : Nat) (en : Ending) (w' : World) : Prop :=
  ∃ m, m ≤ n ∧ (∀ j, j < m → okAt st pend j) ∧
    ((m = n ∧ en = .returned .nilIface ∧ Inv B LG R st pre first (sentV pend X) w m w') ∨
     (m < n ∧ pend = true ∧ (st.getD m default).2.1 = false ∧ ∃ x, en = .returned (.iface 106 (.pointer (some ⟨x, 0, none⟩))) ∧ Stopped B LG R st pre first (sentV pend X) w m x w') ∨
     (m < n ∧ (pend = true → (st.getD m default).2.1 = true) ∧ (st.getD m default).2.2 = true ∧ en = .returned (.iface 106 (.pointer (some ⟨SB, 0, none⟩))) ∧ Inv B LG R st pre first (sentV pend X) w (m + 1) w'))

theorem label_un {st : List (Bool × Bool × Bool)} {k : Nat} {e f : Bool} (pre : ByteArray) (first : Int) {p l : Nat} (hd : st.getD k default = (true, e, f)) (hc : cnt st k = (p, l)) : pre ++ dec (numAt first p) ++ Utf8.encode (97 + (l : Int)) = label st pre first k := by
  unfold label; rw [hd, hc]; rfl
theorem label_pr {st : List (Bool × Bool × Bool)} {k : Nat} {e f : Bool} (pre : ByteArray) (first : Int) {p l : Nat} (hd : st.getD k default = (false, e, f)) (hc : cnt st k = (p, l)) : pre ++ dec (numAt first (p + 1)) = label st pre first k := by
  unfold label; rw [hd, hc]; rfl
theorem cnt_un {st : List (Bool × Bool × Bool)} {k : Nat} {e f : Bool} {p l : Nat} (hd : st.getD k default = (true, e, f)) (hc : cnt st k = (p, l)) : cnt st (k + 1) = (p, l + 1) := by
  show (if (st.getD k default).1 then ((cnt st k).1, (cnt st k).2 + 1) else ((cnt st k).1 + 1, 0)) = _
  rw [hd, hc]; rfl
theorem cnt_pr {st : List (Bool × Bool × Bool)} {k : Nat} {e f : Bool} {p l : Nat} (hd : st.getD k default = (false, e, f)) (hc : cnt st k = (p, l)) : cnt st (k + 1) = (p + 1, 0) := by
  show (if (st.getD k default).1 then ((cnt st k).1, (cnt st k).2 + 1) else ((cnt st k).1 + 1, 0)) = _
  rw [hd, hc]; rfl

theorem dec_size (first : Int) (p : Nat) : (dec (numAt first p)).size ≤ 32 := by
  have h := numAt_in first p
  have hw : (Lit.int .i64 (numAt first p)).wf = true := WalkArith.wf_i64 (by omega)
  have := FmtText.itoa_length_le hw
  show (Lib.itoa (numAt first p)).toArray.size ≤ 32
  simp; omega
theorem enc_size (r : Int) : (Utf8.encode r).size ≤ 4 := by
  unfold Utf8.encode
  split
  · dsimp only
    split
    · show 1 ≤ 4; omega
    · split
      · show 2 ≤ 4; omega
      · split
        · show 3 ≤ 4; omega
        · show 4 ≤ 4; omega
  · show 3 ≤ 4; omega
theorem itoa_D (n : Int) (D : ByteArray) (hD : dec n = D) (h0 : -9223372036854775808 ≤ n) (h1 : n ≤ 9223372036854775807) (w : World) (htab : Pow10 w) :
    Calls Ybaf.prog 14 #[.int .i64 n] w fun e w' => e = .returned (.string D) ∧ Below w.heap.size w w' := by
  rw [← hD]; exact itoa_any n h0 h1 w htab
theorem cell_new1 (w : World) (v : Value) (t : TypeId) : (w.alloc (.cells #[v] t)).cell? ⟨w.heap.size, 0, none⟩ = some v := by
  have h := Deep.blk_alloc_new w (.cells #[v] t)
  simp only [World.cell?, h]
  rfl
theorem ta69 (v : Value) (w : World) : (Instr.typeAssert (.iface 69 v) 65 69 true).run Ybaf.prog w = .ok (.tuple #[v, .bool true]) w := by kernel_rfl
theorem ta63 (v : Value) (w : World) : (Instr.typeAssert (.iface 63 v) 65 69 true).run Ybaf.prog w = .ok (.tuple #[.agg #[.nilIface], .bool false]) w := by kernel_rfl
theorem ta67 (v : Value) (w : World) : (Instr.typeAssert (.iface 67 v) 65 69 true).run Ybaf.prog w = .ok (.tuple #[.agg #[.nilIface], .bool false]) w := by kernel_rfl

set_option maxRecDepth 100000 in
set_option maxHeartbeats 800000 in
theorem takeAll_any (F : Interp) (B LG R SB X Y BB n : Nat) (st : List (Bool × Bool × Bool)) (pre : ByteArray) (first : Int) (pend : Bool) (w : World)
    (hF : F.answers w.tape) (hBw : B ≤ w.heap.size) (hLG : LG < B) (hR : R < B) (hne : LG ≠ R) (hn : n ≤ 4096) (hpre : pre.size ≤ 140737488351232) (hB6 : 6 < B) (h6L : 6 ≠ LG) (h6R : 6 ≠ R)
    (hX : pend = true → X < B ∧ X ≠ LG ∧ X ≠ R ∧ w.cell? ⟨X, 0, none⟩ = some (.slice (some ⟨Y, 0, none⟩) 1 1)) (hY : pend = true → Y < B ∧ Y ≠ LG ∧ Y ≠ R ∧ w.cell? ⟨Y, 0, none⟩ = some (.int .u8 1))
    (hBB : BB < B) (hBL : BB ≠ LG) (hBR : BB ≠ R) (hcells : ∀ j, j < n → w.cell? ⟨BB, j, none⟩ = some (stepV LG SB (st.getD j default))) (hp : Pow10 w)
    (hi : Inv B LG R st pre first (sentV pend X) w 0 w) :
    Calls Ybaf.prog 13 #[.pointer (some ⟨R, 0, none⟩), .string pre, .int .i64 first, .slice (some ⟨BB, 0, none⟩) n n] w (Ends B LG R SB X st pre first pend w n) := by
  have HX : Hid _ := hX
  have HY : Hid _ := hY
  have HC : Hid _ := hcells
  clear hX hY hcells
  have t1 := ta69
  have t2 := ta63
  have t3 := ta67
  go_enter Ybaf.func13, Ybaf.ntmps13
  go_wp2
  go_loopw [9, 10, 21] (fun a b c wr => ∃ k p l : Nat, k ≤ n ∧ Hid (cnt st k = (p, l)) ∧ a = .int .i64 (numAt first p) ∧ b = .int .i32 (97 + (l : Int)) ∧ c = .int .i64 k ∧ Hid (∀ j, j < k → okAt st pend j) ∧ Inv B LG R st pre first (sentV pend X) w k wr) (fun _ _ c _ => n - (intOf c).toNat)
  case atStart => exact ⟨0, 0, 0, Nat.zero_le _, rfl, by rw [numAt_zero], rfl, rfl, fun j hj => absurd hj (Nat.not_lt_zero _), hi⟩
  case round =>
    obtain ⟨k, p, l, hk, HCN, rfl, rfl, rfl, HOK, hinv⟩ := hrel
    have hl : l ≤ k := by have := (cnt_le st k).2; rw [HCN.out] at this; exact this
    have hnr := numAt_in first p
    by_cases hlt : k < n
    · have hcb : wr.cell? ⟨BB, k, none⟩ = some (stepV LG SB (st.getD k default)) := (World.cell?_of_block (a := ⟨BB, k, none⟩) (hinv.keep.block BB hBB hBL hBR)).trans (HC.out k hlt)
      have hpr : Pow10 wr := hp.keep hinv.keep hB6 h6L h6R
      obtain ⟨d, hd⟩ : ∃ d, st.getD k default = d := ⟨_, rfl⟩
      rw [hd] at hcb
      obtain ⟨u, e, f⟩ := d
      have HD : Hid _ := hd
      clear hd
      cases u with
      | true =>
        have hcb2 : wr.cell? ⟨BB, k, none⟩ = some (.iface 69 (.agg #[innerV LG SB e f])) := by rw [hcb]; cases e <;> rfl
        clear hcb
        obtain ⟨T, x, hin⟩ : ∃ T x, innerV LG SB e f = .iface T x := by cases e <;> exact ⟨_, _, rfl⟩
        rw [hin] at hcb2
        have HIN : Hid _ := hin
        clear hin
        go_wp2_with fail
        generalize hWe : wr.alloc (.cells #[.iface T x] 69) = W1
        have hb1 : Below wr.heap.size wr W1 := by rw [← hWe]; exact (Below.refl _ _).alloc (Nat.le_refl _) _
        have hc1 : W1.cell? ⟨wr.heap.size, 0, none⟩ = some (.iface T x) := by rw [← hWe]; exact cell_new1 _ _ _
        have hs1 : wr.heap.size < W1.heap.size := by rw [← hWe]; simp
        have hp1 : Pow10 W1 := hpr.keep (Keep.ofBelow (x := LG) (y := R) hb1) (by have := hinv.keep.size; omega) h6L h6R
        have hp1d : Hid (Pow10 W1.drew) := hp1.keep (Keep.refl 7 7 7 W1).drew (by omega) (by omega) (by omega)
        clear hWe hp1 hpr
        obtain ⟨D, hD⟩ : ∃ D, dec (numAt first p) = D := ⟨_, rfl⟩
        obtain ⟨E, hE⟩ : ∃ E, Utf8.encode (97 + (l : Int)) = E := ⟨_, rfl⟩
        have hds : D.size ≤ 32 := by rw [← hD]; exact dec_size first p
        have hes : E.size ≤ 4 := by rw [← hE]; exact enc_size _
        have hll : pre ++ D ++ E = label st pre first k := by rw [← hD, ← hE]; exact label_un pre first HD.out HCN.out
        have HD2 : Hid (dec (numAt first p) = D) := hD
        clear hD
        have r1 : ¬ pre.size + D.size > 9223372036854775807 := by omega
        have r2 : ¬ pre.size + D.size + E.size > 9223372036854775807 := by omega
        go_cut [12, 13] (fun a b wx => a = .iface T x ∧ b = .string (label st pre first k) ∧ Below wr.heap.size wr wx)
        case first =>
          have HLL : Hid _ := hll
          clear hll
          go_region_with (go_at_call 14; refine (itoa_D (numAt first p) D HD2.out hnr.1 hnr.2 _ hp1d.out).mono ?_; rintro e2 w2 ⟨rfl, hb2⟩; have hc2 : w2.cell? ⟨wr.heap.size, 0, none⟩ = some (.iface T x) := (hb2.cell (by exact hs1)).trans hc1)
          all_goals
            go_wp2_with fail
            go_meet
            case rel => exact ⟨rfl, by rw [HLL.out], hb1.drew.trans (hb2.mono (by exact Nat.le_of_lt hs1))⟩
        case rest =>
          obtain ⟨rfl, rfl, hbx⟩ := hcut
          clear hll r1 r2 hds hes hE hc1 hs1 hb1 hp1d HD2
          have hix := hinv.later hBw hLG hR hbx
          go_wp2_with (go_at_call 21; fail)
          refine (take_step' F B LG R SB X Y st pre first pend e f k w _ T x HIN.out hF hBw hLG hR hne (by omega) HX.out HY.out hix).mono ?_
          clear hcb2
          rintro en w3 (⟨hpd, hef, xx, rfl, hst⟩ | ⟨hpd, rfl, hi2⟩)
          · have HE : Hid (pend = true ∧ e = false) := ⟨hpd, hef⟩
            clear hpd hef
            go_wp2
            go_ret
            exact ⟨k, hk, HOK.out, Or.inr (Or.inl ⟨hlt, HE.out.1, by rw [HD.out]; exact HE.out.2, xx, rfl, hst⟩)⟩
          · have HP : Hid (pend = true → e = true) := hpd
            clear hpd
            cases f
            · go_wp2
              go_roundw
              case rel => exact ⟨k + 1, p, l + 1, by omega, cnt_un HD.out HCN.out, rfl, by go_num, by go_num, fun j hj => by
                rcases Nat.lt_succ_iff_lt_or_eq.1 hj with h | h
                · exact HOK.out j h
                · subst h; exact ⟨fun h => by rw [HD.out]; exact HP.out h, by rw [HD.out]⟩, hi2⟩
              case measure => simp [intOf]; omega
            · go_wp2
              go_ret
              exact ⟨k, hk, HOK.out, Or.inr (Or.inr ⟨hlt, fun h => by rw [HD.out]; exact HP.out h, by rw [HD.out], rfl, hi2⟩)⟩
      | false =>
        obtain ⟨T, x, hin, hTn⟩ : ∃ T x, innerV LG SB e f = .iface T x ∧ (∀ w, (Instr.typeAssert (.iface T x) 65 69 true).run Ybaf.prog w = .ok (.tuple #[.agg #[.nilIface], .bool false]) w) := by
          cases e
          · exact ⟨_, _, rfl, fun w => ta63 _ w⟩
          · exact ⟨_, _, rfl, fun w => ta67 _ w⟩
        have hcb2 : wr.cell? ⟨BB, k, none⟩ = some (.iface T x) := by rw [hcb, ← hin]; cases e <;> rfl
        clear hcb
        have HIN : Hid (innerV LG SB e f = .iface T x) := hin
        clear hin
        have hsu := numAt_succ first p
        obtain ⟨N, hN⟩ : ∃ N, numAt first p = N := ⟨_, rfl⟩
        obtain ⟨N2, hN2⟩ : ∃ N2, numAt first (p + 1) = N2 := ⟨_, rfl⟩
        have hnr2 := numAt_in first (p + 1)
        rw [hN, hN2] at hsu
        rw [hN] at hnr
        rw [hN2] at hnr2
        rw [hN]
        have HN2 : Hid (numAt first (p + 1) = N2) := hN2
        clear hN hN2
        go_wp2_with (go_at_call 14; fail)
        have HSU : Hid (wrap64 (N + 1) = N2) := hsu
        clear hsu
        obtain ⟨D, hD⟩ : ∃ D, dec N2 = D := ⟨_, rfl⟩
        have hds : D.size ≤ 32 := by rw [← hD, ← HN2.out]; exact dec_size first (p + 1)
        have hll : pre ++ D = label st pre first k := by rw [← hD, ← HN2.out]; exact label_pr pre first HD.out HCN.out
        have hp1 : Pow10 (wr.alloc (.cells #[.nilIface] 69)) := hpr.keep (Keep.ofBelow (x := LG) (y := R) ((Below.refl wr.heap.size wr).alloc (Nat.le_refl _) _)) (by have := hinv.keep.size; omega) h6L h6R
        refine (itoa_D N2 D hD hnr2.1 hnr2.2 _ hp1).mono ?_
        rintro e2 w2 ⟨rfl, hb2⟩
        have hbx : Below wr.heap.size wr w2 := ((Below.refl wr.heap.size wr).alloc (Nat.le_refl _) _).trans (hb2.mono (by simp))
        have hix := hinv.later hBw hLG hR hbx
        have r1 : ¬ pre.size + D.size > 9223372036854775807 := by omega
        clear hD hp1 hb2 hpr hcb2 hTn
        go_wp2_with (go_at_call 21; fail)
        refine (take_step' F B LG R SB X Y st pre first pend e f k w _ T x HIN.out hF hBw hLG hR hne (by omega) HX.out HY.out hix).mono ?_
        clear hll r1 hds
        rintro en w3 (⟨hpd, hef, xx, rfl, hst⟩ | ⟨hpd, rfl, hi2⟩)
        · have HE : Hid (pend = true ∧ e = false) := ⟨hpd, hef⟩
          clear hpd hef
          go_wp2
          go_ret
          exact ⟨k, hk, HOK.out, Or.inr (Or.inl ⟨hlt, HE.out.1, by rw [HD.out]; exact HE.out.2, xx, rfl, hst⟩)⟩
        · have HP : Hid (pend = true → e = true) := hpd
          clear hpd
          cases f
          · go_wp2
            go_roundw
            case rel => exact ⟨k + 1, p + 1, 0, by omega, cnt_pr HD.out HCN.out, by rw [HN2.out, ← HSU.out], by go_num, by go_num, fun j hj => by
              rcases Nat.lt_succ_iff_lt_or_eq.1 hj with h | h
              · exact HOK.out j h
              · subst h; exact ⟨fun h => by rw [HD.out]; exact HP.out h, by rw [HD.out]⟩, hi2⟩
            case measure => simp [intOf]; omega
          · go_wp2
            go_ret
            exact ⟨k, hk, HOK.out, Or.inr (Or.inr ⟨hlt, fun h => by rw [HD.out]; exact HP.out h, by rw [HD.out], rfl, hi2⟩)⟩
    · go_wp2
      go_ret
      exact ⟨k, hk, HOK.out, Or.inl ⟨by omega, rfl, hinv⟩⟩
end Go.Proofs.YbulkdwjcFmt
