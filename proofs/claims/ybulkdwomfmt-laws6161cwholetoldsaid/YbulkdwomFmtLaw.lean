import Derived.Test.YbulkdwomFmtRound
import Derived.Deep.CutBlock
namespace Go.Proofs.YbulkdwomFmt
open Go Go.RowKit Go.Maps Go.Extern.Stop Go.Stop Go.Extern
set_option linter.unusedVariables false

def CrAt (w : World) (c0 : Option Addr) (n : Nat) (Nd At : Nat → Int) : Prop :=
  ∀ k, k < n → ∃ db off, c0 = some ⟨db, off, none⟩ ∧ w.cell? ⟨db, off + k * 2, none⟩ = some (.int .i64 (Nd k)) ∧ w.cell? ⟨db, off + k * 2 + 1, none⟩ = some (.int .i64 (At k)) ∧ I64 (Nd k) ∧ I64 (At k)
def LiAt (w : World) (l0 : Option Addr) (n : Nat) (Li : Nat → Int) : Prop :=
  ∀ k, k < n → ∃ db off, l0 = some ⟨db, off, none⟩ ∧ w.cell? ⟨db, off + k, none⟩ = some (.int .i64 (Li k)) ∧ I64 (Li k)
def SuAt (w : World) (s0 : Option Addr) (n : Nat) (Sn Sp Ss : Nat → Int) (Sw : Nat → Bool) : Prop :=
  ∀ k, k < n → ∃ db off, s0 = some ⟨db, off, none⟩ ∧ w.cell? ⟨db, off + k * 4, none⟩ = some (.int .i64 (Sn k)) ∧ w.cell? ⟨db, off + k * 4 + 1, none⟩ = some (.int .i64 (Sp k)) ∧ w.cell? ⟨db, off + k * 4 + 2, none⟩ = some (.int .i64 (Ss k)) ∧ w.cell? ⟨db, off + k * 4 + 3, none⟩ = some (.bool (Sw k)) ∧ I64 (Sn k) ∧ I64 (Sp k)

set_option maxRecDepth 100000 in
set_option maxHeartbeats 1600000 in
theorem law_walk (F : Interp) (c0 l0 s0 : Option Addr) (nc nl ns cc cl cs : Nat) (fs node peer t : Int) (Nd At Li Sn Sp Ss : Nat → Int) (Sw : Nat → Bool) (w : World) (hF : F.answers w.tape) (hn : nc + nl + ns ≤ 1048576)
    (hnode : I64 node) (hpeer : I64 peer) (hcr : CrAt w c0 nc Nd At) (hli : LiAt w l0 nl Li) (hsu : SuAt w s0 ns Sn Sp Ss Sw) :
    Calls Ybaf.prog 4 #[.slice c0 nc cc, .slice l0 nl cl, .slice s0 ns cs, .int .i64 fs, .int .i64 node, .int .i64 peer, .int .i64 t] w fun e w' => e = .returned (.bool true) ∧ Below w.heap.size w w' := by
  have hmm := @run_makeMap Ybaf.prog
  have HCR : Hid (CrAt w c0 nc Nd At) := hcr
  have HLI : Hid (LiAt w l0 nl Li) := hli
  have HSU : Hid (SuAt w s0 ns Sn Sp Ss Sw) := hsu
  have HN : Hid (I64 node) := hnode
  have HP : Hid (I64 peer) := hpeer
  have HF : Hid (F.answers w.tape) := hF
  clear hcr hli hsu hnode hpeer hF
  have hmx : maxLen = 9223372036854775807 := rfl
  go_enter Ybaf.func4, Ybaf.ntmps4
  go_wp2
  clear hmm
  go_loopw [57] (fun a wr => ∃ (k : Nat) (Dc : D0), k ≤ nc ∧ a = .int .i64 k ∧ CrOk Dc peer (lastAt Nd At peer k) ∧ St w.heap.size w fs k Dc (.map []) (.map []) (.map []) wr) (fun a _ => nc - (intOf a).toNat)
  case atStart => exact ⟨0, .map [], Nat.zero_le _, rfl, cr_start peer, st_start w fs _ rfl rfl rfl rfl⟩
  case round =>
    obtain ⟨k, Dc, hk, rfl, hcr, hst⟩ := hrel
    by_cases hlt : k < nc
    · obtain ⟨db, off, rfl, q0, q1, i0, i1⟩ := HCR.out k hlt
      have b0 := (hst.below.cell (World.block_lt_of_cell? _ _ q0)).trans q0
      have b1 := (hst.below.cell (World.block_lt_of_cell? _ _ q1)).trans q1
      have c4 := (hst.later ((Below.refl _ wr).alloc (Nat.le_refl _) (.cells #[.int .i64 (Nd k), .int .i64 (At k)] 60)) (Nat.le_refl _)).c4
      obtain ⟨w5, hrun, hst5⟩ := round_c hst (.cells #[.int .i64 (Nd k), .int .i64 (At k)] 60) i0 i1 (by rw [hmx]; omega)
      have HS5 : Hid (St w.heap.size w fs (k + 1) (Dc.put (.int .i64 (Nd k)) (.lit (.int .i64 (At k)))) (.map []) (.map []) (.map []) w5) := hst5
      have HC5 : Hid (CrOk (Dc.put (.int .i64 (Nd k)) (.lit (.int .i64 (At k)))) peer (lastAt Nd At peer (k + 1))) := cr_step hst.mc.isMap HP.out hcr _ _
      clear q0 q1 i0 i1 hst5 hst hcr
      go_wp2
      go_region
      go_wp2
      go_roundw
      case rel => exact ⟨k + 1, _, by omega, by go_num, HC5.out, HS5.out⟩
      case measure => simp [intOf]; omega
    · obtain rfl : nc = k := by omega
      go_wp2
      go_loopw [72] (fun a wr => ∃ (k : Nat) (Dl : D0), k ≤ nl ∧ a = .int .i64 k ∧ LiOk Dl peer (inL Li peer k) ∧ St w.heap.size w fs (nc + k) Dc Dl (.map []) (.map []) wr) (fun a _ => nl - (intOf a).toNat)
      case atStart => exact ⟨0, .map [], Nat.zero_le _, rfl, li_start peer, hst⟩
      case round =>
        clear hst
        obtain ⟨k, Dl, hk, rfl, hlo, hst⟩ := hrel
        by_cases hlt : k < nl
        · obtain ⟨db, off, rfl, q0, i0⟩ := HLI.out k hlt
          have b0 := (hst.below.cell (World.block_lt_of_cell? _ _ q0)).trans q0
          have c3 := hst.c3
          obtain ⟨w5, hrun, hst5⟩ := round_l hst i0 (by rw [hmx]; omega)
          have HS5 : Hid (St w.heap.size w fs (nc + k + 1) Dc (Dl.put (.int .i64 (Li k)) (.lit (.bool true))) (.map []) (.map []) w5) := hst5
          have HC5 : Hid (LiOk (Dl.put (.int .i64 (Li k)) (.lit (.bool true))) peer (inL Li peer (k + 1))) := li_step hst.ml.isMap HP.out hlo _
          clear q0 i0 hst5 hst hlo
          go_wp2
          go_roundw
          case rel => exact ⟨k + 1, _, by omega, by go_num, HC5.out, HS5.out⟩
          case measure => simp [intOf]; omega
        · obtain rfl : nl = k := by omega
          go_wp2
          go_loopw [84] (fun a wr => ∃ (k : Nat) (D : D0), k ≤ ns ∧ a = .int .i64 k ∧ Hid (∀ j, j < k → Maps.has D (kk (Sn j) (Sp j)) = true) ∧ St w.heap.size w fs (nc + nl + k) Dc Dl D D wr) (fun a _ => ns - (intOf a).toNat)
          case atStart => exact ⟨0, .map [], Nat.zero_le _, rfl, fun j hj => absurd hj (Nat.not_lt_zero _), hst⟩
          case round =>
            clear hst
            obtain ⟨k, D, hk, rfl, HHA, hst⟩ := hrel
            by_cases hlt : k < ns
            · obtain ⟨db, off, rfl, q0, q1, q2, q3, i0, i1⟩ := HSU.out k hlt
              have b0 := (hst.below.cell (World.block_lt_of_cell? _ _ q0)).trans q0
              have b1 := (hst.below.cell (World.block_lt_of_cell? _ _ q1)).trans q1
              have b2 := (hst.below.cell (World.block_lt_of_cell? _ _ q2)).trans q2
              have b3 := (hst.below.cell (World.block_lt_of_cell? _ _ q3)).trans q3
              have c21 := fun o1 o2 o3 => (hst.later ((((Below.refl _ wr).alloc (Nat.le_refl _) o1).alloc (by simp) o2).alloc (by simp; omega) o3) (Nat.le_refl _)).c21
              obtain ⟨w5, w6, hrun5, ⟨d0, d1, d2, d3⟩, hrun6, hst6⟩ := round_s hst (.cells #[.int .i64 (Sn k), .int .i64 (Sp k), .int .i64 (Ss k), .bool (Sw k)] 63) (Ss k) (Sw k) i0 i1 (by rw [hmx]; omega)
              have HS6 : Hid (St w.heap.size w fs (nc + nl + k + 1) Dc Dl (D.put (kk (Sn k) (Sp k)) (sd (Ss k) (Sw k))) (D.put (kk (Sn k) (Sp k)) (sd (Ss k) (Sw k))) w6) := hst6
              have HH6 : Hid (∀ j, j < k + 1 → Maps.has (D.put (kk (Sn k) (Sp k)) (sd (Ss k) (Sw k))) (kk (Sn j) (Sp j)) = true) := has_step hst.ms.isMap (isKey65 i0 i1) HHA.out _
              clear q0 q1 q2 q3 i0 i1 hst6 hst HHA
              go_wp2
              go_region
              go_wp2
              go_roundw
              case rel => exact ⟨k + 1, _, by omega, by go_num, HH6.out, HS6.out⟩
              case measure => simp [intOf]; omega
            · obtain rfl : ns = k := by omega
              obtain ⟨sv0, xv0, _, hlw⟩ := look_w (hst.later ((Below.refl _ wr).alloc (Nat.le_refl _) (.cells #[.int .i64 node, .int .i64 peer] 65)) (Nat.le_refl _)) HN.out HP.out
              obtain ⟨hd, hhd⟩ : ∃ hd, Maps.has D (kk node peer) = hd := ⟨_, rfl⟩
              rw [hhd] at hlw
              have HHD : Hid (Maps.has D (kk node peer) = hd) := hhd
              have HSY : Hid (Says Dc Dl peer (lastAt Nd At peer nc) (inL Li peer nl)) := ⟨hcr.has, hcr.at_, hlo⟩
              have HST : Hid (St w.heap.size w fs (nc + nl + ns) Dc Dl D D wr) := hst
              clear hhd hst hcr hlo
              go_upto_block 6 with (fail)
              generalize hWe : (wr.alloc (.cells #[.int .i64 node, .int .i64 peer] 65)).alloc (.cells #[.int .i64 sv0, .bool xv0] 67) = W
              have hP : Pre w.heap.size w fs (nc + nl + ns) Dc Dl D wr.heap.size node peer W := by rw [← hWe]; exact pre_mk HST.out node peer _
              clear hWe HST hlw
              generalize wr.heap.size = KB at hP ⊢
              go_cut [28] (fun a wx => a = .bool (crashed (lastAt Nd At peer nc) t) ∧ wx = W)
              case first =>
                go_wp2
                go_loopw [28, 29] (fun a b wx => ∃ (k : Nat) (i : Int), k ≤ nc ∧ i = (k : Int) - 1 ∧ a = .bool false ∧ b = .int .i64 i ∧ wx = W ∧ Hid (lastAt Nd At peer nc = lastAt Nd At peer k)) (fun _ b _ => (intOf b + 1).toNat)
                case atStart => exact ⟨nc, _, Nat.le_refl _, rfl, rfl, rfl, rfl, rfl⟩
                case round =>
                  obtain ⟨k, i, hk, hi, rfl, rfl, rfl, HL⟩ := hrel
                  cases k with
                  | zero =>
                    obtain rfl : i = -1 := by omega
                    clear hi
                    go_wp2
                    go_meet
                    case rel => exact ⟨by rw [HL.out]; rfl, rfl⟩
                  | succ j =>
                    obtain rfl : i = (j : Int) := by omega
                    clear hi
                    obtain ⟨db, off, rfl, q0, q1, i0, i1⟩ := HCR.out j (by omega)
                    have b0 := (hP.st.below.cell (World.block_lt_of_cell? _ _ q0)).trans q0
                    have b1 := (hP.st.below.cell (World.block_lt_of_cell? _ _ q1)).trans q1
                    have hj1 : j < nc := by omega
                    have hj2 : (j : Int) < (nc : Int) := by omega
                    by_cases hx : Nd j = peer
                    · have HL2 : Hid (crashed (lastAt Nd At peer nc) t = decide (At j ≤ t)) := by
                        show _ = _
                        rw [HL.out]; simp only [lastAt, if_pos hx, crashed]
                      clear q0 q1 i0 i1
                      go_wp2
                      go_meet
                      case rel => exact ⟨by rw [HL2.out], rfl⟩
                    · have HL2 : Hid (lastAt Nd At peer nc = lastAt Nd At peer j) := by
                        show _ = _
                        rw [HL.out]; simp only [lastAt, if_neg hx]
                      clear q0 q1 i0 i1
                      go_wp2
                      go_roundw
                      case rel => exact ⟨j, (j : Int) - 1, by omega, rfl, rfl, by go_num, (by first | rfl | trivial), HL2.out⟩
                      case measure => simp [intOf] <;> omega
              case rest =>
                obtain ⟨rfl, rfl⟩ := hcut
                obtain ⟨cr, hcre⟩ : ∃ cr, crashed (lastAt Nd At peer nc) t = cr := ⟨_, rfl⟩
                obtain ⟨wg, hwge⟩ : ∃ wg, (!crashed (lastAt Nd At peer nc) t && !inL Li peer nl) = wg := ⟨_, rfl⟩
                have HWG : Hid ((!crashed (lastAt Nd At peer nc) t && !inL Li peer nl) = wg) := hwge
                rw [hcre] at hwge ⊢
                have HW2 : Hid ((!cr && !inL Li peer nl) = wg) := hwge
                clear hcre hwge
                have HLC : Hid (∀ k, k < nl → ∃ db off, l0 = some ⟨db, off, none⟩ ∧ wc.cell? ⟨db, off + k, none⟩ = some (.int .i64 (Li k))) := fun k hk => by
                  obtain ⟨db, off, e, q, _⟩ := HLI.out k hk
                  exact ⟨db, off, e, (hP.st.below.cell (World.block_lt_of_cell? _ _ q)).trans q⟩
                go_upto_region 31 with (fail)
                go_cut [30] (fun a wx => a = .bool wg ∧ wx = wc)
                case first =>
                  cases cr
                  · go_wp2_with (go_at_call 9; refine (contains_any l0 nl cl Li peer _ (by omega) HLC.out).mono ?_; rintro e w2 ⟨rfl, rfl⟩)
                    go_meet
                    case rel => exact ⟨by rw [← HW2.out]; rfl, rfl⟩
                  · go_wp2
                    go_meet
                    case rel => exact ⟨by rw [← HW2.out]; rfl, rfl⟩
                case rest =>
                  obtain ⟨rfl, rfl⟩ := hcut
                  clear HW2 HLC
                  have k0 := hP.k0
                  have k1 := hP.k1
                  have HPR : Hid (Pre w.heap.size w fs (nc + nl + ns) Dc Dl D KB node peer wc) := hP
                  clear hP
                  go_wp2_with (go_at_call 10; fail)
                  refine (suspect_both F HPR.out.st HF.out HN.out HP.out t hd HHD.out (by rw [hmx]; omega) HSY.out wg HWG.out).mono ?_
                  rintro e w2 ⟨v, rfl, hv⟩
                  have HV : Hid (SusPost w.heap.size w fs (nc + nl + ns) Dc Dl D wg hd node peer t wc v w2) := hv
                  clear hv k0 k1
                  go_upto_if 151 with (fail)
                  go_cut [] (fun wx => Fin w.heap.size w ns Sn Sp wx)
                  case first =>
                    have e1 := eql_err
                    have e2 := neq_ok
                    have e3 := neq67
                    rcases HV.out with ⟨rfl, ⟨x, rfl⟩, hb2⟩ | ⟨rfl, rfl, hst2, hrest⟩
                    · have hst2 := HPR.out.st.later hb2 (Nat.le_refl _)
                      have c22 := hst2.c22
                      have c21 := hst2.c21
                      have n3 := hst2.ms.len Ybaf.underlying40 3
                      have n4 := hst2.mw.len Ybaf.underlying40 3
                      have HFI : Hid (Fin w.heap.size w ns Sn Sp w2) := fin_same hst2 ns Sn Sp
                      clear hst2 hb2
                      go_wp2
                      go_meet
                      case rel => exact HFI.out
                    · have hnew := new_of HPR.out (by omega) HN.out HP.out HHD.out hst2 hrest
                      have HFI : Hid (Fin w.heap.size w ns Sn Sp w2) := fin_new hst2 HHD.out HHA.out
                      clear hst2 hrest
                      obtain ⟨z, hz⟩ : ∃ z, Maps.size D = z := ⟨_, rfl⟩
                      rw [hz] at hnew
                      clear hz
                      obtain ⟨c22, c21, c21a, k0, k1, k0a, k1a, n3, n4, hz, lk, lka⟩ := hnew
                      cases wg
                      · simp only [Bool.false_eq_true, if_false] at c22
                        go_wp2
                        go_region
                        go_wp2
                        go_meet
                        case rel => exact HFI.out.later (((Below.refl _ w2).alloc (Nat.le_refl _) _).drew)
                      · simp only [if_true] at c22
                        go_wp2
                        go_region
                        go_wp2
                        go_meet
                        case rel => exact HFI.out.later (((Below.refl _ w2).alloc (Nat.le_refl _) _).drew)
                  case rest =>
                    have HC : Hid (Fin w.heap.size w ns Sn Sp wc) := hcut
                    clear hcut
                    go_wp2
                    go_loopw [214] (fun a wx => ∃ k : Nat, k ≤ ns ∧ a = .int .i64 k ∧ Fin w.heap.size w ns Sn Sp wx) (fun a _ => ns - (intOf a).toNat)
                    case atStart => exact ⟨0, Nat.zero_le _, rfl, HC.out⟩
                    case round =>
                      obtain ⟨k, hk, rfl, hfi⟩ := hrel
                      by_cases hlt : k < ns
                      · obtain ⟨db, off, rfl, q0, q1, q2, q3, i0, i1⟩ := HSU.out k hlt
                        have b0 := ((fin_below hfi).cell (World.block_lt_of_cell? _ _ q0)).trans q0
                        have b1 := ((fin_below hfi).cell (World.block_lt_of_cell? _ _ q1)).trans q1
                        have b2 := ((fin_below hfi).cell (World.block_lt_of_cell? _ _ q2)).trans q2
                        have b3 := ((fin_below hfi).cell (World.block_lt_of_cell? _ _ q3)).trans q3
                        obtain ⟨s, x, hlk⟩ := look_two hfi hlt i0 i1
                        have hbe : Below wr.heap.size wr ((wr.alloc (.cells #[.int .i64 (Sn k), .int .i64 (Sp k), .int .i64 (Ss k), .bool (Sw k)] 63)).alloc (.cells #[.int .i64 (Sn k), .int .i64 (Sp k)] 65)) := ((Below.refl _ wr).alloc (Nat.le_refl _) _).alloc (by simp) _
                        obtain ⟨_, _, c21⟩ := hlk _ hbe
                        obtain ⟨l3, l4, _⟩ := hlk _ hbe.drew
                        have HFI : Hid (Fin w.heap.size w ns Sn Sp ((wr.alloc (.cells #[.int .i64 (Sn k), .int .i64 (Sp k), .int .i64 (Ss k), .bool (Sw k)] 63)).alloc (.cells #[.int .i64 (Sn k), .int .i64 (Sp k)] 65)).drew) := hfi.later hbe.drew
                        have e3 := neq67
                        clear q0 q1 q2 q3 i0 i1 hlk hbe hfi
                        go_wp2
                        go_region
                        go_wp2
                        go_roundw
                        case rel => exact ⟨k + 1, by omega, by go_num, HFI.out⟩
                        case measure => simp [intOf]; omega
                      · go_wp2
                        go_ret
                        exact ⟨rfl, fin_below hfi⟩
end Go.Proofs.YbulkdwomFmt
