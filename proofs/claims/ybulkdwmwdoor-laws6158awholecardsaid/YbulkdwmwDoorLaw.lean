import Derived.Test.YbulkdwmwDoorBehind
import Derived.Deep.OwnRows
import Derived.Laws.CopyOwn
import Derived.Lib.Builder
namespace Go.Proofs.YbulkdwmwDoor
open Go.RowKit
set_option linter.unusedVariables false

theorem info5 : (Ybad.prog.info? 5).map (fun i => (i.zero, i.size, i.bytes)) = some (some (.int .u8 0), 1, 1) := by kernel_rfl
theorem info5s : (Ybad.prog.info? 5).map (·.size) = some 1 := by kernel_rfl

theorem madeList (z : Value) (n : Nat) : madeCells #[z] n = (List.replicate n z).toArray := by
  apply Array.ext (by simp [size_madeCells])
  intro i h1 h2
  simp [madeCells, Nat.mod_one]

theorem bytes_get (zs : List Int) (n k : Nat) (v : Value) (h : ((zs.take n).map (Value.int .u8))[k]? = some v) : k < n ∧ v = .int .u8 (zs.getD k 0) := by
  rw [List.getElem?_map] at h
  rcases Nat.lt_or_ge k n with hk | hk
  · rw [List.getElem?_take_of_lt hk] at h
    refine ⟨hk, ?_⟩
    cases hq : zs[k]? with
    | none => rw [hq] at h; cases h
    | some q => rw [hq] at h; simp at h; simp [List.getD, hq, ← h]
  · rw [List.getElem?_eq_none (by simp; omega)] at h; cases h

theorem bytes_one (zs : List Int) (n : Nat) : ∀ v ∈ (zs.take n).map (Value.int .u8), v.oneCell' = true := by
  intro v hv
  obtain ⟨q, _, rfl⟩ := List.mem_map.1 hv
  rfl

theorem splice_all (z : Value) (n : Nat) (X : List Value) (h : X.length = n) : splice (List.replicate n z) 0 X = X := by
  simp [splice, h]

theorem row_cells {w2 : World} {g n : Nat} {zs : List Int} {X : List Value} (hX : X = (zs.take n).map (Value.int .u8)) (hl : X.length = n) (hz : n ≤ zs.length)
    (hg : w2.heap[g]? = some (.cells X.toArray 5 (0, 0))) : ∀ k, k < n → w2.cell? ⟨g, k, none⟩ = some (.int .u8 (zs.getD k 0)) := by
  intro k hk
  have hx : X[k]? = some (.int .u8 (zs.getD k 0)) := by
    rw [hX, List.getElem?_map, List.getElem?_take_of_lt hk, List.getElem?_eq_getElem (by omega)]
    simp [List.getD, List.getElem?_eq_getElem (show k < zs.length by omega)]
  simp [World.cell?, hg, hx]

theorem back (ls : Int) (i : Nat) (wl : -9223372036854775808 ≤ ls ∧ ls ≤ 9223372036854775807) (hi : i ≤ 1048576) : wrap64 (wrap64 (ls + (i : Int)) - ls) = (i : Int) := by
  unfold wrap64
  omega

theorem new_cells (w : World) (c0 c1 c2 : Value) (t : TypeId) : (w.alloc (.cells #[c0, c1, c2] t)).cell? ⟨w.heap.size, 0, none⟩ = some c0 ∧ (w.alloc (.cells #[c0, c1, c2] t)).cell? ⟨w.heap.size, 1, none⟩ = some c1 ∧ (w.alloc (.cells #[c0, c1, c2] t)).cell? ⟨w.heap.size, 2, none⟩ = some c2 := by
  have h := Deep.blk_alloc_new w (.cells #[c0, c1, c2] t)
  simp only [World.cell?, h]
  exact ⟨rfl, rfl, rfl⟩

set_option maxRecDepth 100000 in
set_option maxHeartbeats 400000 in
theorem law_walk (a0 : Option Addr) (n cap : Nat) (zs : List Int) (ls a b : Int) (w : World) (hn : n ≤ 1048576) (hz : n ≤ zs.length) (wl : -9223372036854775808 ≤ ls ∧ ls ≤ 9223372036854775807) (wa : 0 ≤ a ∧ a < 18446744073709551616) (wb : 0 ≤ b ∧ b < 18446744073709551616)
    (hcell : ∀ k, k < n → ∃ db off, a0 = some ⟨db, off, none⟩ ∧ w.cell? ⟨db, off + k, none⟩ = some (.int .u8 (zs.getD k 0))) :
    Calls Ybad.prog 3 #[.slice a0 n cap, .int .i64 ls, .int .u64 a, .int .u64 b] w fun e w' => e = .returned (.bool true) ∧ Below w.heap.size w w' := by
  obtain ⟨i0, hi0, hz0, hz1, hz2⟩ := info_parts info5
  have hg1 : Hid ((w.alloc (.cells (madeCells #[.int .u8 0] n) 5)).heap[w.heap.size]? = some (.cells (List.replicate n (Value.int .u8 0)).toArray 5 (0, 0))) := by
    show _ = _
    rw [madeList]; exact Deep.blk_alloc_new _ _
  obtain ⟨X, hX⟩ : ∃ X, X = (zs.take n).map (Value.int .u8) := ⟨_, rfl⟩
  have hXl : X.length = n := by rw [hX, List.length_map, List.length_take]; omega
  have hXg : Hid (∀ k v, X[k]? = some v → k < n ∧ v = .int .u8 (zs.getD k 0)) := by
    rw [hX]; exact bytes_get zs n
  have hX1 : Hid (∀ v ∈ X, v.oneCell' = true) := by rw [hX]; exact bytes_one zs n
  have HX := (show Hid _ from hX)
  clear hX
  have hpe := fun (w : World) (a : Addr) => Lib.run_neq_ptr_same (P := Ybad.prog) (tp := 29) (te := 5) (w := w) a Ybad.underlying29 hi0
  go_enter Ybad.func3, Ybad.ntmps3
  go_wp2_with (first | (at_make; refine wpList_make_row _ rfl _ _ 22 rfl 5 i0 (.int .u8 0) Ybad.underlying22 hi0 hz0 hz1 rfl _ _ n rfl rfl ?c1 ?c2 ?_) | (refine wpList_copy_splice rfl (.tmp 26) (.tmp 27) 22 22 rfl 5 Ybad.underlying22 info5s _ _ _ _ _ _ rfl rfl w.heap.size 0 (List.replicate n (Value.int .u8 0)) 5 ?d1 X ?d2 ?d3 ?d4 ?d5 w.heap.size w ?d6 ?d7 ?_) | (go_at_call 4; fail))
  case c1 => rw [hz2]; omega
  case c2 => omega
  case d1 => exact hg1
  case d2 => simp [hXl]
  case d3 =>
    intro hp
    obtain ⟨db, off, rfl, _⟩ := hcell 0 (by omega)
    refine ⟨⟨db, off, none⟩, rfl, fun j v hj => ?_⟩
    obtain ⟨h1, rfl⟩ := hXg.out j v hj
    obtain ⟨db', off', e, hc⟩ := hcell j h1
    cases e
    rw [show (⟨db, off, none⟩ : Addr).add j = ⟨db, off + j, none⟩ from by simp [Addr.add]]
    exact (((Below.refl w.heap.size w).alloc (Nat.le_refl _) (.cells (madeCells #[.int .u8 0] n) 5)).cell (World.block_lt_of_cell? _ _ hc)).trans hc
  case d4 => simp [hXl]
  case d5 => exact hX1
  case d6 => exact (Below.refl _ _).alloc (Nat.le_refl _) _
  case d7 => exact Nat.le_refl _
  intro w2 HG2 hB2
  have hg2 := HG2.out
  rw [splice_all _ _ _ hXl] at hg2
  have hc2 := row_cells HX.out hXl hz hg2
  have hcd : ∀ k, k < n → ∃ db off, a0 = some ⟨db, off, none⟩ ∧ w2.cell? ⟨db, off + k, none⟩ = some (.int .u8 (zs.getD k 0)) := by
    intro k hk
    obtain ⟨db, off, e, hc⟩ := hcell k hk
    exact ⟨db, off, e, (hB2.cell (World.block_lt_of_cell? _ _ hc)).trans hc⟩
  have hgl : w.heap.size < w2.heap.size := by
    rcases Nat.lt_or_ge w.heap.size w2.heap.size with h | h
    · exact h
    · rw [Array.getElem?_eq_none h] at hg2; cases hg2
  clear HG2 hg2 hXl hX1 hXg HX hcell hg1 hz0 hz1 hz2
  -- the two cuts as natural numbers
  obtain ⟨i, hi⟩ : ∃ i : Nat, a % ((n : Int) + 1) = (i : Int) := ⟨(a % ((n : Int) + 1)).toNat, by have := Int.emod_nonneg a (show ((n : Int) + 1) ≠ 0 by omega); omega⟩
  have hin : i ≤ n := by have := Int.emod_lt_of_pos a (show (0 : Int) < (n : Int) + 1 by omega); omega
  obtain ⟨m, hm⟩ : ∃ m : Nat, b % ((n : Int) + 1 - (i : Int)) = (m : Int) := ⟨(b % ((n : Int) + 1 - (i : Int))).toNat, by have := Int.emod_nonneg b (show ((n : Int) + 1 - (i : Int)) ≠ 0 by omega); omega⟩
  have hmn : i + m ≤ n := by have := Int.emod_lt_of_pos b (show (0 : Int) < (n : Int) + 1 - (i : Int) by omega); omega
  go_wp2_with (go_at_call 4; fail)
  generalize hWe : w2.alloc (.cells #[.pointer none, .slice (some ⟨w.heap.size, 0, none⟩) n n, .int .i64 ls] 27) = W
  have hBW : Below w.heap.size w W := by rw [← hWe]; exact hB2.alloc (by omega) _
  have hbl : Below w2.heap.size w2 W := by rw [← hWe]; exact (Below.refl _ _).alloc (Nat.le_refl _) _
  have cl := new_cells w2 (.pointer none) (.slice (some ⟨w.heap.size, 0, none⟩) n n) (.int .i64 ls) 27
  rw [hWe] at cl
  obtain ⟨cl0, cl1, cl2⟩ := cl
  have hcW : ∀ k, k < n → W.cell? ⟨w.heap.size, k, none⟩ = some (.int .u8 (zs.getD k 0)) := fun k hk => (hbl.cell (by exact hgl)).trans (hc2 k hk)
  have hcdW : ∀ k, k < n → ∃ db off, a0 = some ⟨db, off, none⟩ ∧ W.cell? ⟨db, off + k, none⟩ = some (.int .u8 (zs.getD k 0)) := by
    intro k hk
    obtain ⟨db, off, e, hc⟩ := hcd k hk
    exact ⟨db, off, e, (hbl.cell (World.block_lt_of_cell? _ _ hc)).trans hc⟩
  clear hWe hc2 hcd hbl hB2
  refine (behind_any w2.heap.size w.heap.size i (i + m) n ls _ _ _ (by omega) hmn hn (back ls i wl (by omega)) (by have := back ls (i + m) wl (by omega); simpa using this) cl1 cl2).mono ?_
  rintro e w3 ⟨⟨o, ho, rfl⟩, nq, rfl⟩
  clear hi hm hgl
  have HcW := (show Hid _ from hcW)
  have HcdW := (show Hid _ from hcdW)
  have Ho := (show Hid _ from ho)
  clear hcW hcdW ho
  rw [show i + m - i = m from by omega]
  obtain ⟨c, hc⟩ : ∃ c, n - i = c := ⟨_, rfl⟩
  rw [hc]
  have hc1 : i + c ≤ n := by omega
  have hc2 : n ≤ i + c := by omega
  have he1 : (i : Int) + (m : Int) - (i : Int) = (m : Int) := by omega
  have he2 : (n : Int) - (i : Int) = (c : Int) := by omega
  clear hc
  go_wp2_with fail
  go_loopw [17] (fun kv wr => ∃ k q : Nat, k ≤ m ∧ kv = .int .i64 k ∧ wr = W.drewN q) (fun kv _ => m - (intOf kv).toNat)
  case atStart => exact ⟨0, nq, Nat.zero_le _, rfl, rfl⟩
  case round =>
    obtain ⟨k, q, hk, rfl, rfl⟩ := hrel
    by_cases hlt : k < m
    · obtain ⟨db, off, rfl, hd⟩ := HcdW.out (i + k) (by omega)
      have hr := HcW.out (i + k) (by omega)
      obtain rfl : i = o := (Ho.out (by omega)).symm
      have hb1 : ((i : Int) + (k : Int)) < (n : Int) := by omega
      go_wp2
      go_quiet (fail)
      go_wp2
      go_roundw
      case rel => exact ⟨k + 1, _, by omega, by go_num, rfl⟩
      case measure => simp [intOf]; omega
    · go_wp2
      by_cases hm0 : 0 < m
      · obtain rfl : i = o := (Ho.out (by omega)).symm
        have hg1 : ((i : Int) < (i : Int) + (m : Int)) := by omega
        have hg2 : ((i : Int) < (n : Int)) := by omega
        have hg4 : ((0 : Int) < (m : Int)) := by omega
        go_quiet (fail)
        go_wp2
        have hn0 : 0 < n := by omega
        have hg3 : ((0 : Int) < (n : Int)) := by omega
        go_quiet (fail)
        go_wp2
        go_loopw [18] (fun kv wr => ∃ k q : Nat, k ≤ n ∧ kv = .int .i64 k ∧ wr = W.drewN q) (fun kv _ => n - (intOf kv).toNat)
        case atStart => exact ⟨0, _, Nat.zero_le _, rfl, World.drewN_drewN _ _ _⟩
        case round =>
          obtain ⟨k2, q2, hk2, rfl, rfl⟩ := hrel
          by_cases hlt2 : k2 < n
          · obtain ⟨db, off, rfl, hd⟩ := HcdW.out k2 (by omega)
            have hr := HcW.out k2 (by omega)
            go_wp2
            go_quiet (fail)
            go_wp2
            go_roundw
            case rel => exact ⟨k2 + 1, _, by omega, by go_num, rfl⟩
            case measure => simp [intOf]; omega
          · go_wp2
            go_ret
            exact ⟨rfl, below_drewN hBW _⟩
      · have hg1 : decide ((i : Int) < (i : Int) + (m : Int)) = false := decide_eq_false (by omega)
        go_quiet (fail)
        go_wp2
        by_cases hn0 : 0 < n
        · have hg3 : ((0 : Int) < (n : Int)) := by omega
          go_quiet (fail)
          go_wp2
          go_loopw [18] (fun kv wr => ∃ k q : Nat, k ≤ n ∧ kv = .int .i64 k ∧ wr = W.drewN q) (fun kv _ => n - (intOf kv).toNat)
          case atStart => exact ⟨0, _, Nat.zero_le _, rfl, World.drewN_drewN _ _ _⟩
          case round =>
            obtain ⟨k2, q2, hk2, rfl, rfl⟩ := hrel
            by_cases hlt2 : k2 < n
            · obtain ⟨db, off, rfl, hd⟩ := HcdW.out k2 (by omega)
              have hr := HcW.out k2 (by omega)
              go_wp2
              go_quiet (fail)
              go_wp2
              go_roundw
              case rel => exact ⟨k2 + 1, _, by omega, by go_num, rfl⟩
              case measure => simp [intOf]; omega
            · go_wp2
              go_ret
              exact ⟨rfl, below_drewN hBW _⟩
        · have hg3 : decide ((0 : Int) < (n : Int)) = false := decide_eq_false (by omega)
          go_quiet (fail)
          go_wp2
          go_loopw [18] (fun kv wr => ∃ k q : Nat, k ≤ n ∧ kv = .int .i64 k ∧ wr = W.drewN q) (fun kv _ => n - (intOf kv).toNat)
          case atStart => exact ⟨0, _, Nat.zero_le _, rfl, World.drewN_drewN _ _ _⟩
          case round =>
            obtain ⟨k2, q2, hk2, rfl, rfl⟩ := hrel
            by_cases hlt2 : k2 < n
            · obtain ⟨db, off, rfl, hd⟩ := HcdW.out k2 (by omega)
              have hr := HcW.out k2 (by omega)
              go_wp2
              go_quiet (fail)
              go_wp2
              go_roundw
              case rel => exact ⟨k2 + 1, _, by omega, by go_num, rfl⟩
              case measure => simp [intOf]; omega
            · go_wp2
              go_ret
              exact ⟨rfl, below_drewN hBW _⟩
end Go.Proofs.YbulkdwmwDoor
