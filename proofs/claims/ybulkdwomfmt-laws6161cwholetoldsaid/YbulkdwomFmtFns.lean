import Derived.Test.YbulkdwomFmtBase
namespace Go.Proofs.YbulkdwomFmt
open Go Go.RowKit Go.Maps Go.Extern.Stop Go.Stop Go.Extern
set_option linter.unusedVariables false

/-- Is x among the first k? -/
def inL (Li : Nat → Int) (x : Int) : Nat → Bool
  | 0 => false
  | k + 1 => inL Li x k || decide (Li k = x)

theorem inL_true {Li : Nat → Int} {x : Int} : ∀ {n k : Nat}, k < n → Li k = x → inL Li x n = true
  | n + 1, k, hk, h => by
    unfold inL
    by_cases e : k = n
    · subst e; simp [h]
    · rw [inL_true (by omega) h]; rfl
theorem inL_false {Li : Nat → Int} {x : Int} : ∀ {n : Nat}, (∀ k, k < n → Li k ≠ x) → inL Li x n = false
  | 0, _ => rfl
  | n + 1, h => by
    unfold inL
    rw [inL_false (fun k hk => h k (by omega))]
    simp [h n (by omega)]

set_option maxRecDepth 100000 in
set_option maxHeartbeats 400000 in
theorem index_any (l0 : Option Addr) (n cap : Nat) (Li : Nat → Int) (x : Int) (w : World) (hn : n ≤ 1048576) (hc : ∀ k, k < n → ∃ db off, l0 = some ⟨db, off, none⟩ ∧ w.cell? ⟨db, off + k, none⟩ = some (.int .i64 (Li k))) :
    Calls Ybaf.prog 18 #[.slice l0 n cap, .int .i64 x] w fun e w' => w' = w ∧ ∃ r : Int, e = .returned (.int .i64 r) ∧ decide (0 ≤ r) = inL Li x n := by
  have HC : Hid (∀ k, k < n → ∃ db off, l0 = some ⟨db, off, none⟩ ∧ w.cell? ⟨db, off + k, none⟩ = some (.int .i64 (Li k))) := hc
  clear hc
  go_enter Ybaf.func18, Ybaf.ntmps18
  go_wp2
  go_loopw [8] (fun a wr => ∃ k : Nat, k ≤ n ∧ a = .int .i64 k ∧ wr = w ∧ Hid (∀ j, j < k → Li j ≠ x)) (fun a _ => n - (intOf a).toNat)
  case atStart => exact ⟨0, Nat.zero_le _, rfl, rfl, fun j hj => absurd hj (Nat.not_lt_zero _)⟩
  case round =>
    obtain ⟨k, hk, rfl, rfl, HN⟩ := hrel
    by_cases hlt : k < n
    · obtain ⟨db, off, rfl, q⟩ := HC.out k hlt
      by_cases hx : x = Li k
      · subst hx
        go_wp2
        go_ret
        exact ⟨rfl, (k : Int), rfl, by rw [inL_true hlt rfl]; simp⟩
      · go_wp2
        go_roundw
        case rel => exact ⟨k + 1, by omega, by go_num, (by first | rfl | trivial), fun j hj => by
          rcases Nat.lt_succ_iff_lt_or_eq.1 hj with h | h
          · exact HN.out j h
          · subst h; exact fun e => hx e.symm⟩
        case measure => simp [intOf]; omega
    · obtain rfl : n = k := by omega
      go_wp2
      go_ret
      exact ⟨rfl, -1, rfl, by rw [inL_false HN.out]; rfl⟩

set_option maxRecDepth 100000 in
theorem contains_any (l0 : Option Addr) (n cap : Nat) (Li : Nat → Int) (x : Int) (w : World) (hn : n ≤ 1048576) (hc : ∀ k, k < n → ∃ db off, l0 = some ⟨db, off, none⟩ ∧ w.cell? ⟨db, off + k, none⟩ = some (.int .i64 (Li k))) :
    Calls Ybaf.prog 9 #[.slice l0 n cap, .int .i64 x] w fun e w' => e = .returned (.bool (inL Li x n)) ∧ w' = w := by
  have HC : Hid (∀ k, k < n → ∃ db off, l0 = some ⟨db, off, none⟩ ∧ w.cell? ⟨db, off + k, none⟩ = some (.int .i64 (Li k))) := hc
  clear hc
  go_enter Ybaf.func9, Ybaf.ntmps9
  go_wp2_with (go_at_call 18; refine (index_any l0 n cap Li x _ hn HC.out).mono ?_; rintro e w2 ⟨rfl, r, rfl, hr⟩)
  go_ret
  exact ⟨by rw [← hr]; rfl, rfl⟩

/-- Is the peer crashed, as the map says? -/
def crashed (L : Option Int) (t : Int) : Bool := match L with | some a => decide (a ≤ t) | none => false

/-- What the two maps say of the peer. -/
structure Says (Dc Dl : D0) (peer : Int) (L : Option Int) (li : Bool) : Prop where
  has : Maps.has Dc (.int .i64 peer) = L.isSome
  at_ : ∀ a, L = some a → Dc.atKey (.int .i64 peer) (.lit (.int .i64 0)) = .lit (.int .i64 a)
  li : Dl.atKey (.int .i64 peer) (.lit (.bool false)) = .lit (.bool li)

set_option maxRecDepth 100000 in
theorem look_c {M : Nat} {w wr : World} {fs : Int} {nm : Nat} {Dc Dl Ds Dw : D0} (h : St M w fs nm Dc Dl Ds Dw wr) {peer : Int} (hp : I64 peer) {L : Option Int} {li : Bool} (hs : Says Dc Dl peer L li) :
    ∃ c : Int, (Instr.lookup 38 (.map (some M)) (.int .i64 peer) true).run Ybaf.prog wr = .ok (.tuple #[.int .i64 c, .bool L.isSome]) wr ∧ ∀ a, L = some a → c = a := by
  obtain ⟨v, ps, hrun, hv⟩ := h.mc.look_ok law61 Ybaf.underlying38 (zero2 _) (plainElem_int Ybaf.underlying2 (a := 0) (by decide)) (key_61 hp)
  obtain ⟨c, rfl, hc, _⟩ := plainElem_int_inv Ybaf.underlying2 hv
  rw [hs.has] at hrun
  refine ⟨c, hrun, fun a ha => ?_⟩
  have h1 := hs.at_ a ha
  simp only [Prod.mk.injEq] at hc
  rw [h1] at hc
  have h2 := hc.1
  injection h2 with h2
  injection h2 with _ h2
  exact h2.symm

theorem plainElem_bool_inv {e : TypeId} (he : Ybaf.prog.underlying e = some .bool) {v : Value} {z : DataW Unit × List MemPlace} (h : plainElem Ybaf.prog e v = some z) : ∃ b, v = .bool b ∧ z = (.lit (.bool b), []) := by
  unfold plainElem at h
  rw [he] at h
  cases v <;> simp at h
  exact ⟨_, rfl, h.symm⟩

set_option maxRecDepth 100000 in
theorem look_l {M : Nat} {w wr : World} {fs : Int} {nm : Nat} {Dc Dl Ds Dw : D0} (h : St M w fs nm Dc Dl Ds Dw wr) {peer : Int} (hp : I64 peer) {L : Option Int} {li : Bool} (hs : Says Dc Dl peer L li) :
    (Instr.lookup 39 (.map (some (M + 1))) (.int .i64 peer) false).run Ybaf.prog wr = .ok (.bool li) wr := by
  obtain ⟨v, ps, hrun, hv⟩ := h.ml.lookup law61 Ybaf.underlying39 (zero4 _) (plainElem_bool Ybaf.underlying4 false) (key_61 hp)
  obtain ⟨b, rfl, hb⟩ := plainElem_bool_inv Ybaf.underlying4 hv
  simp only [Prod.mk.injEq] at hb
  have h2 := hb.1
  rw [hs.li] at h2
  injection h2 with h2
  injection h2 with h2
  subst h2
  exact hrun

set_option maxRecDepth 100000 in
set_option maxHeartbeats 400000 in
theorem correct_any {M : Nat} {w W : World} {fs : Int} {nm : Nat} {Dc Dl Ds Dw : D0} (h : St M w fs nm Dc Dl Ds Dw W) {peer : Int} (hp : I64 peer) {L : Option Int} {li : Bool} (hs : Says Dc Dl peer L li) (t : Int) :
    Calls Ybaf.prog 19 #[.pointer (some ⟨M + 1 + 1 + 1, 0, none⟩), .int .i64 peer, .int .i64 t] W fun e w' => e = .returned (.bool (!crashed L t && !li)) ∧ w' = W := by
  obtain ⟨c, hl, hc⟩ := look_c h hp hs
  have hl2 := look_l h hp hs
  have c3 := h.c3
  have c4 := h.c4
  clear h hs
  cases L with
  | none =>
    clear hc
    simp only [Option.isSome] at hl
    go_enter Ybaf.func19, Ybaf.ntmps19
    go_wp2
    go_ret
    exact ⟨by simp [crashed], rfl⟩
  | some a =>
    obtain rfl := hc a rfl
    clear hc
    simp only [Option.isSome] at hl
    by_cases hle : c ≤ t
    · go_enter Ybaf.func19, Ybaf.ntmps19
      go_wp2
      go_ret
      exact ⟨by simp [crashed, hle], rfl⟩
    · go_enter Ybaf.func19, Ybaf.ntmps19
      go_wp2
      go_ret
      exact ⟨by simp [crashed, hle], rfl⟩
end Go.Proofs.YbulkdwomFmt
