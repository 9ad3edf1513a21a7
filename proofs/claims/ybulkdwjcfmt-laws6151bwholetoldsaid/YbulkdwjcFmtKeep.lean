import Derived.WalkKit
import Derived.OneCell
import Derived.Deep.Heap
import Derived.Deep.OwnRows
import Derived.Lib.SmallJoins
namespace Go.Proofs.YbulkdwjcFmt
open Go Go.RowKit
set_option linter.unusedVariables false

/-- Below block number B, but for the blocks x and y, the world w' is as w was. -/
structure Keep (B x y : Nat) (w w' : World) : Prop where
  os : w'.os = w.os
  tape : w'.tape = w.tape
  output : w'.output = w.output
  size : w.heap.size ≤ w'.heap.size
  block : ∀ k, k < B → k ≠ x → k ≠ y → w'.heap[k]? = w.heap[k]?

theorem Keep.refl (B x y : Nat) (w : World) : Keep B x y w w := ⟨rfl, rfl, rfl, Nat.le_refl _, fun _ _ _ _ => rfl⟩
theorem Keep.trans {B x y : Nat} {a b c : World} (h : Keep B x y a b) (k : Keep B x y b c) : Keep B x y a c :=
  ⟨k.os.trans h.os, k.tape.trans h.tape, k.output.trans h.output, Nat.le_trans h.size k.size, fun i h1 h2 h3 => (k.block i h1 h2 h3).trans (h.block i h1 h2 h3)⟩
theorem Keep.ofBelow {B x y : Nat} {a b : World} (h : Below B a b) : Keep B x y a b := ⟨h.os, h.tape, h.output, h.size, fun k hk _ _ => h.block k hk⟩
theorem Keep.mono {B B' x y : Nat} {a b : World} (h : Keep B x y a b) (hB : B' ≤ B) : Keep B' x y a b := ⟨h.os, h.tape, h.output, h.size, fun k hk h1 h2 => h.block k (Nat.lt_of_lt_of_le hk hB) h1 h2⟩
/-- One named block more. -/
theorem Keep.wide {B x y : Nat} {a b : World} (h : Keep B x x a b) : Keep B x y a b := ⟨h.os, h.tape, h.output, h.size, fun k hk h1 _ => h.block k hk h1 h1⟩
theorem Keep.toBelow {B B' x y : Nat} {a b : World} (h : Keep B x y a b) (hB : B' ≤ B) (hx : B' ≤ x) (hy : B' ≤ y) : Below B' a b :=
  ⟨h.os, h.tape, h.output, h.size, fun k hk => h.block k (by omega) (by omega) (by omega)⟩
theorem Keep.drew {B x y : Nat} {a w : World} (h : Keep B x y a w) : Keep B x y a w.drew := ⟨h.os, h.tape, h.output, h.size, h.block⟩
theorem Keep.alloc {B x y : Nat} {a w : World} (h : Keep B x y a w) (hB : B ≤ w.heap.size) (o : Obj) : Keep B x y a (w.alloc o) :=
  h.trans (.ofBelow ((Below.refl B w).alloc hB o))
theorem Keep.setCell {B x y : Nat} {a w : World} (h : Keep B x y a w) {p : Addr} (hp : p.block = x ∨ p.block = y ∨ B ≤ p.block) (u : Value) : Keep B x y a (w.setCell p u) :=
  h.trans ⟨rfl, rfl, rfl, by simp [World.setCell], fun k hk h1 h2 => Below.heap_setCell _ _ _ _ (by omega)⟩
theorem Keep.grown {B x y : Nat} {a w w' : World} {row : Option Nat} (h : Keep B x y a w) (hg : w.grownBy w' row) (hB : B ≤ w.heap.size) (hr : ∀ k, row = some k → B ≤ k) : Keep B x y a w' :=
  h.trans (.ofBelow ((Below.refl B w).grown hg hB hr))

/-- 'append' onto a row of the call's own (nil too), it may grow: as one step of a region that draws its order. -/
theorem step_append_own {P : Program} {ops : Array Oper} {o : Oper} {a : Act} {w : World} {K : Act → World → Prop} {Q : Exit → Act → World → Prop} {E : Prop}
    (hg : o.guard = none) (s x : Operand) (t : TypeId) (hop : o.op = Op.call { callee := Callee.builtin Builtin.append, args := #[s, x], argTypes := #[t, t] })
    (base : Nat) (e : TypeId) (i : TypeInfo) (z : Value) (size bytes : Nat) (h1 : P.underlying t = some (.slice e)) (h2 : P.info? e = some i) (h3 : i.zero = some z) (h4 : i.size = size) (h5 : i.bytes = bytes) (h6 : z.cells.size = size) (h7 : 0 < size)
    (v : Value) (n : Nat) (xs : List Value) (hs : a.eval s = v) (hown : w.ownsRow base e size v n xs)
    (ad : Addr) (m c : Nat) (news : List Value) (hx : a.eval x = .slice (some ad) m c) (hn : news.length = m * size) (hc : ∀ j u, news[j]? = some u → w.cell? (ad.add j) = some u) (h1c : ∀ u ∈ news, u.oneCell' = true)
    (b1 : n + m ≤ maxLen) (b2 : (n + m) * bytes ≤ 140737488355328) (hb : base ≤ w.heap.size)
    (hK : ∀ v' w', w'.ownsRow base e size v' (n + m) (xs ++ news) → w.grownBy w' v.ownBlock → K (a.put o.dst v') w') :
    if Region.wanted o (yielded ops a.tmps) = true then Oper.wp P o a w K Q else E := by
  have hw : Region.wanted o (yielded ops a.tmps) = true := by simp [Region.wanted, hg]
  rw [if_pos hw]
  obtain ⟨v', w', hrun, r1, r2, _⟩ := run_append_own (P := P) w base t o.type e i z size bytes h1 h2 h3 h4 h5 h6 h7 v n xs hown ad m c news hn hc h1c b1 b2 hb
  unfold Oper.wp
  simp [execOp, hop, resolve, invoke, builtin, hs, hx, hrun, Result.andThen]
  exact hK v' w' r1 r2

/-- What a row's own block is not: a block below 'base'. -/
theorem own_ge {w : World} {base : Nat} {e : TypeId} {size : Nat} {v : Value} {n : Nat} {xs : List Value} (h : w.ownsRow base e size v n xs) : ∀ k, v.ownBlock = some k → base ≤ k := by
  intro k hk
  obtain ⟨_, h2⟩ := h
  rcases h2 with ⟨rfl, _⟩ | ⟨g, cap, cur, rfl, hg, _⟩
  · simp [Value.ownBlock] at hk
  · simp [Value.ownBlock] at hk; omega
theorem own_lt {w : World} {base : Nat} {e : TypeId} {size : Nat} {v : Value} {n : Nat} {xs : List Value} (h : w.ownsRow base e size v n xs) : ∀ k, v.ownBlock = some k → k < w.heap.size := by
  intro k hk
  obtain ⟨_, h2⟩ := h
  rcases h2 with ⟨rfl, _⟩ | ⟨g, cap, cur, rfl, hg, hh, _⟩
  · simp [Value.ownBlock] at hk
  · simp [Value.ownBlock] at hk; subst hk; exact lt_of_block hh
theorem grown_cell {w w' : World} {row : Option Nat} (h : w.grownBy w' row) {a : Addr} (hk : a.block < w.heap.size) (hne : ∀ k, row = some k → k ≠ a.block) : w'.cell? a = w.cell? a :=
  World.cell?_of_block (w := w) (h.block a.block hk (fun e => hne _ e.symm rfl))
theorem grown_block {w w' : World} {row : Option Nat} (h : w.grownBy w' row) {b : Nat} (hk : b < w.heap.size) (hne : ∀ k, row = some k → k ≠ b) : w'.heap[b]? = w.heap[b]? :=
  h.block b hk (fun e => hne _ e.symm rfl)
theorem after_append {W w1 : World} {O : Obj} {v : Value} (hgrow : (W.alloc O).drew.grownBy w1 v.ownBlock) : ∀ b, b < W.heap.size → (∀ k, v.ownBlock = some k → k ≠ b) → w1.heap[b]? = W.heap[b]? := by
  intro b hb hne
  exact (grown_block hgrow (by show b < (W.alloc O).heap.size; simp; omega) hne).trans (Deep.blk_alloc_lt W O b hb)
end Go.Proofs.YbulkdwjcFmt
