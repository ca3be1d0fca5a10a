/-
  The iterators over a slice: what their closures hand to yield, for every loop body that keeps what lay below a block number.
-/
import Derived.RangeFuncNested
import Derived.RangeFuncBox
import Derived.RangeFuncLeaves
import Derived.Shelf.Abstract
import Derived.WalkKit
import Derived.OwnWalkIn
import Derived.TacticsInMore
import Derived.LoopNIn
import Derived.LoopIn
import Derived.Test.YtcgcfenenkdhlaaBase
namespace Go.Proofs.Ytcgcfenenkdhlaa
open Go.RowKit Go.Shelf
set_option linter.unusedVariables false
set_option linter.unusedSimpArgs false
attribute [local go_sem] Oper.semAt_some

/-- f 0, .., f (k - 1) -/
def upto {α : Type} (f : Nat → α) (k : Nat) : List α := (List.range k).map f
theorem upto_succ {α : Type} (f : Nat → α) (k : Nat) : upto f (k + 1) = upto f k ++ [f k] := by simp [upto, List.range_succ]
theorem upto_length {α : Type} (f : Nat → α) (k : Nat) : (upto f k).length = k := by simp [upto]
theorem upto_drop {α : Type} (f : Nat → α) (k : Nat) : (upto f k).dropLast = upto f (k - 1) := by
  cases k with
  | zero => rfl
  | succ k => rw [upto_succ]; simp
/-- below n₀, and at block B, nothing has changed -/
def KeepB (n₀ B : Nat) (W W' : World) : Prop := Below n₀ W W' ∧ W'.heap[B]? = W.heap[B]?
theorem KeepB.refl (n₀ B : Nat) (W : World) : KeepB n₀ B W W := ⟨Below.refl _ _, rfl⟩
theorem KeepB.trans {n₀ B : Nat} {X Y Z : World} (h : KeepB n₀ B X Y) (k : KeepB n₀ B Y Z) : KeepB n₀ B X Z := ⟨h.1.trans k.1, k.2.trans h.2⟩
theorem KeepB.cell {n₀ B i : Nat} {X Y : World} (h : KeepB n₀ B X Y) : Y.cell? ⟨B, i, none⟩ = X.cell? ⟨B, i, none⟩ := World.cell?_of_block h.2
theorem keepB_t {n₀ B : Nat} {X Y Z : World} (h : KeepB n₀ B X Y) (k : KeepB n₀ B Y Z) : KeepB n₀ B X Z := h.trans k
theorem keepB_b {n₀ B : Nat} {w : World} (hn : n₀ ≤ w.heap.size) (hB : B < w.heap.size) (W : World) (l : Nat) (o o' : Obj) (hl : w.heap.size ≤ l) (h : W.heap[l]? = some o) (h1 : o.isCells = false) (h2 : o.isWalk = false) : KeepB n₀ B W (W.putObj l o') :=
  ⟨belowK_b hn W l o o' hl h h1 h2, (grownBy_putObj' W l o').block B (by have := (Array.getElem?_eq_some_iff.1 h).1; omega) (fun e => by cases e; omega)⟩
theorem Boxed.kept_append {W w2 : World} {B B' : Nat} {t' e : TypeId} {u v v' : Value} {n₀ size k : Nat} {xs : List Value} {o : Obj} (h : Boxed W B' t' u) (hte : t' ≠ e) (hne : B' ≠ B) (hrow : W.ownsRow n₀ e size v k xs) (hg : (W.alloc o).grownBy w2 v.ownBlock) : Boxed (w2.setCell ⟨B, 0, none⟩ v') B' t' u :=
  ((h.alloc o).kept hg (h.not_row hte hrow)).other hne v'
/-- what All has at place j; what Backward has at place j -/
def fwd (zs : List Int) (j : Nat) : Int × Int := ((j : Int), zs[j]?.getD 0)
def bwd (zs : List Int) (j : Nat) : Int × Int := ((zs.length : Int) - 1 - j, zs[zs.length - 1 - j]?.getD 0)
theorem fwd_at {zs : List Int} {k : Nat} {x : Int} (h : zs[k]? = some x) : fwd zs k = ((k : Int), x) := by simp [fwd, h]
theorem bwd_at {zs : List Int} {k len : Nat} {x : Int} (hl : zs.length = len) (_hk : k < len) (h : zs[len - 1 - k]? = some x) : bwd zs k = ((len : Int) - 1 - k, x) := by subst hl; simp [bwd, h]

set_option maxRecDepth 100000 in
set_option maxHeartbeats 2000000 in
/-- the closure: index and value, till yield says no -/
theorem all1_in (F : Fence) (n : Nat) (hf : F.fn 65) (hro : F.round = none) (hn : 1 ≤ n) (l Bs n₀ len cap : Nat) (A : Option Addr) (zs : List Int) (hreach : len * 8 ≤ 140737488351232) (J Jx : List (Int × Int) → World → Prop)
    (hY : ∀ pre x W, J pre W → pre.length < len → YieldAt F (n - 1) Try.prog l #[.int .i64 x.1, .int .i64 x.2] W fun e W' =>
      (e = .returned (.bool true) ∧ J (pre ++ [x]) W' ∧ Below n₀ W W') ∨ (e = .returned (.bool false) ∧ Jx (pre ++ [x]) W'))
    (W : World) (hBs : W.cell? ⟨Bs, 0, none⟩ = some (.slice A len cap)) (hc : Rd W n₀ 1 A len (ints zs)) (h0 : J [] W) :
    CallsIn F n Try.prog 65 #[.func (.yield l) #[] #[], .pointer (some ⟨Bs, 0, none⟩)] W fun e W' => (∃ v, e = .returned v) ∧
      ((∃ ys, ys = upto (fwd zs) len ∧ J ys W') ∨ (∃ pre, (∃ k, k ≤ len ∧ pre = upto (fwd zs) k) ∧ Jx pre W')) := by
  have hzl : zs.length = len := by have := hc.1; simpa using this
  have HZ := hide hzl
  clear hzl
  refine callsIn_of_wp Try.func65 rfl hf ?_ hro
  simp only [Try.ntmps65, List.size_toArray, List.length_cons, List.length_nil, Nat.reduceAdd, Nat.reduceSub, Array.replicate_succ, Array.replicate_zero, List.push_toArray, List.append_toArray, List.nil_append, List.cons_append]
  gi_wp2
  gi_loopw [7] (fun i wr => ∃ k : Nat, k ≤ len ∧ i = .int .i64 k ∧ J (upto (fwd zs) k) wr ∧ Below n₀ W wr) (fun i _ => len - (intOf i).toNat)
  case atStart => exact ⟨0, Nat.zero_le _, rfl, h0, Below.refl _ _⟩
  case round =>
    obtain ⟨k, hk, rfl, hJs, hnx⟩ := hrel
    have hnxB := hnx
    by_cases hlt : k < len
    · obtain ⟨b, off, x, rfl, hb, hx, hcx⟩ := (hc.below hnxB).intx (k := k) (by omega)
      obtain ⟨fn, tmps, assign, body, hy, hR⟩ := hY _ ((k : Int), x) wr hJs (by rw [upto_length]; exact hlt)
      dsimp only at hy
      have hpf : fwd zs k = ((k : Int), x) := fwd_at hx.out
      have HP := hide hpf
      clear hpf
      gi_wp2
      refine hR.mono ?_
      rintro e W3 (⟨rfl, hJ3, hk3⟩ | ⟨rfl, hJx3⟩)
      · gi_wp2
        go_roundw
        case rel => exact ⟨k + 1, by omega, by simp, by rw [upto_succ, HP.out]; exact hJ3, hnx.trans hk3⟩
        case measure => simp [intOf]; omega
      · gi_wp2
        refine bodyPost_ret (results_none rfl _ _ _) rfl ?_
        exact ⟨⟨_, rfl⟩, .inr ⟨_, ⟨k + 1, by omega, by rw [upto_succ, HP.out]⟩, hJx3⟩⟩
    · obtain rfl : k = len := by omega
      gi_wp2
      go_end0
      exact ⟨⟨_, rfl⟩, .inl ⟨_, rfl, hJs⟩⟩

set_option maxHeartbeats 1000000 in
theorem all_in (F : Fence) (n : Nat) (hf : F.fn 50) (hro : F.round = none) (a : Option Addr) (len cap : Nat) (w : World) :
    CallsIn F n Try.prog 50 #[.slice a len cap] w fun e w' => e = .returned (.func (.func 65) #[] #[.pointer (some ⟨w.heap.size, 0, none⟩)]) ∧ w' = w.alloc (.cells #[.slice a len cap] 24) := by
  refine callsIn_of_wp Try.func50 rfl hf ?_ hro
  simp only [Try.ntmps50, List.size_toArray, List.length_cons, List.length_nil, Nat.reduceAdd, Nat.reduceSub, Array.replicate_succ, Array.replicate_zero, List.push_toArray, List.append_toArray, List.nil_append, List.cons_append]
  gi_wp2
  go_ret
  exact ⟨rfl, rfl⟩

theorem all_stops (F : Fence) (n : Nat) (hf : F.fn 65) (hro : F.round = none) (hn : 1 ≤ n) (Bs n₀ len cap : Nat) (A : Option Addr) (zs : List Int) (hreach : len * 8 ≤ 140737488351232) (w : World) (hBs : Bs < w.heap.size) (hn₀ : n₀ ≤ w.heap.size) (hc : w.cell? ⟨Bs, 0, none⟩ = some (.slice A len cap)) (hI : Rd w n₀ 1 A len (ints zs)) :
    SeqStopsK F n Try.prog 65 #[.pointer (some ⟨Bs, 0, none⟩)] (fun x : Int × Int => #[Value.int .i64 x.1, Value.int .i64 x.2]) (Below n₀) (fun ys => ys = upto (fwd zs) len) (fun pre => ∃ k, k ≤ len ∧ pre = upto (fwd zs) k) len w := fun l J Jx W hW _ _ hY h0 =>
  all1_in F n hf hro hn l Bs n₀ len cap A zs hreach J Jx hY W ((hW.cell (p := ⟨Bs, 0, none⟩) hBs).trans hc) (hI.below (hW.mono hn₀)) h0

end Go.Proofs.Ytcgcfenenkdhlaa
