/-
  The iterators over a slice: what their closures hand to yield, for every loop body that keeps what lay below a block number.
-/
import Derived.RangeFuncNested
import Derived.RangeFuncBox
import Derived.RangeFuncLeaves
import Derived.Shelf.Abstract
import Derived.WalkKit
import Derived.OwnWalkIn
import Derived.TacticsInMore
import Derived.LoopNIn
import Derived.LoopIn
import Derived.Test.YthefajbahbmohaaFlB
namespace Go.Proofs.Ythefajbahbmohaa
open Go.RowKit Go.Shelf
set_option linter.unusedVariables false
set_option linter.unusedSimpArgs false
attribute [local go_sem] Oper.semAt_some

theorem take_snocFl {zs : List Nat} {k : Nat} (h : k < zs.length) : zs.take (k + 1) = zs.take k ++ [zs[k]?.getD 0] := by
  rw [List.take_succ_eq_append_getElem h]; simp [h]

set_option maxRecDepth 100000 in
set_option maxHeartbeats 2000000 in
/-- the closure: each element in order, till yield says no -/
theorem sequence1_inFl (F : Fence) (n : Nat) (hf : F.fn 46) (hro : F.round = none) (hn : 1 ≤ n) (l Bs n₀ len cap : Nat) (A : Option Addr) (zs : List Nat) (hreach : len * 8 ≤ 140737488351232) (J Jx : List Nat → World → Prop)
    (hY : ∀ pre x W, J pre W → pre.length < len → YieldAt F (n - 1) Try.prog l #[.float .f64 x] W fun e W' =>
      (e = .returned (.bool true) ∧ J (pre ++ [x]) W' ∧ Below n₀ W W') ∨ (e = .returned (.bool false) ∧ Jx (pre ++ [x]) W'))
    (W : World) (hBs : W.cell? ⟨Bs, 0, none⟩ = some (.slice A len cap)) (hc : Rd W n₀ 1 A len (flts zs)) (h0 : J [] W) :
    CallsIn F n Try.prog 46 #[.func (.yield l) #[] #[], .pointer (some ⟨Bs, 0, none⟩)] W fun e W' => (∃ v, e = .returned v) ∧
      ((∃ ys, ys = zs ∧ J ys W') ∨ (∃ pre, pre <+: zs ∧ Jx pre W')) := by
  have hzl : zs.length = len := by have := hc.1; simpa using this
  have HZ := hide hzl
  clear hzl
  refine callsIn_of_wp Try.func46 rfl hf ?_ hro
  simp only [Try.ntmps46, List.size_toArray, List.length_cons, List.length_nil, Nat.reduceAdd, Nat.reduceSub, Array.replicate_succ, Array.replicate_zero, List.push_toArray, List.append_toArray, List.nil_append, List.cons_append]
  gi_wp2
  gi_loopw [7] (fun i wr => ∃ k : Nat, k ≤ len ∧ i = .int .i64 k ∧ J (zs.take k) wr ∧ Below n₀ W wr)
    (fun i _ => len - (intOf i).toNat)
  case atStart => exact ⟨0, Nat.zero_le _, rfl, h0, Below.refl _ _⟩
  case round =>
    obtain ⟨k, hk, rfl, hJs, hnx⟩ := hrel
    by_cases hlt : k < len
    · obtain ⟨b, off, rfl, hb, hcx⟩ := (hc.below hnx).flt hlt
      obtain ⟨fn, tmps, assign, body, hy, hR⟩ := hY _ (zs[k]?.getD 0) wr hJs (by rw [List.length_take]; omega)
      gi_wp2
      refine hR.mono ?_
      rintro e W3 (⟨rfl, hJ3, hk3⟩ | ⟨rfl, hJx3⟩)
      · gi_wp2
        go_roundw
        case rel => exact ⟨k + 1, by omega, by simp, by rw [take_snocFl (by rw [HZ.out]; exact hlt)]; exact hJ3, hnx.trans hk3⟩
        case measure => simp [intOf]; omega
      · gi_wp2
        refine bodyPost_ret (results_none rfl _ _ _) rfl ?_
        exact ⟨⟨_, rfl⟩, .inr ⟨_, by rw [← take_snocFl (by rw [HZ.out]; exact hlt)]; exact List.take_prefix _ _, hJx3⟩⟩
    · obtain rfl : k = len := by omega
      gi_wp2
      go_end0
      exact ⟨⟨_, rfl⟩, .inl ⟨_, List.take_of_length_le (by rw [HZ.out]; exact Nat.le_refl _), hJs⟩⟩

set_option maxHeartbeats 1000000 in
/-- the function: the slice value is boxed; the function value captures the box -/
theorem sequence_inFl (F : Fence) (n : Nat) (hf : F.fn 34) (hro : F.round = none) (a : Option Addr) (len cap : Nat) (w : World) :
    CallsIn F n Try.prog 34 #[.slice a len cap] w fun e w' => e = .returned (.func (.func 46) #[] #[.pointer (some ⟨w.heap.size, 0, none⟩)]) ∧ w' = w.alloc (.cells #[.slice a len cap] 52) := by
  refine callsIn_of_wp Try.func34 rfl hf ?_ hro
  simp only [Try.ntmps34, List.size_toArray, List.length_cons, List.length_nil, Nat.reduceAdd, Nat.reduceSub, Array.replicate_succ, Array.replicate_zero, List.push_toArray, List.append_toArray, List.nil_append, List.cons_append]
  gi_wp2
  go_ret
  exact ⟨rfl, rfl⟩

/-- what it hands back stops where it is told to, and else hands over all -/
theorem sequence_stopsFl (F : Fence) (n : Nat) (hf : F.fn 46) (hro : F.round = none) (hn : 1 ≤ n) (Bs n₀ len cap : Nat) (A : Option Addr) (zs : List Nat) (hreach : len * 8 ≤ 140737488351232) (w : World) (hBs : Bs < w.heap.size) (hn₀ : n₀ ≤ w.heap.size)
    (hc : w.cell? ⟨Bs, 0, none⟩ = some (.slice A len cap)) (hI : Rd w n₀ 1 A len (flts zs)) :
    SeqStopsK F n Try.prog 46 #[.pointer (some ⟨Bs, 0, none⟩)] (fun x : Nat => #[Value.float .f64 x]) (Below n₀) (fun ys => ys = zs) (fun pre => pre <+: zs) len w := fun l J Jx W hW _ _ hY h0 =>
  sequence1_inFl F n hf hro hn l Bs n₀ len cap A zs hreach J Jx hY W ((hW.cell (p := ⟨Bs, 0, none⟩) hBs).trans hc) (hI.below (hW.mono hn₀)) h0

end Go.Proofs.Ythefajbahbmohaa
