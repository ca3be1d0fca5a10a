/-
  sItems, iItems, so, spec.sign.
-/
import Derived.WalkKit
import Derived.WalkLawsBesides
import Derived.Outline
import Derived.BigQuiet
import Derived.Deep.DeepMust
import Derived.Deep.AppendLies
import Derived.Maps.AppendAt
import Derived.Test.YtiocgmeonfanmaaSoP
namespace Go.Proofs.Ytiocgmeonfanmaa
open Go.RowKit
set_option linter.unusedVariables false
set_option linter.unusedSimpArgs false

theorem cell_two_at (w : World) (n : Nat) (hn : w.heap.size = n) (a b : Value) (t : TypeId) : ∀ j u, [a, b][j]? = some u → (w.alloc (.cells #[a, b] t)).cell? ((⟨n, 0, none⟩ : Addr).add j) = some u := by
  subst hn; exact cell_two_new w a b t
theorem below_append {w wr w1 : World} {B base : Nat} {e : TypeId} {sz : Nat} {v : Value} {n : Nat} {xs : List Value} {o : Obj} (hb : Below B w wr) (hB : B ≤ wr.heap.size) (hbase : B ≤ base) (h : wr.ownsRow base e sz v n xs) (hg : (wr.alloc o).grownBy w1 v.ownBlock) : Below B w w1 :=
  (hb.alloc hB o).grown hg (by simp; omega) fun k e => Nat.le_trans hbase (h.lt k e).1
theorem infolawsSItems : (Try.prog.info? 35).map (fun i => (i.zero, i.size, i.bytes)) = some (some (.agg #[.int .i64 0, .int .i64 0]), 2, 16) := by kernel_rfl
theorem infolawsIItems : (Try.prog.info? 36).map (fun i => (i.zero, i.size, i.bytes)) = some (some (.agg #[.int .i64 0, .int .i64 0]), 2, 16) := by kernel_rfl

set_option maxRecDepth 100000 in
set_option maxHeartbeats 2000000 in
theorem lawsSItems (A : Option Addr) (n c B : Nat) (l : List (Int × Int)) (w : World) (hI : Rd w B 2 A n (pairs l)) (hB0 : B ≤ w.heap.size) (hreach : n * 16 ≤ 140737488351232) :
    Calls Try.prog 15 #[.slice A n c] w fun e w' => ∃ A' c', e = .returned (.slice A' n c') ∧ w'.ownsRow w.heap.size 35 2 (.slice A' n c') n (pairs l) ∧ Below w.heap.size w w' := by
  have hl : l.length = n := by have := hI.1; rw [pairs_length] at this; omega
  subst hl
  replace hI := hI.more hB0
  obtain ⟨i0, hi, hz0, hz1, hz2⟩ := info_parts infolawsSItems
  go_enter Try.func15, Try.ntmps15
  go_wp2
  go_loopw [3, 8] (fun v i wr => ∃ k : Nat, k ≤ l.length ∧ i = .int .i64 k ∧ wr.ownsRow w.heap.size 35 2 v k (pairs (l.take k)) ∧ Below w.heap.size w wr) (fun _ i _ => l.length - (RowKit.intOf i).toNat)
  case atStart => exact ⟨0, Nat.zero_le _, rfl, World.ownsRow_nil _ _ _ _, Below.refl _ _⟩
  case round =>
    obtain ⟨k, hk, rfl, hown, hB⟩ := hrel
    have hsz := hB.size
    by_cases hlt : k < l.length
    · obtain ⟨b, off, x, y, rfl, hb, hx, hc1, hc2⟩ := (hI.below hB).pair hlt
      obtain ⟨A', c', rfl⟩ := own_slice hown
      go_wp2_with (at_builtin; go_must (refine wpList_append_own _ rfl _ _ 31 rfl w.heap.size 35 i0 (.agg #[.int .i64 0, .int .i64 0]) 2 16 Try.underlying31 hi hz0 hz1 hz2 rfl (by decide) _ _ _ rfl ((hown.alloc _).alloc _) ⟨wr.heap.size + 1, 0, none⟩ 1 1 [.int .i64 x, .int .i64 y] rfl rfl (cell_two_at _ _ (by simp) _ _ _) (by simp [Value.oneCell']) (by unfold maxLen; omega) (by omega) (by simp; omega) ?_); intro v' w2 hown' hgrow _)
      have hb2 := below_append (hB.alloc hsz _) (by simp; omega) (Nat.le_refl _) (hown.alloc _) hgrow
      go_roundw
      case rel => exact ⟨k + 1, by omega, by go_num, by rw [take_snoc' hx.out, pairs_append, pairs_one]; exact hown', hb2⟩
      case measure => simp [RowKit.intOf]; omega
    · obtain rfl : k = l.length := by omega
      obtain ⟨A', c', rfl⟩ := own_slice hown
      rw [List.take_length] at hown
      go_wp2
      go_ret
      exact ⟨_, _, rfl, hown, hB⟩

set_option maxRecDepth 100000 in
set_option maxHeartbeats 2000000 in
theorem lawsIItems (A : Option Addr) (n c B : Nat) (l : List (Int × Int)) (w : World) (hI : Rd w B 2 A n (pairs l)) (hB0 : B ≤ w.heap.size) (hreach : n * 16 ≤ 140737488351232) :
    Calls Try.prog 18 #[.slice A n c] w fun e w' => ∃ A' c', e = .returned (.slice A' n c') ∧ w'.ownsRow w.heap.size 36 2 (.slice A' n c') n (pairs l) ∧ Below w.heap.size w w' := by
  have hl : l.length = n := by have := hI.1; rw [pairs_length] at this; omega
  subst hl
  replace hI := hI.more hB0
  obtain ⟨i0, hi, hz0, hz1, hz2⟩ := info_parts infolawsIItems
  go_enter Try.func18, Try.ntmps18
  go_wp2
  go_loopw [3, 8] (fun v i wr => ∃ k : Nat, k ≤ l.length ∧ i = .int .i64 k ∧ wr.ownsRow w.heap.size 36 2 v k (pairs (l.take k)) ∧ Below w.heap.size w wr) (fun _ i _ => l.length - (RowKit.intOf i).toNat)
  case atStart => exact ⟨0, Nat.zero_le _, rfl, World.ownsRow_nil _ _ _ _, Below.refl _ _⟩
  case round =>
    obtain ⟨k, hk, rfl, hown, hB⟩ := hrel
    have hsz := hB.size
    by_cases hlt : k < l.length
    · obtain ⟨b, off, x, y, rfl, hb, hx, hc1, hc2⟩ := (hI.below hB).pair hlt
      obtain ⟨A', c', rfl⟩ := own_slice hown
      go_wp2_with (at_builtin; go_must (refine wpList_append_own _ rfl _ _ 22 rfl w.heap.size 36 i0 (.agg #[.int .i64 0, .int .i64 0]) 2 16 Try.underlying22 hi hz0 hz1 hz2 rfl (by decide) _ _ _ rfl ((hown.alloc _).alloc _) ⟨wr.heap.size + 1, 0, none⟩ 1 1 [.int .i64 x, .int .i64 y] rfl rfl (cell_two_at _ _ (by simp) _ _ _) (by simp [Value.oneCell']) (by unfold maxLen; omega) (by omega) (by simp; omega) ?_); intro v' w2 hown' hgrow _)
      have hb2 := below_append (hB.alloc hsz _) (by simp; omega) (Nat.le_refl _) (hown.alloc _) hgrow
      go_roundw
      case rel => exact ⟨k + 1, by omega, by go_num, by rw [take_snoc' hx.out, pairs_append, pairs_one]; exact hown', hb2⟩
      case measure => simp [RowKit.intOf]; omega
    · obtain rfl : k = l.length := by omega
      obtain ⟨A', c', rfl⟩ := own_slice hown
      rw [List.take_length] at hown
      go_wp2
      go_ret
      exact ⟨_, _, rfl, hown, hB⟩

set_option maxHeartbeats 1000000 in
theorem lawsSo (s : Int) (A : Option Addr) (l c : Nat) (w : World) :
    Calls Try.prog 14 #[.agg #[.int .i64 s, .slice A l c]] w fun e w' => e = .returned (.agg #[.int .i64 s, .slice A l c]) ∧ Below w.heap.size w w' := by
  go_enter Try.func14, Try.ntmps14
  go_wp2
  refine bodyPost_ret (v := .agg #[.int .i64 s, .slice A l c]) ?_ rfl ?_
  · simp [results, Try.results14, go_sem]
  · exact ⟨rfl, ((Below.refl _ w).alloc (Nat.le_refl _) _).alloc (by simp) _⟩
theorem specSign (x : Int) (w : World) : Calls Try.prog 28 #[.int .i64 x] w fun e w' => e = .returned (.int .i64 (sgn x)) ∧ w' = w := by
  by_cases h1 : x < 0
  · rw [sgn, if_pos h1]
    go_enter Try.func28, Try.ntmps28
    go_wp2
    go_ret
    exact ⟨rfl, rfl⟩
  · by_cases h2 : 0 < x
    · rw [sgn, if_neg h1, if_pos h2]
      go_enter Try.func28, Try.ntmps28
      go_wp2
      go_ret
      exact ⟨rfl, rfl⟩
    · rw [sgn, if_neg h1, if_neg h2]
      go_enter Try.func28, Try.ntmps28
      go_wp2
      go_ret
      exact ⟨rfl, rfl⟩
end Go.Proofs.Ytiocgmeonfanmaa
