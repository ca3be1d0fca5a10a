/-
  spec.AppendSeq and joined of two slices of numbers.
-/
import Derived.WalkKit
import Derived.WalkLawsBesides
import Derived.Outline
import Derived.Deep.DeepMust
import Derived.Maps.AppendAt
import Derived.Test.YtbgkchjephioiaaSpec
import Derived.Test.YtbgkchjephioiaaAppR
namespace Go.Proofs.Ytbgkchjephioiaa
open Go.RowKit
set_option linter.unusedVariables false
set_option linter.unusedSimpArgs false

set_option maxHeartbeats 1000000 in
theorem joinedInt (a : Option Addr) (n c : Nat) (xs : List Int) (a' : Option Addr) (m c' : Nat) (ys : List Int) (hb : (n + m) * 8 ≤ 140737488351232) (w : World) (hx : Rd w w.heap.size 1 a n (ints xs)) (hy : Rd w w.heap.size 1 a' m (ints ys)) :
    Calls Try.prog 30 #[.slice a n c, .slice a' m c'] w fun e W' => ∃ A' c', e = .returned (.slice A' (n + m) c') ∧ W'.ownsRow w.heap.size 3 1 (.slice A' (n + m) c') (n + m) (ints (xs ++ ys)) ∧ Below w.heap.size w W' := by
  obtain ⟨i0, hi, hz0, hz1, hz2⟩ := info_parts infoInt
  go_enter Try.func30, Try.ntmps30
  go_wp2_with (first
    | (at_builtin; refine wpList_append_rd _ rfl (.const (.slice none 0 0)) (.tmp 5) 22 rfl w.heap.size 3 i0 (.int .i64 0) 1 8 Try.underlying22 hi hz0 hz1 hz2 rfl (by decide) (.slice none 0 0) 0 [] rfl (World.ownsRow_nil _ _ _ _) w.heap.size a n c _ rfl hx (ints_one _) (by unfold maxLen; omega) (by omega) (Nat.le_refl _) ?_; intro v1 w1 own1 hg1 _; simp only [Nat.zero_add, List.nil_append] at own1; have hb1 : Below w.heap.size w w1 := (Below.refl _ _).grown hg1 (Nat.le_refl _) (by simp [Value.ownBlock]))
    | (at_builtin; refine wpList_append_rd _ rfl (.tmp 6) (.tmp 7) 22 rfl w.heap.size 3 i0 (.int .i64 0) 1 8 Try.underlying22 hi hz0 hz1 hz2 rfl (by decide) v1 n (ints xs) rfl own1 w.heap.size a' m c' _ rfl (hy.below hb1) (ints_one _) (by unfold maxLen; omega) (by omega) hb1.size ?_; intro v2 w2 own2 hg2 _; obtain ⟨A4, c4, rfl⟩ := own_slice own2))
  go_ret
  exact ⟨A4, c4, rfl, by first | exact own2 | simpa [ints] using own2, hb1.grown hg2 hb1.size fun k e => (own1.lt k e).1⟩

set_option maxHeartbeats 4000000 in
theorem specAppendSeq (a : Option Addr) (n c : Nat) (xs : List Int) (isNil : Bool) (a' : Option Addr) (m c' : Nat) (ys : List Int) (hb : (n + m) * 8 ≤ 140737488351232) (w : World) (hx : Rd w w.heap.size 1 a n (ints xs)) (hy : Rd w w.heap.size 1 a' m (ints ys)) :
    Calls Try.prog 29 #[.slice a n c, .bool isNil, .slice a' m c'] w fun e W' => ∃ A' c', e = .returned (.tuple #[.slice A' (n + m) c', .bool (flagOf isNil (n + m))]) ∧ W'.ownsRow w.heap.size 3 1 (.slice A' (n + m) c') (n + m) (ints (xs ++ ys)) ∧ Below w.heap.size w W' := by
  have hxl : xs.length = n := by have := hx.1; simpa using this
  have hyl : ys.length = m := by have := hy.1; simpa using this
  have HX := hide hxl
  have HY := hide hyl
  clear hxl hyl
  obtain ⟨i0, hi, hz0, hz1, hz2⟩ := info_parts infoInt
  go_enter Try.func29, Try.ntmps29
  go_wp2
  go_loopw [6, 14] (fun v i wr => ∃ k : Nat, k ≤ n ∧ i = .int .i64 k ∧ wr.ownsRow w.heap.size 3 1 v k (ints (xs.take k)) ∧ Below w.heap.size w wr) (fun _ i _ => n - (intOf i).toNat)
  case atStart => exact ⟨0, Nat.zero_le _, rfl, World.ownsRow_nil _ _ _ _, Below.refl _ _⟩
  case round =>
    obtain ⟨k, hk, rfl, hown, hB⟩ := hrel
    have hsz := hB.size
    by_cases hlt : k < n
    · obtain ⟨b, off, x, rfl, hb, hxk, hcx⟩ := (hx.below hB).intx hlt
      obtain ⟨A', c2, rfl⟩ := own_slice hown
      go_wp2_with (at_builtin; go_must (refine wpList_append_own _ rfl _ _ 22 rfl w.heap.size 3 i0 (.int .i64 0) 1 8 Try.underlying22 hi hz0 hz1 hz2 rfl (by decide) _ _ _ rfl (hown.alloc _) ⟨wr.heap.size, 0, none⟩ 1 1 [.int .i64 x] rfl rfl (cell_one_new _ _ _) (by simp [Value.oneCell']) (by unfold maxLen; omega) (by omega) (by simp; omega) ?_); intro v' w2 hown' hgrow _)
      have hb2 := below_append hB hsz (Nat.le_refl _) hown hgrow
      go_roundw
      case rel => exact ⟨k + 1, by omega, by go_num, by rw [int_snoc hxk.out]; exact hown', hb2⟩
      case measure => simp [intOf]; omega
    · obtain rfl : k = n := by omega
      rw [List.take_of_length_le (by rw [HX.out]; exact Nat.le_refl _)] at hown
      obtain ⟨w0, hw0⟩ : ∃ w0 : World, w0 = wr := ⟨_, rfl⟩
      rw [← hw0] at hown hB hsz ⊢
      clear hw0
      go_wp2
      go_loopw [6, 25] (fun v i wr => ∃ j : Nat, j ≤ m ∧ i = .int .i64 j ∧ wr.ownsRow w.heap.size 3 1 v (k + j) (ints (xs ++ ys.take j)) ∧ Below w.heap.size w wr) (fun _ i _ => m - (intOf i).toNat)
      case atStart => exact ⟨0, Nat.zero_le _, rfl, by simpa using hown, hB⟩
      case round =>
        obtain ⟨j, hj, rfl, hown2, hB2⟩ := hrel
        have hsz2 := hB2.size
        clear hown
        by_cases hlt2 : j < m
        · obtain ⟨b, off, x, rfl, hb, hxk, hcx⟩ := (hy.below hB2).intx hlt2
          obtain ⟨A', c2, rfl⟩ := own_slice hown2
          go_wp2_with (at_builtin; go_must (refine wpList_append_own _ rfl _ _ 22 rfl w.heap.size 3 i0 (.int .i64 0) 1 8 Try.underlying22 hi hz0 hz1 hz2 rfl (by decide) _ _ _ rfl (hown2.alloc _) ⟨wr.heap.size, 0, none⟩ 1 1 [.int .i64 x] rfl rfl (cell_one_new _ _ _) (by simp [Value.oneCell']) (by unfold maxLen; omega) (by omega) (by simp; omega) ?_); intro v' w2 hown' hgrow _)
          have hb2 := below_append hB2 hsz2 (Nat.le_refl _) hown2 hgrow
          go_roundw
          case rel => exact ⟨j + 1, by omega, by go_num, by rw [ints, List.map_append, show ys.take (j + 1) = ys.take j ++ [x] from take_snoc' hxk.out, List.map_append, ← List.append_assoc]; simpa [ints, Nat.add_assoc] using hown', hb2⟩
          case measure => simp [intOf]; omega
        · obtain rfl : j = m := by omega
          rw [List.take_of_length_le (by rw [HY.out]; exact Nat.le_refl _)] at hown2
          obtain ⟨A', c2, rfl⟩ := own_slice hown2
          have HO := hide hown2
          clear hown2
          cases isNil with
          | false =>
            go_wp2
            go_ret2
            exact ⟨A', c2, rfl, by first | exact HO.out | simpa [ints] using HO.out, hB2⟩
          | true =>
            have hfl : flagOf true (k + j) = (((k : Int) + (j : Int)) == 0) := by unfold flagOf; rw [Bool.true_and, Bool.eq_iff_iff]; simp; omega
            have HFL := hide hfl
            clear hfl
            go_wp2
            go_ret2
            exact ⟨A', c2, by rw [HFL.out]; rfl, by first | exact HO.out | simpa [ints] using HO.out, hB2⟩
end Go.Proofs.Ytbgkchjephioiaa
