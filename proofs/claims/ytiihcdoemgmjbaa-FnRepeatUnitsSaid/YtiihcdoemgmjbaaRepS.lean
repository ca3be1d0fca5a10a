/-
  spec.Overflows, spec.Repeat.
-/
import Derived.Test.YtiihcdoemgmjbaaRep
namespace Go.Proofs.Ytiihcdoemgmjbaa
open Go.RowKit
set_option linter.unusedVariables false
set_option linter.unusedSimpArgs false

set_option maxHeartbeats 1000000 in
theorem specOverflows (n cnt : Nat) (hn : n ≤ 9223372036854775807) (w : World) :
    Calls Try.prog 23 #[.int .i64 n, .int .i64 cnt] w fun e w' => e = .returned (.bool (decide (9223372036854775807 < n * cnt))) ∧ w = w' := by
  rcases Nat.eq_zero_or_pos n with h | h
  · subst h
    go_enter Try.func23, Try.ntmps23
    go_wp2
    go_ret
    exact ⟨by simp, rfl⟩
  · obtain ⟨q, hq⟩ : ∃ q, 9223372036854775807 / n = q := ⟨_, rfl⟩
    have hres : decide (9223372036854775807 < n * cnt) = decide (q < cnt) := by
      rw [decide_eq_decide, ← hq, Nat.div_lt_iff_lt_mul h, Nat.mul_comm]
    have hqi : (9223372036854775807 : Int) / (n : Int) = (q : Int) := by rw [← hq]; simp
    have hqw : IntKind.i64.wrap ((9223372036854775807 : Int).tdiv (n : Int)) = (q : Int) := by
      rw [IntWalk.i64_quo _ _ ⟨by omega, by omega, by omega⟩, hqi]
    have hni : (0 : Int) < (n : Int) := by omega
    have hn0 : ¬ ((n : Int) = 0) := by omega
    have hn0' : ¬ (n = 0) := by omega
    have HR := hide hres
    clear hres hq
    rw [HR.out]
    go_enter Try.func23, Try.ntmps23
    go_wp2
    go_ret
    exact ⟨by first | rfl | simp, rfl⟩

set_option maxHeartbeats 2000000 in
theorem specRepeat (a : Option Addr) (len cap : Nat) (zs : List Int) (cnt N : Nat) (hN : N = cnt * len) (hb : N * 8 ≤ 140737488351232) (hl : len * 8 ≤ 140737488351232) (hcnt : cnt ≤ 9223372036854775807) (w : World) (hI : Rd w w.heap.size 1 a len (ints zs)) :
    Calls Try.prog 26 #[.slice a len cap, .int .i64 cnt] w fun e w' => ∃ A c, e = .returned (.slice A N c) ∧ w'.ownsRow w.heap.size 3 1 (.slice A N c) N (ints (rep cnt zs)) ∧ Below w.heap.size w w' := by
  have hzl : zs.length = len := by have := hI.1; simpa using this
  have HZ := hide hzl
  have HN := hide hN
  clear hzl hN
  obtain ⟨i0, hi, hz0, hz1, hz2⟩ := info_parts infoInt
  rcases Nat.eq_zero_or_pos len with h0 | h0
  · have hN0 : N = 0 := by rw [HN.out, h0]; simp
    have hrep0 : rep cnt zs = [] := List.eq_nil_of_length_eq_zero (by rw [rep_length, HZ.out, h0]; simp)
    rw [hrep0]
    clear hrep0
    subst h0
    subst hN0
    have hown := World.ownsRow_nil w w.heap.size 3 1
    have HO := hide hown
    clear hown
    by_cases hc0 : (0 : Int) < (cnt : Int)
    · go_enter Try.func26, Try.ntmps26
      go_wp2
      go_loopw [5, 6] (fun v i wr => v = .slice none 0 0 ∧ i = .int .i64 0 ∧ Hid (w = wr)) (fun _ _ _ => 0)
      case atStart => exact ⟨rfl, rfl, hide rfl⟩
      case round =>
        obtain ⟨rfl, rfl, hw⟩ := hrel
        obtain rfl := hw.out
        go_wp2
        go_ret
        exact ⟨none, 0, rfl, HO.out, Below.refl _ _⟩
    · go_enter Try.func26, Try.ntmps26
      go_wp2
      go_loopw [5, 6] (fun v i wr => v = .slice none 0 0 ∧ i = .int .i64 0 ∧ Hid (w = wr)) (fun _ _ _ => 0)
      case atStart => exact ⟨rfl, rfl, hide rfl⟩
      case round =>
        obtain ⟨rfl, rfl, hw⟩ := hrel
        obtain rfl := hw.out
        have hd : decide ((0 : Int) < (cnt : Int)) = false := by simpa using hc0
        go_wp2
        go_ret
        exact ⟨none, 0, rfl, HO.out, Below.refl _ _⟩
  · have hleni : (0 : Int) < (len : Int) := by omega
    go_enter Try.func26, Try.ntmps26
    go_wp2
    go_loopw [5, 6] (fun v i wr => ∃ k m : Nat, k ≤ cnt ∧ i = .int .i64 k ∧ Hid (m = k * len) ∧ m ≤ N ∧ wr.ownsRow w.heap.size 3 1 v m (ints (rep k zs)) ∧ Below w.heap.size w wr) (fun _ i _ => cnt - (intOf i).toNat)
    case atStart => exact ⟨0, 0, Nat.zero_le _, rfl, hide (by simp), Nat.zero_le _, by simpa [rep] using World.ownsRow_nil _ _ _ _, Below.refl _ _⟩
    case round =>
      obtain ⟨k, m, hk, rfl, hm, hmN, hown, hB⟩ := hrel
      have hsz := hB.size
      by_cases hlt : k < cnt
      · have hlti : (k : Int) < (cnt : Int) := by omega
        have hmk : m + len ≤ N := by
          have h1 : (k + 1) * len ≤ cnt * len := Nat.mul_le_mul_right _ hlt
          rw [← HN.out, Nat.succ_mul, ← hm.out] at h1
          exact h1
        obtain ⟨A', c', rfl⟩ := own_slice hown
        obtain ⟨w0, hw0⟩ : ∃ w0 : World, w0 = wr := ⟨_, rfl⟩
        rw [← hw0] at hown hB hsz ⊢
        clear hw0
        go_wp2_with fail
        go_loopw [5, 21] (fun v i wr => ∃ j : Nat, j ≤ len ∧ i = .int .i64 j ∧ wr.ownsRow w.heap.size 3 1 v (m + j) (ints (rep k zs ++ zs.take j)) ∧ Below w.heap.size w wr) (fun _ i _ => len - (intOf i).toNat)
        case atStart => exact ⟨0, Nat.zero_le _, rfl, by simpa using hown, hB⟩
        case round =>
          obtain ⟨j, hj, rfl, hown2, hB2⟩ := hrel
          have hsz2 := hB2.size
          clear hown
          obtain ⟨A2, c2, rfl⟩ := own_slice hown2
          by_cases hlt2 : j < len
          · obtain ⟨b, off, x, rfl, hb, hxk, hcx⟩ := (hI.below hB2).intx hlt2
            go_wp2_with (at_builtin; go_must (refine wpList_append_own _ rfl _ _ 22 rfl w.heap.size 3 i0 (.int .i64 0) 1 8 Try.underlying22 hi hz0 hz1 hz2 rfl (by decide) _ _ _ rfl (hown2.alloc _) ⟨wr.heap.size, 0, none⟩ 1 1 [.int .i64 x] rfl rfl (cell_one_new _ _ _) (by simp [Value.oneCell']) (by unfold maxLen; omega) (by omega) (by simp; omega) ?_); intro v' w2 hown' hgrow _)
            have hb2 := below_append hB2 hsz2 (Nat.le_refl _) hown2 hgrow
            go_roundw
            case rel => exact ⟨j + 1, by omega, by go_num, by rw [ints, List.map_append, show zs.take (j + 1) = zs.take j ++ [x] from take_snoc' hxk.out, List.map_append, ← List.append_assoc]; simpa [ints, Nat.add_assoc] using hown', hb2⟩
            case measure => simp [intOf]; omega
          · obtain rfl : j = len := by omega
            rw [List.take_of_length_le (by rw [HZ.out]; exact Nat.le_refl _), ← rep_succ] at hown2
            have HO2 := hide hown2
            clear hown2
            go_wp2_with fail
            go_roundw
            case rel => exact ⟨k + 1, m + j, by omega, by go_num, hide (by rw [hm.out, Nat.succ_mul]), hmk, HO2.out, hB2⟩
            case measure => simp [intOf]; omega
      · obtain rfl : k = cnt := by omega
        have hlti : decide ((k : Int) < (k : Int)) = false := by simp
        obtain rfl : m = N := by rw [hm.out, HN.out]
        obtain ⟨A', c', rfl⟩ := own_slice hown
        have HO2 := hide hown
        clear hown
        go_wp2
        go_ret
        exact ⟨A', c', rfl, HO2.out, hB⟩
end Go.Proofs.Ytiihcdoemgmjbaa
