/-
  count and permuted of slices of numbers.
-/
import Derived.WalkKit
import Derived.WalkLawsBesides
import Derived.Outline
import Derived.Deep.DeepMust
import Derived.Test.YthefajbahbmohaaPlain
import Derived.Test.YthefajbahbmohaaFlB
namespace Go.Proofs.Ythefajbahbmohaa
open Go.RowKit
set_option linter.unusedVariables false
set_option linter.unusedSimpArgs false

set_option maxHeartbeats 1000000 in
theorem countU (A : Option Addr) (n c B : Nat) (xs : List Int) (x : Int) (w : World) (hx : Rd w B 1 A n (u64s xs)) (hn : n ≤ 9223372036854775806) :
    Calls Try.prog 36 #[.slice A n c, .int .u64 x] w fun e w' => e = .returned (.int .i64 (xs.count x : Nat)) ∧ w = w' := by
  have hxl : xs.length = n := by have := hx.1; simpa using this
  have HX := hide hxl
  clear hxl
  go_enter Try.func36, Try.ntmps36
  go_wp2
  go_loopw [5, 10] (fun v i wr => ∃ k m : Nat, k ≤ n ∧ i = .int .i64 k ∧ v = .int .i64 m ∧ m ≤ k ∧ Hid ((xs.take k).count x = m) ∧ Hid (wr = w)) (fun _ i _ => n - (intOf i).toNat)
  case atStart => exact ⟨0, 0, Nat.zero_le _, rfl, rfl, Nat.le_refl _, hide (by simp), by first | exact hide rfl | exact hide trivial⟩
  case round =>
    obtain ⟨k, m, hk, rfl, rfl, hm, hc, hwr⟩ := hrel
    obtain rfl := hwr.out
    clear hwr
    by_cases hlt : k < n
    · obtain ⟨b, off, y, rfl, hb, hy, hcx⟩ := hx.u64x hlt
      by_cases hv : x = y
      · subst hv
        go_wp2
        go_roundw
        case rel => exact ⟨k + 1, m + 1, by omega, by go_num, by go_num, by omega, hide (by rw [take_snoc' hy.out, List.count_append, hc.out]; simp), by first | exact hide rfl | exact hide trivial⟩
        case measure => simp [intOf]; omega
      · have hv' : (x == y) = false := by simpa using hv
        have HV := hide hv
        clear hv
        go_wp2
        go_roundw
        case rel => exact ⟨k + 1, m, by omega, by go_num, rfl, by omega, hide (by rw [take_snoc' hy.out, List.count_append, hc.out, List.count_singleton]; simp [Ne.symm HV.out]), by first | exact hide rfl | exact hide trivial⟩
        case measure => simp [intOf]; omega
    · obtain rfl : k = n := by omega
      have hcc : xs.count x = m := by have := hc.out; rwa [List.take_of_length_le (by rw [HX.out]; exact Nat.le_refl _)] at this
      have HCC := hide hcc
      clear hcc
      go_wp2
      go_ret
      exact ⟨by rw [HCC.out]; rfl, rfl⟩

theorem perm_stepU {xs ys : List Int} {k : Nat} {x : Int} (hx : xs[k]? = some x) (h : ∀ y ∈ xs.take k, xs.count y = ys.count y) (he : xs.count x = ys.count x) : ∀ y ∈ xs.take (k + 1), xs.count y = ys.count y := by
  rw [take_snoc' hx]
  intro y hy
  rcases List.mem_append.1 hy with h1 | h1
  · exact h y h1
  · obtain rfl : y = x := by simpa using h1
    exact he
set_option maxHeartbeats 2000000 in
theorem permutedU (A A' : Option Addr) (n m c c' B B' : Nat) (xs ys : List Int) (w : World) (hx : Rd w B 1 A n (u64s xs)) (hy : Rd w B' 1 A' m (u64s ys)) (hn : n ≤ 9223372036854775806) (hm : m ≤ 9223372036854775806) :
    Calls Try.prog 22 #[.slice A n c, .slice A' m c'] w fun e w' => e = .returned (.bool (permB xs ys)) ∧ w = w' := by
  have hxl : xs.length = n := by have := hx.1; simpa using this
  have hyl : ys.length = m := by have := hy.1; simpa using this
  by_cases hnm : n = m
  · subst hnm
    have HX := hide hxl
    have HY := hide hyl
    clear hxl hyl
    have HCX : Hid (∀ x, Calls Try.prog 36 #[.slice A n c, .int .u64 x] w fun e w' => e = .returned (.int .i64 (xs.count x : Nat)) ∧ w = w') := fun x => countU A n c B xs x w hx hn
    have HCY : Hid (∀ x, Calls Try.prog 36 #[.slice A' n c', .int .u64 x] w fun e w' => e = .returned (.int .i64 (ys.count x : Nat)) ∧ w = w') := fun x => countU A' n c' B' ys x w hy hn
    clear hy
    go_enter Try.func22, Try.ntmps22
    go_wp2
    go_loopw [14] (fun i wr => ∃ k : Nat, k ≤ n ∧ i = .int .i64 k ∧ Hid (wr = w) ∧ Hid (∀ y ∈ xs.take k, xs.count y = ys.count y)) (fun i _ => n - (intOf i).toNat)
    case atStart => exact ⟨0, Nat.zero_le _, rfl, by first | exact hide rfl | exact hide trivial, hide (by simp)⟩
    case round =>
      obtain ⟨k, hk, rfl, hwr, heq⟩ := hrel
      obtain rfl := hwr.out
      clear hwr
      by_cases hlt : k < n
      · obtain ⟨b, off, x, rfl, hb, hxk, hcx⟩ := hx.u64x hlt
        obtain ⟨p, hp⟩ : ∃ p, xs.count x = p := ⟨_, rfl⟩
        obtain ⟨q, hq⟩ : ∃ q, ys.count x = q := ⟨_, rfl⟩
        have c1 := HCX.out x
        have c2 := HCY.out x
        rw [hp] at c1
        rw [hq] at c2
        have C1 := hide c1
        have C2 := hide c2
        have HP := hide hp
        have HQ := hide hq
        clear c1 c2 hp hq
        by_cases hv : p = q
        · subst hv
          have hv' : ((p : Int) != (p : Int)) = false := by simp
          go_wp2_with fail
          refine C1.out.mono ?_
          rintro e w' ⟨rfl, rfl⟩
          go_wp2_with fail
          refine C2.out.mono ?_
          rintro e w' ⟨rfl, rfl⟩
          go_wp2_with fail
          go_roundw
          case rel => exact ⟨k + 1, by omega, by go_num, by first | exact hide rfl | exact hide trivial, hide (perm_stepU hxk.out heq.out (HP.out.trans HQ.out.symm))⟩
          case measure => simp [intOf]; omega
        · have hv' : ((p : Int) != (q : Int)) = true := by simp; omega
          have hne : permB xs ys = false := by
            rw [← Bool.not_eq_true, permB_iff]
            intro h
            exact hv (by rw [← HP.out, ← HQ.out, h.count_eq])
          clear hv
          have HN := hide hne
          clear hne
          go_wp2_with fail
          refine C1.out.mono ?_
          rintro e w' ⟨rfl, rfl⟩
          go_wp2_with fail
          refine C2.out.mono ?_
          rintro e w' ⟨rfl, rfl⟩
          go_wp2_with fail
          go_ret
          exact ⟨by rw [HN.out]; rfl, rfl⟩
      · obtain rfl : k = n := by omega
        have hee : permB xs ys = true := by
          have h := heq.out
          rw [List.take_of_length_le (by rw [HX.out]; exact Nat.le_refl _)] at h
          unfold permB
          rw [Bool.and_eq_true, beq_iff_eq, List.all_eq_true]
          exact ⟨by rw [HX.out, HY.out], fun x hx => by rw [beq_iff_eq]; exact h x hx⟩
        have HN := hide hee
        clear hee
        go_wp2
        go_ret
        exact ⟨by rw [HN.out]; rfl, rfl⟩
  · have hne : permB xs ys = false := by unfold permB; rw [Bool.and_eq_false_iff]; left; simp; omega
    rw [hne]
    have hnn : ((n : Int) != (m : Int)) = true := by simp; omega
    clear hne hxl hyl
    go_enter Try.func22, Try.ntmps22
    go_wp2
    go_ret
    exact ⟨rfl, rfl⟩
end Go.Proofs.Ythefajbahbmohaa
