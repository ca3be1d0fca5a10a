/-
  count of a slice of numbers.
-/
import Derived.WalkKit
import Derived.WalkLawsBesides
import Derived.Outline
import Derived.Deep.DeepMust
import Derived.Test.YtcgcfenenkdhlaaPlain
namespace Go.Proofs.Ytcgcfenenkdhlaa
open Go.RowKit
set_option linter.unusedVariables false
set_option linter.unusedSimpArgs false

set_option maxHeartbeats 1000000 in
theorem countInt (A : Option Addr) (n c B : Nat) (xs : List Int) (x : Int) (w : World) (hx : Rd w B 1 A n (ints xs)) (hn : n ≤ 9223372036854775806) :
    Calls Try.prog 33 #[.slice A n c, .int .i64 x] w fun e w' => e = .returned (.int .i64 (xs.count x : Nat)) ∧ w = w' := by
  have hxl : xs.length = n := by have := hx.1; simpa using this
  have HX := hide hxl
  clear hxl
  go_enter Try.func33, Try.ntmps33
  go_wp2
  go_loopw [5, 10] (fun v i wr => ∃ k m : Nat, k ≤ n ∧ i = .int .i64 k ∧ v = .int .i64 m ∧ m ≤ k ∧ Hid ((xs.take k).count x = m) ∧ Hid (wr = w)) (fun _ i _ => n - (intOf i).toNat)
  case atStart => exact ⟨0, 0, Nat.zero_le _, rfl, rfl, Nat.le_refl _, hide (by simp), by first | exact hide rfl | exact hide trivial⟩
  case round =>
    obtain ⟨k, m, hk, rfl, rfl, hm, hc, hwr⟩ := hrel
    obtain rfl := hwr.out
    clear hwr
    by_cases hlt : k < n
    · obtain ⟨b, off, y, rfl, hb, hy, hcx⟩ := hx.intx hlt
      by_cases hv : x = y
      · subst hv
        go_wp2
        go_roundw
        case rel => exact ⟨k + 1, m + 1, by omega, by go_num, by go_num, by omega, hide (by rw [take_snoc' hy.out, List.count_append, hc.out]; simp), by first | exact hide rfl | exact hide trivial⟩
        case measure => simp [intOf]; omega
      · have hv' : (x == y) = false := by simpa using hv
        have HV := hide hv
        clear hv
        go_wp2
        go_roundw
        case rel => exact ⟨k + 1, m, by omega, by go_num, rfl, by omega, hide (by rw [take_snoc' hy.out, List.count_append, hc.out, List.count_singleton]; simp [Ne.symm HV.out]), by first | exact hide rfl | exact hide trivial⟩
        case measure => simp [intOf]; omega
    · obtain rfl : k = n := by omega
      have hcc : xs.count x = m := by have := hc.out; rwa [List.take_of_length_le (by rw [HX.out]; exact Nat.le_refl _)] at this
      have HCC := hide hcc
      clear hcc
      go_wp2
      go_ret
      exact ⟨by rw [HCC.out]; rfl, rfl⟩
end Go.Proofs.Ytcgcfenenkdhlaa
