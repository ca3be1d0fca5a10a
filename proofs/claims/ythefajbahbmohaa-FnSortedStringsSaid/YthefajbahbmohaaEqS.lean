/-
  equal of two slices of strings that read the same.
-/
import Derived.WalkKit
import Derived.WalkLawsBesides
import Derived.Outline
import Derived.Deep.DeepMust
import Derived.Deep.QuietTactic
import Derived.BigQuiet
import Derived.Test.YthefajbahbmohaaStrB
namespace Go.Proofs.Ythefajbahbmohaa
open Go.RowKit
set_option linter.unusedVariables false
set_option linter.unusedSimpArgs false

set_option maxHeartbeats 1000000 in
theorem equalStrT (A A' : Option Addr) (n c c' B B' : Nat) (xs : List ByteArray) (w : World) (hx : Rd w B 1 A n (strs xs)) (hy : Rd w B' 1 A' n (strs xs)) (hn : n ≤ 9223372036854775807) :
    Calls Try.prog 19 #[.slice A n c, .slice A' n c'] w fun e w' => e = .returned (.bool true) ∧ Drew w w' := by
  have hnn : ((n : Int) != (n : Int)) = false := by simp
  go_enter Try.func19, Try.ntmps19
  go_wp2
  go_loopw [13] (fun i wr => ∃ k : Nat, k ≤ n ∧ i = .int .i64 k ∧ Drew w wr) (fun i _ => n - (intOf i).toNat)
  case atStart => exact ⟨0, Nat.zero_le _, rfl, Drew.refl _⟩
  case round =>
    obtain ⟨k, hk, rfl, hdr⟩ := hrel
    by_cases hlt : k < n
    · obtain ⟨b, off, x, rfl, hb, hxx, hcx⟩ := (hx.ofDrew hdr).strx hlt
      obtain ⟨b', off', y, rfl, hb', hyy, hcy⟩ := (hy.ofDrew hdr).strx hlt
      obtain rfl : x = y := by have := hxx.out; rw [hyy.out] at this; exact (Option.some.inj this).symm
      have hki : (k : Int) < (n : Int) := by omega
      go_wp2
      go_quiet (fail)
      go_wp2
      go_roundw
      case rel => exact ⟨k + 1, by omega, by simp, hdr.drewN _⟩
      case measure => simp [intOf]; omega
    · obtain rfl : k = n := by omega
      go_wp2
      go_ret
      exact ⟨rfl, hdr⟩
end Go.Proofs.Ythefajbahbmohaa
