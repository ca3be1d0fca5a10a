/-
  equals of two slices of slices.
-/
import Derived.WalkKit
import Derived.WalkSpells
import Derived.WalkLawsBesides
import Derived.Outline
import Derived.Deep.DeepMust
import Derived.Deep.QuietTactic
import Derived.BigQuiet
import Derived.Laws.MakeOwn
import Derived.Test.YtiihcdoemgmjbaaSpec
namespace Go.Proofs.Ytiihcdoemgmjbaa
open Go.RowKit
set_option linter.unusedVariables false
set_option linter.unusedSimpArgs false

set_option maxHeartbeats 2000000 in
/-- equals, of two lists of lists that are one -/
theorem equalsT (A A' : Option Addr) (n c c' B B' : Nat) (rs rs' : List (Option Addr × Nat × Nat)) (zz : List (List Int)) (w : World) (hx : Rd w B 1 A n (rows rs)) (hxq : RowsRd w B rs zz) (hy : Rd w B' 1 A' n (rows rs')) (hyq : RowsRd w B' rs' zz) (hn : n ≤ 9223372036854775807) (hl : ∀ z ∈ zz, z.length ≤ 9223372036854775807) :
    Calls Try.prog 16 #[.slice A n c, .slice A' n c'] w fun e w' => e = .returned (.bool true) ∧ Drew w w' := by
  have HL := hide hl
  clear hl
  have hnn : ((n : Int) != (n : Int)) = false := by simp
  go_enter Try.func16, Try.ntmps16
  go_wp2
  go_loopw [13] (fun i wr => ∃ k : Nat, k ≤ n ∧ i = .int .i64 k ∧ Drew w wr) (fun i _ => n - (intOf i).toNat)
  case atStart => exact ⟨0, Nat.zero_le _, rfl, Drew.refl _⟩
  case round =>
    obtain ⟨k, hk, rfl, hdr⟩ := hrel
    by_cases hlt : k < n
    · obtain ⟨b, off, X, m, d, z, rfl, hb, hrk, hzk, hcx, hrx⟩ := (hxq.ofDrew hdr).at_ (hx.ofDrew hdr) hlt
      obtain ⟨b', off', Y, m', d', z', rfl, hb', hrk', hzk', hcy, hry⟩ := (hyq.ofDrew hdr).at_ (hy.ofDrew hdr) hlt
      obtain rfl : z = z' := by have h1 := hzk.out; rw [hzk'.out] at h1; exact (Option.some.inj h1).symm
      have hm : m ≤ 9223372036854775807 := by
        have h1 := hrx.1
        have h2 := HL.out z (List.mem_of_getElem? hzk.out)
        simp [ints] at h1; omega
      have hki : (k : Int) < (n : Int) := by omega
      go_wp2
      go_quiet ((go_at_call 19; exact Calls.quiet_of (equalIntT X Y m m' d d' B B' z _ hrx hry hm)))
      go_wp2
      go_roundw
      case rel => exact ⟨k + 1, by omega, by simp, hdr.drewN _⟩
      case measure => simp [intOf]; omega
    · obtain rfl : k = n := by omega
      go_wp2
      go_ret
      exact ⟨rfl, hdr⟩
end Go.Proofs.Ytiihcdoemgmjbaa
