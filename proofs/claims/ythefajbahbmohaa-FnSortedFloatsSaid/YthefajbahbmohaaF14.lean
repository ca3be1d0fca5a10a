/-
  slices.Sort at float64: a row, and no row at all.
-/
import Derived.Test.YthefajbahbmohaaF13
import Derived.Test.YthefajbahbmohaaShelf
namespace Go.Proofs.Ythefajbahbmohaa
open Go.Sort Go.RowKit Go.Shelf Go.Lib
set_option linter.unusedVariables false
set_option linter.unusedSimpArgs false
attribute [local go_sem] storeF

set_option maxRecDepth 100000 in
set_option maxHeartbeats 1000000 in
theorem sortF (blk off cap : Nat) (d : Array Nat) (w : World) (hH : Holds (Value.float .f64) w blk off d) (hblk : blk < w.heap.size) (hsz : d.size < 4611686018427387904) :
    Calls Try.prog 45 #[.slice (some ⟨blk, off, none⟩) d.size cap] w fun e w' => e = .returned (.tuple #[]) ∧ ∃ n os, w' = grow (putRow (Value.float .f64) (Sort.ahead w n) blk off (Sort.sort ltF d)) os := by
  have hLen : ∀ w, Calls Try.prog 49 #[.int .u64 (d.size : Int)] w fun e w' => e = .returned (.int .i64 (bitsLen d.size : Nat)) ∧ w' = w := fun w => by
    have h := Try.bits_Len (d.size : Int) w (by omega) (by omega)
    rwa [Int.toNat_natCast, bitLen_eq _ (by omega)] at h
  have hk : bitsLen d.size ≤ 62 := (bitsLen_le_iff d.size 62).2 (by omega)
  have wr : IntKind.u64.wrap (d.size : Int) = d.size := by simp [IntKind.wrap, IntKind.bits, IntKind.signed]; omega
  have HC := hide (pdqsortF (d.size + 1) blk off cap 0 d.size (bitsLen d.size) d w (by omega) hH hblk (Nat.zero_le _) (Nat.le_refl _) hsz (by omega))
  clear hH
  go_enter Try.func45, Try.ntmps45
  go_wp2_with fail
  refine (hLen w).mono ?_
  rintro _ w1 ⟨rfl, rfl⟩
  go_wp2_with fail
  refine HC.out.mono ?_
  rintro _ w2 ⟨rfl, h1⟩
  have h1 := hide h1
  go_wp2
  go_end0
  exact ⟨rfl, h1.out⟩
set_option maxHeartbeats 1000000 in
theorem insertionF0 (c0 : Nat) (w : World) : Calls Try.prog 74 #[.slice none 0 c0, .int .i64 0, .int .i64 0] w fun e w' => e = .returned (.tuple #[]) ∧ w' = w := by
  go_enter Try.func74, Try.ntmps74
  go_wp2
  refine wp_loop_rounds 1 ?_
  rw [rounds_succ]
  go_wp2
  go_end0
  exact ⟨rfl, rfl⟩
set_option maxHeartbeats 1000000 in
theorem pdqF0 (c0 : Nat) (w : World) : Calls Try.prog 53 #[.slice none 0 c0, .int .i64 0, .int .i64 0, .int .i64 0] w fun e w' => e = .returned (.tuple #[]) ∧ w' = w := by
  go_enter Try.func53, Try.ntmps53
  go_wp2
  refine wp_loop_rounds 1 ?_
  rw [rounds_succ]
  go_wp2_with fail
  refine (insertionF0 c0 w).mono ?_
  rintro _ w1 ⟨rfl, rfl⟩
  go_wp2
  (try simp only [Exit.inBlock, Exit.then]); refine bodyPost_ret (results_none rfl _ _ _) rfl ?_
  exact ⟨rfl, rfl⟩
set_option maxHeartbeats 1000000 in
theorem sortF0 (c0 : Nat) (w : World) : Calls Try.prog 45 #[.slice none 0 c0] w fun e w' => e = .returned (.tuple #[]) ∧ w' = w := by
  have hLen : ∀ w, Calls Try.prog 49 #[.int .u64 0] w fun e w' => e = .returned (.int .i64 0) ∧ w' = w := fun w => Try.bits_Len 0 w (by omega) (by omega)
  go_enter Try.func45, Try.ntmps45
  go_wp2_with fail
  refine (hLen w).mono ?_
  rintro _ w1 ⟨rfl, rfl⟩
  go_wp2_with fail
  refine (pdqF0 c0 w1).mono ?_
  rintro _ w2 ⟨rfl, rfl⟩
  go_wp2
  go_end0
  exact ⟨rfl, rfl⟩
end Go.Proofs.Ythefajbahbmohaa
