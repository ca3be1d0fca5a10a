/-
  joined of two slices of numbers.
-/
import Derived.WalkKit
import Derived.WalkLawsBesides
import Derived.Outline
import Derived.Deep.DeepMust
import Derived.Maps.AppendAt
import Derived.Test.YthefajbahbmohaaSpec
import Derived.Test.YthefajbahbmohaaAppR
namespace Go.Proofs.Ythefajbahbmohaa
open Go.RowKit
set_option linter.unusedVariables false
set_option linter.unusedSimpArgs false

set_option maxHeartbeats 1000000 in
theorem joinedInt (a : Option Addr) (n c : Nat) (xs : List Int) (a' : Option Addr) (m c' : Nat) (ys : List Int) (hb : (n + m) * 8 ≤ 140737488351232) (w : World) (hx : Rd w w.heap.size 1 a n (ints xs)) (hy : Rd w w.heap.size 1 a' m (ints ys)) :
    Calls Try.prog 16 #[.slice a n c, .slice a' m c'] w fun e W' => ∃ A' c', e = .returned (.slice A' (n + m) c') ∧ W'.ownsRow w.heap.size 3 1 (.slice A' (n + m) c') (n + m) (ints (xs ++ ys)) ∧ Below w.heap.size w W' := by
  obtain ⟨i0, hi, hz0, hz1, hz2⟩ := info_parts infoInt
  go_enter Try.func16, Try.ntmps16
  go_wp2_with (first
    | (at_builtin; refine wpList_append_rd _ rfl (.const (.slice none 0 0)) (.tmp 5) 22 rfl w.heap.size 3 i0 (.int .i64 0) 1 8 Try.underlying22 hi hz0 hz1 hz2 rfl (by decide) (.slice none 0 0) 0 [] rfl (World.ownsRow_nil _ _ _ _) w.heap.size a n c _ rfl hx (ints_one _) (by unfold maxLen; omega) (by omega) (Nat.le_refl _) ?_; intro v1 w1 own1 hg1 _; simp only [Nat.zero_add, List.nil_append] at own1; have hb1 : Below w.heap.size w w1 := (Below.refl _ _).grown hg1 (Nat.le_refl _) (by simp [Value.ownBlock]))
    | (at_builtin; refine wpList_append_rd _ rfl (.tmp 6) (.tmp 7) 22 rfl w.heap.size 3 i0 (.int .i64 0) 1 8 Try.underlying22 hi hz0 hz1 hz2 rfl (by decide) v1 n (ints xs) rfl own1 w.heap.size a' m c' _ rfl (hy.below hb1) (ints_one _) (by unfold maxLen; omega) (by omega) hb1.size ?_; intro v2 w2 own2 hg2 _; obtain ⟨A4, c4, rfl⟩ := own_slice own2))
  go_ret
  exact ⟨A4, c4, rfl, by first | exact own2 | simpa [ints] using own2, hb1.grown hg2 hb1.size fun k e => (own1.lt k e).1⟩
end Go.Proofs.Ythefajbahbmohaa
