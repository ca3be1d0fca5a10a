/-
  reversed of a slice of pairs.
-/
import Derived.Test.YtbgkchjephioiaaSpecP
namespace Go.Proofs.Ytbgkchjephioiaa
open Go.RowKit
set_option linter.unusedVariables false
set_option linter.unusedSimpArgs false

theorem bwd_rev (zs : List Int) : upto (bwd zs) zs.length = (upto (fwd zs) zs.length).reverse := by
  apply List.ext_getElem
  · simp [upto]
  · intro i h1 h2
    simp [upto] at h1
    simp [upto, bwd, fwd, List.getElem_reverse]
    omega
theorem rev_take {α : Type} {l : List α} {k : Nat} {p : α} (hk : k < l.length) (h : l[l.length - 1 - k]? = some p) : l.reverse.take (k + 1) = l.reverse.take k ++ [p] := by
  have hr : l.reverse[k]? = some p := by rw [List.getElem?_reverse hk]; exact h
  obtain ⟨h1, h2⟩ := List.getElem?_eq_some_iff.1 hr
  rw [List.take_succ_eq_append_getElem h1, h2]

set_option maxHeartbeats 2000000 in
theorem reversedPair (A : Option Addr) (n c : Nat) (l : List (Int × Int)) (w : World) (hI : Rd w w.heap.size 2 A n (pairs l)) (hreach : n * 16 ≤ 140737488351232) :
    Calls Try.prog 33 #[.slice A n c] w fun e w' => ∃ v, e = .returned v ∧ w'.ownsRow w.heap.size 25 2 v n (pairs l.reverse) ∧ Below w.heap.size w w' := by
  have hl : l.length = n := by have := hI.1; rw [pairs_length] at this; omega
  subst hl
  obtain ⟨i0, hi, hz0, hz1, hz2⟩ := info_parts infoIPair
  go_enter Try.func33, Try.ntmps33
  go_wp2
  go_loopw [3, 4] (fun v i wr => ∃ k : Nat, k ≤ l.length ∧ i = .int .i64 ((l.length : Int) - 1 - k) ∧ wr.ownsRow w.heap.size 25 2 v k (pairs (l.reverse.take k)) ∧ Below w.heap.size w wr) (fun _ i _ => (intOf i + 1).toNat)
  case atStart => exact ⟨0, Nat.zero_le _, by simp, World.ownsRow_nil _ _ _ _, Below.refl _ _⟩
  case round =>
    obtain ⟨k, hk, rfl, hown, hB⟩ := hrel
    have hsz := hB.size
    by_cases hlt : k < l.length
    · obtain ⟨b, off, x, y, rfl, hb, hx, hc1, hc2⟩ := (hI.below hB).pair (k := l.length - 1 - k) (by omega)
      obtain ⟨A', c', rfl⟩ := own_slice hown
      go_wp2_with (at_builtin; go_must (refine wpList_append_own _ rfl _ _ 26 rfl w.heap.size 25 i0 (.agg #[.int .i64 0, .int .i64 0]) 2 16 Try.underlying26 hi hz0 hz1 hz2 rfl (by decide) _ _ _ rfl (hown.alloc _) ⟨wr.heap.size, 0, none⟩ 1 1 [.int .i64 x, .int .i64 y] rfl rfl (cell_two_new _ _ _ _) (by simp [Value.oneCell']) (by unfold maxLen; omega) (by omega) (by simp; omega) ?_); intro v' w2 hown' hgrow _)
      have hb2 := below_append hB hsz (Nat.le_refl _) hown hgrow
      go_roundw
      case rel => exact ⟨k + 1, by omega, by go_num, by rw [rev_take hlt hx.out, pairs_append, pairs_one]; exact hown', hb2⟩
      case measure => simp [intOf]; omega
    · obtain rfl : k = l.length := by omega
      go_wp2
      go_ret
      exact ⟨_, rfl, by rw [List.take_of_length_le (by simp)] at hown; exact hown, hB⟩
end Go.Proofs.Ytbgkchjephioiaa
