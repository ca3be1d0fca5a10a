/-
  Equality of two slices of items.
-/
import Derived.WalkKit
import Derived.WalkLawsBesides
import Derived.WalkSmall
import Derived.Outline
import Derived.Deep.DeepMust
import Derived.Deep.QuietTactic
import Derived.BigQuiet
import Derived.Maps.AppendAt
import Derived.Laws.StructEq
import Derived.Test.YtiocgmeonfanmaaBase
namespace Go.Proofs.Ytiocgmeonfanmaa
open Go.RowKit
set_option linter.unusedVariables false
set_option linter.unusedSimpArgs false

set_option maxRecDepth 1000000 in
theorem fieldsI : (Try.prog.fieldsOf 36).toList = ((match Try.prog.underlying 36 with | some (.struct fs) => fs | _ => #[]) : Array Field).toList := rfl
theorem neqI (w : World) (a b c d : Int) : (binOp .neq 36 (.agg #[.int .i64 a, .int .i64 b]) (.agg #[.int .i64 c, .int .i64 d])).run Try.prog w = .ok (.bool (!(decide ((a, b) = (c, d))))) w := by
  rw [run_neq_struct, run_equalIn_agg _ _ _ _ _ (by kernel_rfl) (by kernel_rfl)]
  rw [fieldsI, Try.underlying36]
  simp [go_sem]
  by_cases h1 : a = c <;> by_cases h2 : b = d <;> simp [h1, h2]

set_option maxHeartbeats 1000000 in
/-- equal: whether the two lists are one -/
theorem equalI (A A' : Option Addr) (n m c c' B B' : Nat) (xs ys : List (Int × Int)) (w : World) (hx : Rd w B 2 A n (pairs xs)) (hy : Rd w B' 2 A' m (pairs ys)) (hn : n ≤ 9223372036854775807) :
    Calls Try.prog 17 #[.slice A n c, .slice A' m c'] w fun e w' => e = .returned (.bool (decide (xs = ys))) ∧ Drew w w' := by
  have hxl : xs.length = n := by have := hx.1; rw [pairs_length] at this; omega
  have hyl : ys.length = m := by have := hy.1; rw [pairs_length] at this; omega
  by_cases hnm : n = m
  · subst hnm
    have HX := hide hxl
    have HY := hide hyl
    clear hxl hyl
    go_enter Try.func17, Try.ntmps17
    go_wp2
    go_loopw [13] (fun i wr => ∃ k : Nat, k ≤ n ∧ i = .int .i64 k ∧ Drew w wr ∧ xs.take k = ys.take k) (fun i _ => n - (RowKit.intOf i).toNat)
    case atStart => exact ⟨0, Nat.zero_le _, rfl, Drew.refl _, by simp⟩
    case round =>
      obtain ⟨k, hk, rfl, hdr, heq⟩ := hrel
      have HE := hide heq
      clear heq
      by_cases hlt : k < n
      · obtain ⟨b, off, x1, x2, rfl, hb, hxx, hc1, hc2⟩ := (hx.ofDrew hdr).pair hlt
        obtain ⟨b', off', y1, y2, rfl, hb', hyy, hc3, hc4⟩ := (hy.ofDrew hdr).pair hlt
        have hki : (k : Int) < (n : Int) := by omega
        by_cases hv : (x1, x2) = (y1, y2)
        · obtain ⟨rfl, rfl⟩ : x1 = y1 ∧ x2 = y2 := by simpa using hv
          have hnq : ∀ w, (binOp .neq 36 (.agg #[.int .i64 x1, .int .i64 x2]) (.agg #[.int .i64 x1, .int .i64 x2])).run Try.prog w = .ok (.bool false) w := fun w => by rw [neqI]; simp
          clear hv
          go_wp2
          go_quiet (fail)
          go_wp2
          go_roundw
          case rel => exact ⟨k + 1, by omega, by simp, hdr.drewN _, take_both' HE.out hxx.out hyy.out⟩
          case measure => simp [RowKit.intOf]; omega
        · have hnq : ∀ w, (binOp .neq 36 (.agg #[.int .i64 x1, .int .i64 x2]) (.agg #[.int .i64 y1, .int .i64 y2])).run Try.prog w = .ok (.bool true) w := fun w => by rw [neqI, decide_eq_false hv]; rfl
          have hne : decide (xs = ys) = false := by
            simp; intro e; subst e; exact hv (by have h1 := hxx.out; have h2 := hyy.out; rw [h1] at h2; simpa using h2)
          have HN := hide hne
          clear hv hne
          go_wp2
          go_quiet (fail)
          go_wp2
          go_ret
          exact ⟨by rw [HN.out]; rfl, hdr.drewN _⟩
      · obtain rfl : k = n := by omega
        have hee : decide (xs = ys) = true := by
          have h := HE.out
          rw [List.take_of_length_le (by rw [HX.out]; exact Nat.le_refl _), List.take_of_length_le (by rw [HY.out]; exact Nat.le_refl _)] at h
          simpa using h
        have HN := hide hee
        clear hee
        go_wp2
        go_ret
        exact ⟨by rw [HN.out]; rfl, hdr⟩
  · have hne : decide (xs = ys) = false := by simp; rintro rfl; omega
    rw [hne]
    have hnn : ((n : Int) != (m : Int)) = true := by simp; omega
    clear hne hxl hyl
    go_enter Try.func17, Try.ntmps17
    go_wp2
    go_ret
    exact ⟨rfl, Drew.refl _⟩
end Go.Proofs.Ytiocgmeonfanmaa
