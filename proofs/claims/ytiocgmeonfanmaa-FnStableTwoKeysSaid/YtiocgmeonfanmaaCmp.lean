/-
  impl.Order.compare and spec.Compare: the table's entry, or 0.
-/
import Derived.WalkKit
import Derived.WalkLawsBesides
import Derived.Outline
import Derived.Deep.DeepMust
import Derived.Test.YtiocgmeonfanmaaBase
namespace Go.Proofs.Ytiocgmeonfanmaa
open Go.RowKit
set_option linter.unusedVariables false
set_option linter.unusedSimpArgs false

/-- how an order compares two keys -/
def cmpO (s : Int) (zs : List Int) (a b : Int) : Int :=
  if a < 0 ∨ s ≤ a ∨ b < 0 ∨ s ≤ b ∨ (zs.length : Int) < s ∨ 1048576 < s then 0 else (zs[(s * a + b).toNat]?).getD 0

set_option maxRecDepth 100000 in
set_option maxHeartbeats 2000000 in
theorem compareI (s : Int) (A : Option Addr) (l c B : Nat) (zs : List Int) (a b : Int × Int) (w : World) (hr : Rd w B 1 A l (ints zs)) (hB : B ≤ w.heap.size) (hl : l ≤ 9223372036854775807) :
    Calls Try.prog 26 #[.agg #[.int .i64 s, .slice A l c], .agg #[.int .i64 a.1, .int .i64 a.2], .agg #[.int .i64 b.1, .int .i64 b.2]] w fun e w' => e = .returned (.int .i64 (cmpO s zs a.1 b.1)) ∧ w' = ((w.alloc (.cells #[.int .i64 s, .slice A l c] 25)).alloc (.cells #[.int .i64 a.1, .int .i64 a.2] 36)).alloc (.cells #[.int .i64 b.1, .int .i64 b.2] 36) := by
  have hzl : zs.length = l := by have := hr.1; simpa using this
  obtain ⟨a1, a2⟩ := a
  obtain ⟨b1, b2⟩ := b
  dsimp only
  obtain ⟨r, hrv⟩ : ∃ r, r = cmpO s zs a1 b1 := ⟨_, rfl⟩
  rw [← hrv]
  have zero : (a1 < 0 ∨ s ≤ a1 ∨ b1 < 0 ∨ s ≤ b1 ∨ (l : Int) < s ∨ 1048576 < s) → r = 0 := fun h => by rw [hrv, cmpO, hzl, if_pos h]
  by_cases h1 : a1 < 0
  · obtain rfl : r = 0 := zero (.inl h1)
    clear hrv zero hr hzl
    go_enter Try.func26, Try.ntmps26
    go_wp2
    go_ret
    exact ⟨rfl, rfl⟩
  by_cases h2 : s ≤ a1
  · obtain rfl : r = 0 := zero (.inr (.inl h2))
    clear hrv zero hr hzl
    go_enter Try.func26, Try.ntmps26
    go_wp2
    go_ret
    exact ⟨rfl, rfl⟩
  by_cases h3 : b1 < 0
  · obtain rfl : r = 0 := zero (by omega)
    clear hrv zero hr hzl
    go_enter Try.func26, Try.ntmps26
    go_wp2
    go_ret
    exact ⟨rfl, rfl⟩
  by_cases h4 : s ≤ b1
  · obtain rfl : r = 0 := zero (by omega)
    clear hrv zero hr hzl
    go_enter Try.func26, Try.ntmps26
    go_wp2
    go_ret
    exact ⟨rfl, rfl⟩
  by_cases h5 : (l : Int) < s
  · obtain rfl : r = 0 := zero (by omega)
    clear hrv zero hr hzl
    go_enter Try.func26, Try.ntmps26
    go_wp2
    go_ret
    exact ⟨rfl, rfl⟩
  by_cases h6 : 1048576 < s
  · obtain rfl : r = 0 := zero (by omega)
    clear hrv zero hr hzl
    go_enter Try.func26, Try.ntmps26
    go_wp2
    go_ret
    exact ⟨rfl, rfl⟩
  obtain ⟨s0, rfl⟩ : ∃ s0 : Nat, s = s0 := ⟨s.toNat, by omega⟩
  obtain ⟨a0, rfl⟩ : ∃ a0 : Nat, a1 = a0 := ⟨a1.toNat, by omega⟩
  obtain ⟨b0, rfl⟩ : ∃ b0 : Nat, b1 = b0 := ⟨b1.toNat, by omega⟩
  have hat : s0 * a0 + b0 < 1048576 * 1048576 + 1048576 := by
    have : s0 * a0 ≤ 1048576 * 1048576 := Nat.mul_le_mul (by omega) (by omega)
    omega
  obtain ⟨at0, hat0⟩ : ∃ at0, at0 = s0 * a0 + b0 := ⟨_, rfl⟩
  have hatz : (s0 : Int) * (a0 : Int) + (b0 : Int) = (at0 : Int) := by rw [hat0]; simp
  have hmul : (s0 : Int) * (a0 : Int) = (at0 : Int) - (b0 : Int) := by omega
  have hrr : r = (zs[at0]?).getD 0 := by rw [hrv, cmpO, hzl, if_neg (by omega), hatz]; simp
  rw [← hat0] at hat
  clear hrv zero hatz hat0
  by_cases h7 : at0 < l
  · obtain ⟨bk, off, x, rfl, hb, hx, hcx⟩ := hr.intx h7
    obtain rfl : r = x := by rw [hrr, hx.out]; rfl
    have hbw : bk < w.heap.size := by omega
    have hbw1 : bk < w.heap.size + 1 := by omega
    have hbw2 : bk < w.heap.size + 1 + 1 := by omega
    have hbn : bk ≠ w.heap.size := by omega
    have hbn1 : bk ≠ w.heap.size + 1 := by omega
    have hbn2 : bk ≠ w.heap.size + 1 + 1 := by omega
    have hlt : (at0 : Int) < (l : Int) := by omega
    have hw1 : IntKind.i64.wrap ((at0 : Int) - (b0 : Int)) = (at0 : Int) - (b0 : Int) := by rw [IntKind.wrap_i64]; omega
    have hw2 : IntKind.i64.wrap (at0 : Int) = (at0 : Int) := by rw [IntKind.wrap_i64]; omega
    clear hrr hr hzl
    go_enter Try.func26, Try.ntmps26
    go_wp2
    go_ret
    exact ⟨rfl, rfl⟩
  · obtain rfl : r = 0 := by rw [hrr, List.getElem?_eq_none (by omega)]; rfl
    have hlt : ¬ (at0 : Int) < (l : Int) := by omega
    clear hrr hr hzl
    go_enter Try.func26, Try.ntmps26
    go_wp2
    go_ret
    exact ⟨rfl, rfl⟩
set_option maxRecDepth 100000 in
set_option maxHeartbeats 2000000 in
theorem compareS (s : Int) (A : Option Addr) (l c B : Nat) (zs : List Int) (a b : Int × Int) (w : World) (hr : Rd w B 1 A l (ints zs)) (hB : B ≤ w.heap.size) (hl : l ≤ 9223372036854775807) :
    Calls Try.prog 16 #[.agg #[.int .i64 s, .slice A l c], .agg #[.int .i64 a.1, .int .i64 a.2], .agg #[.int .i64 b.1, .int .i64 b.2]] w fun e w' => e = .returned (.int .i64 (cmpO s zs a.1 b.1)) ∧ w' = ((w.alloc (.cells #[.int .i64 s, .slice A l c] 29)).alloc (.cells #[.int .i64 a.1, .int .i64 a.2] 35)).alloc (.cells #[.int .i64 b.1, .int .i64 b.2] 35) := by
  have hzl : zs.length = l := by have := hr.1; simpa using this
  obtain ⟨a1, a2⟩ := a
  obtain ⟨b1, b2⟩ := b
  dsimp only
  obtain ⟨r, hrv⟩ : ∃ r, r = cmpO s zs a1 b1 := ⟨_, rfl⟩
  rw [← hrv]
  have zero : (a1 < 0 ∨ s ≤ a1 ∨ b1 < 0 ∨ s ≤ b1 ∨ (l : Int) < s ∨ 1048576 < s) → r = 0 := fun h => by rw [hrv, cmpO, hzl, if_pos h]
  by_cases h1 : a1 < 0
  · obtain rfl : r = 0 := zero (.inl h1)
    clear hrv zero hr hzl
    go_enter Try.func16, Try.ntmps16
    go_wp2
    go_ret
    exact ⟨rfl, rfl⟩
  by_cases h2 : s ≤ a1
  · obtain rfl : r = 0 := zero (.inr (.inl h2))
    clear hrv zero hr hzl
    go_enter Try.func16, Try.ntmps16
    go_wp2
    go_ret
    exact ⟨rfl, rfl⟩
  by_cases h3 : b1 < 0
  · obtain rfl : r = 0 := zero (by omega)
    clear hrv zero hr hzl
    go_enter Try.func16, Try.ntmps16
    go_wp2
    go_ret
    exact ⟨rfl, rfl⟩
  by_cases h4 : s ≤ b1
  · obtain rfl : r = 0 := zero (by omega)
    clear hrv zero hr hzl
    go_enter Try.func16, Try.ntmps16
    go_wp2
    go_ret
    exact ⟨rfl, rfl⟩
  by_cases h5 : (l : Int) < s
  · obtain rfl : r = 0 := zero (by omega)
    clear hrv zero hr hzl
    go_enter Try.func16, Try.ntmps16
    go_wp2
    go_ret
    exact ⟨rfl, rfl⟩
  by_cases h6 : 1048576 < s
  · obtain rfl : r = 0 := zero (by omega)
    clear hrv zero hr hzl
    go_enter Try.func16, Try.ntmps16
    go_wp2
    go_ret
    exact ⟨rfl, rfl⟩
  obtain ⟨s0, rfl⟩ : ∃ s0 : Nat, s = s0 := ⟨s.toNat, by omega⟩
  obtain ⟨a0, rfl⟩ : ∃ a0 : Nat, a1 = a0 := ⟨a1.toNat, by omega⟩
  obtain ⟨b0, rfl⟩ : ∃ b0 : Nat, b1 = b0 := ⟨b1.toNat, by omega⟩
  have hat : s0 * a0 + b0 < 1048576 * 1048576 + 1048576 := by
    have : s0 * a0 ≤ 1048576 * 1048576 := Nat.mul_le_mul (by omega) (by omega)
    omega
  obtain ⟨at0, hat0⟩ : ∃ at0, at0 = s0 * a0 + b0 := ⟨_, rfl⟩
  have hatz : (s0 : Int) * (a0 : Int) + (b0 : Int) = (at0 : Int) := by rw [hat0]; simp
  have hmul : (s0 : Int) * (a0 : Int) = (at0 : Int) - (b0 : Int) := by omega
  have hrr : r = (zs[at0]?).getD 0 := by rw [hrv, cmpO, hzl, if_neg (by omega), hatz]; simp
  rw [← hat0] at hat
  clear hrv zero hatz hat0
  by_cases h7 : at0 < l
  · obtain ⟨bk, off, x, rfl, hb, hx, hcx⟩ := hr.intx h7
    obtain rfl : r = x := by rw [hrr, hx.out]; rfl
    have hbw : bk < w.heap.size := by omega
    have hbw1 : bk < w.heap.size + 1 := by omega
    have hbw2 : bk < w.heap.size + 1 + 1 := by omega
    have hbn : bk ≠ w.heap.size := by omega
    have hbn1 : bk ≠ w.heap.size + 1 := by omega
    have hbn2 : bk ≠ w.heap.size + 1 + 1 := by omega
    have hlt : (at0 : Int) < (l : Int) := by omega
    have hw1 : IntKind.i64.wrap ((at0 : Int) - (b0 : Int)) = (at0 : Int) - (b0 : Int) := by rw [IntKind.wrap_i64]; omega
    have hw2 : IntKind.i64.wrap (at0 : Int) = (at0 : Int) := by rw [IntKind.wrap_i64]; omega
    clear hrr hr hzl
    go_enter Try.func16, Try.ntmps16
    go_wp2
    go_ret
    exact ⟨rfl, rfl⟩
  · obtain rfl : r = 0 := by rw [hrr, List.getElem?_eq_none (by omega)]; rfl
    have hlt : ¬ (at0 : Int) < (l : Int) := by omega
    clear hrr hr hzl
    go_enter Try.func16, Try.ntmps16
    go_wp2
    go_ret
    exact ⟨rfl, rfl⟩
end Go.Proofs.Ytiocgmeonfanmaa
