/-
  count and permuted of slices of items.
-/
import Derived.Deep.RegionWith
import Derived.WalkKit
import Derived.WalkLawsBesides
import Derived.Outline
import Derived.Deep.DeepMust
import Derived.Laws.StructEq
import Derived.Test.YtiocgmeonfanmaaEqI
namespace Go.Proofs.Ytiocgmeonfanmaa
open Go.RowKit
set_option linter.unusedVariables false
set_option linter.unusedSimpArgs false

theorem eqlI (w : World) (a b c d : Int) : (binOp .eql 36 (.agg #[.int .i64 a, .int .i64 b]) (.agg #[.int .i64 c, .int .i64 d])).run Try.prog w = .ok (.bool (decide ((a, b) = (c, d)))) w := by
  rw [run_eql_struct, run_equalIn_agg _ _ _ _ _ (by kernel_rfl) (by kernel_rfl)]
  rw [fieldsI, Try.underlying36]
  simp [go_sem]
  by_cases h1 : a = c <;> by_cases h2 : b = d <;> simp [h1, h2]
set_option maxHeartbeats 1000000 in
theorem countI (A : Option Addr) (n c B : Nat) (xs : List (Int × Int)) (p q : Int) (w : World) (hx : Rd w B 2 A n (pairs xs)) (hB : B ≤ w.heap.size) (hn : n ≤ 9223372036854775806) :
    Calls Try.prog 29 #[.slice A n c, .agg #[.int .i64 p, .int .i64 q]] w fun e w' => e = .returned (.int .i64 (xs.count (p, q) : Nat)) ∧ Below w.heap.size w w' := by
  have hxl : xs.length = n := by have := hx.1; rw [pairs_length] at this; omega
  have HX := hide hxl
  clear hxl
  go_enter Try.func29, Try.ntmps29
  go_wp2
  obtain ⟨w1, hw1⟩ : ∃ w1, w1 = w.alloc (.cells #[.int .i64 p, .int .i64 q] 36) := ⟨_, rfl⟩
  have hB1 : Below w.heap.size w w1 := by rw [hw1]; exact (Below.refl _ w).alloc (Nat.le_refl _) _
  have hs1 : w1.heap.size = w.heap.size + 1 := by rw [hw1]; simp
  have k0 : w1.cell? ⟨w.heap.size, 0, none⟩ = some (.int .i64 p) := by rw [hw1]; simp [go_sem]
  have k1 : w1.cell? ⟨w.heap.size, 1, none⟩ = some (.int .i64 q) := by rw [hw1]; simp [go_sem]
  rw [← hw1]
  have HS1 := hide hs1
  have K0 := hide k0
  have K1 := hide k1
  have hx1 := hx.below (hB1.mono hB)
  clear hw1 hs1 k0 k1 hx
  go_loopw [5, 10] (fun v i wr => ∃ k m : Nat, k ≤ n ∧ i = .int .i64 k ∧ v = .int .i64 m ∧ m ≤ k ∧ Hid ((xs.take k).count (p, q) = m) ∧ Below w1.heap.size w1 wr) (fun _ i _ => n - (intOf i).toNat)
  case atStart => exact ⟨0, 0, Nat.zero_le _, rfl, rfl, Nat.le_refl _, hide (by simp), Below.refl _ _⟩
  case round =>
    obtain ⟨k, m, hk, rfl, rfl, hm, hc, hwr⟩ := hrel
    have hsz := hwr.size
    have hlw : w.heap.size < wr.heap.size := by have := HS1.out; omega
    by_cases hlt : k < n
    · obtain ⟨b, off, y1, y2, rfl, hb, hy, hc1, hc2⟩ := (hx1.below (hwr.mono (by have := HS1.out; omega))).pair hlt
      have c0 : wr.cell? ⟨w.heap.size, 0, none⟩ = some (.int .i64 p) := (hwr.cell (p := ⟨w.heap.size, 0, none⟩) (by have := HS1.out; simp; omega)).trans K0.out
      have c1 : wr.cell? ⟨w.heap.size, 1, none⟩ = some (.int .i64 q) := (hwr.cell (p := ⟨w.heap.size, 1, none⟩) (by have := HS1.out; simp; omega)).trans K1.out
      have hne : w.heap.size ≠ wr.heap.size := by omega
      have hBn := hwr.alloc hsz (.cells #[.int .i64 y1, .int .i64 y2] 36)
      by_cases hv : (p, q) = (y1, y2)
      · obtain ⟨rfl, rfl⟩ : p = y1 ∧ q = y2 := by simpa using hv
        have hnq : ∀ w, (binOp .eql 36 (.agg #[.int .i64 p, .int .i64 q]) (.agg #[.int .i64 p, .int .i64 q])).run Try.prog w = .ok (.bool true) w := fun w => by rw [eqlI]; simp
        clear hv
        go_wp2
        go_roundw
        case rel => exact ⟨k + 1, m + 1, by omega, by go_num, by go_num, by omega, hide (by rw [take_snoc' hy.out, List.count_append, hc.out]; simp), hBn⟩
        case measure => simp [intOf]; omega
      · have hnq : ∀ w, (binOp .eql 36 (.agg #[.int .i64 p, .int .i64 q]) (.agg #[.int .i64 y1, .int .i64 y2])).run Try.prog w = .ok (.bool false) w := fun w => by rw [eqlI, decide_eq_false hv]
        have HV := hide hv
        clear hv
        go_wp2
        go_roundw
        case rel => exact ⟨k + 1, m, by omega, by go_num, rfl, by omega, hide (by rw [take_snoc' hy.out, List.count_append, hc.out, List.count_singleton]; have := HV.out; simp [Ne.symm this]), hBn⟩
        case measure => simp [intOf]; omega
    · obtain rfl : k = n := by omega
      have hcc : xs.count (p, q) = m := by have := hc.out; rwa [List.take_of_length_le (by rw [HX.out]; exact Nat.le_refl _)] at this
      have HCC := hide hcc
      clear hcc
      go_wp2
      go_ret
      exact ⟨by rw [HCC.out]; rfl, hB1.trans (hwr.mono (by have := HS1.out; omega))⟩

set_option maxHeartbeats 2000000 in
/-- permuted: true at a permutation -/
theorem permutedI (A A' : Option Addr) (n c c' B B' : Nat) (xs ys : List (Int × Int)) (w : World) (hx : Rd w B 2 A n (pairs xs)) (hB : B ≤ w.heap.size) (hy : Rd w B' 2 A' n (pairs ys)) (hB' : B' ≤ w.heap.size) (hp : xs.Perm ys) (hn : n ≤ 9223372036854775806) :
    Calls Try.prog 20 #[.slice A n c, .slice A' n c'] w fun e w' => e = .returned (.bool true) ∧ Below w.heap.size w w' := by
  have HP := hide hp
  clear hp
  have hnn : ((n : Int) != (n : Int)) = false := by simp
  go_enter Try.func20, Try.ntmps20
  go_wp2
  go_loopw [14] (fun i wr => ∃ k : Nat, k ≤ n ∧ i = .int .i64 k ∧ Below w.heap.size w wr) (fun i _ => n - (intOf i).toNat)
  case atStart => exact ⟨0, Nat.zero_le _, rfl, Below.refl _ _⟩
  case round =>
    obtain ⟨k, hk, rfl, hwr⟩ := hrel
    have hsz := hwr.size
    by_cases hlt : k < n
    · obtain ⟨b, off, y1, y2, hA, hb, hyy, hc1, hc2⟩ := (hx.below (hwr.mono hB)).pair hlt
      obtain ⟨q, hq⟩ : ∃ q : Nat, xs.count (y1, y2) = q := ⟨_, rfl⟩
      have hq2 : ys.count (y1, y2) = q := by rw [← hq, HP.out.count_eq]
      have HQ := hide hq
      have HQ2 := hide hq2
      clear hq hq2
      obtain ⟨W0, hW0⟩ : ∃ W0, W0 = wr.alloc (.cells #[.int .i64 y1, .int .i64 y2] 36) := ⟨_, rfl⟩
      have hB0 : Below w.heap.size w W0 := by rw [hW0]; exact hwr.alloc hsz _
      have z0 : W0.cell? ⟨wr.heap.size, 0, none⟩ = some (.int .i64 y1) := by rw [hW0]; simp [go_sem]
      have z1 : W0.cell? ⟨wr.heap.size, 1, none⟩ = some (.int .i64 y2) := by rw [hW0]; simp [go_sem]
      have HL : Hid (wr.heap.size < W0.heap.size) := hide (by rw [hW0]; simp)
      have HC1 : Hid (∀ W, Below W0.heap.size W0 W → Calls Try.prog 29 #[.slice A n c, .agg #[.int .i64 y1, .int .i64 y2]] W fun e w' => e = .returned (.int .i64 (q : Int)) ∧ Below W.heap.size W w') := hide fun W hW => by
        have hBW : Below w.heap.size w W := hB0.trans (hW.mono hB0.size)
        have h := countI A n c B xs y1 y2 W (hx.below (hBW.mono hB)) (Nat.le_trans hB hBW.size) hn
        rw [HQ.out] at h
        exact h
      have HC2 : Hid (∀ W, Below W0.heap.size W0 W → Calls Try.prog 29 #[.slice A' n c', .agg #[.int .i64 y1, .int .i64 y2]] W fun e w' => e = .returned (.int .i64 (q : Int)) ∧ Below W.heap.size W w') := hide fun W hW => by
        have hBW : Below w.heap.size w W := hB0.trans (hW.mono hB0.size)
        have h := countI A' n c' B' ys y1 y2 W (hy.below (hBW.mono hB')) (Nat.le_trans hB' hBW.size) hn
        rw [HQ2.out] at h
        exact h
      subst hA
      have hvv : ((q : Int) != (q : Int)) = false := by simp
      go_wp2_with fail
      rw [← hW0]
      clear hW0
      have HD : Hid (Below W0.heap.size W0 W0.drew) := hide (Below.refl _ _).drew
      go_region_with (first
        | (go_at_call_of 29 (Value.slice (some ⟨b, off, none⟩) n c); refine (HC1.out W0.drew HD.out).mono ?_; rintro _ W1 ⟨rfl, g1⟩; have hB1 : Below W0.heap.size W0 W1 := HD.out.trans (g1.mono HD.out.size); have z2 : W1.cell? ⟨wr.heap.size, 0, none⟩ = some (.int .i64 y1) := (hB1.cell (p := ⟨wr.heap.size, 0, none⟩) HL.out).trans z0; have z3 : W1.cell? ⟨wr.heap.size, 1, none⟩ = some (.int .i64 y2) := (hB1.cell (p := ⟨wr.heap.size, 1, none⟩) HL.out).trans z1)
        | (go_at_call_of 29 (Value.slice A' n c'); refine (HC2.out W1 hB1).mono ?_; rintro _ W2 ⟨rfl, g2⟩; have hB2 : Below w.heap.size w W2 := hB0.trans ((hB1.trans (g2.mono hB1.size)).mono hB0.size)))
      all_goals (go_wp2_with fail)
      all_goals (refine ⟨⟨k + 1, by omega, by go_num, hB2⟩, by simp [intOf]; omega⟩)
    · obtain rfl : k = n := by omega
      go_wp2
      go_ret
      exact ⟨rfl, hwr⟩
end Go.Proofs.Ytiocgmeonfanmaa
