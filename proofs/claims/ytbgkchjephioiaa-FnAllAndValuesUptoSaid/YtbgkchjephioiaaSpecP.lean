/-
  Pairs: equality of two slices of them, spec.All, spec.Backward, iPairs.
-/
import Derived.WalkKit
import Derived.WalkLawsBesides
import Derived.WalkSmall
import Derived.Outline
import Derived.Deep.DeepMust
import Derived.Deep.QuietTactic
import Derived.BigQuiet
import Derived.Maps.AppendAt
import Derived.Laws.StructEq
import Derived.Test.YtbgkchjephioiaaSpec
import Derived.Test.YtbgkchjephioiaaItP
namespace Go.Proofs.Ytbgkchjephioiaa
open Go.RowKit
set_option linter.unusedVariables false
set_option linter.unusedSimpArgs false

theorem fieldsPair : (Try.prog.fieldsOf 25).toList = ((match Try.prog.underlying 25 with | some (.struct fs) => fs | _ => #[]) : Array Field).toList := rfl
theorem neqPair (w : World) (a b c d : Int) : (binOp .neq 25 (.agg #[.int .i64 a, .int .i64 b]) (.agg #[.int .i64 c, .int .i64 d])).run Try.prog w = .ok (.bool (!(decide ((a, b) = (c, d))))) w := by
  rw [run_neq_struct, run_equalIn_agg _ _ _ _ _ (by kernel_rfl) (by kernel_rfl)]
  rw [fieldsPair, Try.underlying25]
  simp [go_sem]
  by_cases h1 : a = c <;> by_cases h2 : b = d <;> simp [h1, h2]

set_option maxHeartbeats 1000000 in
/-- equal: whether the two lists are one -/
theorem equalPair (A A' : Option Addr) (n m c c' B B' : Nat) (xs ys : List (Int × Int)) (w : World) (hx : Rd w B 2 A n (pairs xs)) (hy : Rd w B' 2 A' m (pairs ys)) (hn : n ≤ 9223372036854775807) :
    Calls Try.prog 17 #[.slice A n c, .slice A' m c'] w fun e w' => e = .returned (.bool (decide (xs = ys))) ∧ Drew w w' := by
  have hxl : xs.length = n := by have := hx.1; rw [pairs_length] at this; omega
  have hyl : ys.length = m := by have := hy.1; rw [pairs_length] at this; omega
  by_cases hnm : n = m
  · subst hnm
    have HX := hide hxl
    have HY := hide hyl
    clear hxl hyl
    go_enter Try.func17, Try.ntmps17
    go_wp2
    go_loopw [13] (fun i wr => ∃ k : Nat, k ≤ n ∧ i = .int .i64 k ∧ Drew w wr ∧ xs.take k = ys.take k) (fun i _ => n - (intOf i).toNat)
    case atStart => exact ⟨0, Nat.zero_le _, rfl, Drew.refl _, by simp⟩
    case round =>
      obtain ⟨k, hk, rfl, hdr, heq⟩ := hrel
      have HE := hide heq
      clear heq
      by_cases hlt : k < n
      · obtain ⟨b, off, x1, x2, rfl, hb, hxx, hc1, hc2⟩ := (hx.ofDrew hdr).pair hlt
        obtain ⟨b', off', y1, y2, rfl, hb', hyy, hc3, hc4⟩ := (hy.ofDrew hdr).pair hlt
        have hki : (k : Int) < (n : Int) := by omega
        by_cases hv : (x1, x2) = (y1, y2)
        · obtain ⟨rfl, rfl⟩ : x1 = y1 ∧ x2 = y2 := by simpa using hv
          have hnq : ∀ w, (binOp .neq 25 (.agg #[.int .i64 x1, .int .i64 x2]) (.agg #[.int .i64 x1, .int .i64 x2])).run Try.prog w = .ok (.bool false) w := fun w => by rw [neqPair]; simp
          clear hv
          go_wp2
          go_quiet (fail)
          go_wp2
          go_roundw
          case rel => exact ⟨k + 1, by omega, by simp, hdr.drewN _, take_both' HE.out hxx.out hyy.out⟩
          case measure => simp [intOf]; omega
        · have hnq : ∀ w, (binOp .neq 25 (.agg #[.int .i64 x1, .int .i64 x2]) (.agg #[.int .i64 y1, .int .i64 y2])).run Try.prog w = .ok (.bool true) w := fun w => by rw [neqPair, decide_eq_false hv]; rfl
          have hne : decide (xs = ys) = false := by
            simp; intro e; subst e; exact hv (by have h1 := hxx.out; have h2 := hyy.out; rw [h1] at h2; simpa using h2)
          have HN := hide hne
          clear hv hne
          go_wp2
          go_quiet (fail)
          go_wp2
          go_ret
          exact ⟨by rw [HN.out]; rfl, hdr.drewN _⟩
      · obtain rfl : k = n := by omega
        have hee : decide (xs = ys) = true := by
          have h := HE.out
          rw [List.take_of_length_le (by rw [HX.out]; exact Nat.le_refl _), List.take_of_length_le (by rw [HY.out]; exact Nat.le_refl _)] at h
          simpa using h
        have HN := hide hee
        clear hee
        go_wp2
        go_ret
        exact ⟨by rw [HN.out]; rfl, hdr⟩
  · have hne : decide (xs = ys) = false := by simp; rintro rfl; omega
    rw [hne]
    have hnn : ((n : Int) != (m : Int)) = true := by simp; omega
    clear hne hxl hyl
    go_enter Try.func17, Try.ntmps17
    go_wp2
    go_ret
    exact ⟨rfl, Drew.refl _⟩

theorem cell_two_at (w : World) (n : Nat) (hn : w.heap.size = n) (a b : Value) (t : TypeId) : ∀ j u, [a, b][j]? = some u → (w.alloc (.cells #[a, b] t)).cell? ((⟨n, 0, none⟩ : Addr).add j) = some u := by
  subst hn; exact cell_two_new w a b t
theorem infoSPair : (Try.prog.info? 55).map (fun i => (i.zero, i.size, i.bytes)) = some (some (.agg #[.int .i64 0, .int .i64 0]), 2, 16) := by kernel_rfl
theorem infoIPair : (Try.prog.info? 25).map (fun i => (i.zero, i.size, i.bytes)) = some (some (.agg #[.int .i64 0, .int .i64 0]), 2, 16) := by kernel_rfl

set_option maxHeartbeats 2000000 in
theorem specAll (a : Option Addr) (len cap : Nat) (zs : List Int) (most : Int) (hreach : len * 16 ≤ 140737488351232) (w : World) (hI : Rd w w.heap.size 1 a len (ints zs)) :
    Calls Try.prog 20 #[.slice a len cap, .int .i64 most] w fun e w' => ∃ v, e = .returned v ∧ w'.ownsRow w.heap.size 55 2 v (firstN zs.length most) (pairs (upto (fwd zs) (firstN zs.length most))) ∧ Below w.heap.size w w' := by
  have hzl : zs.length = len := by have := hI.1; simpa using this
  subst hzl
  have hF := firstN_le zs.length most
  obtain ⟨f, hf⟩ : ∃ f, firstN zs.length most = f := ⟨_, rfl⟩
  have hfl : f ≤ zs.length := by omega
  have hfirst : ∀ w, Calls Try.prog 37 #[.int .i64 zs.length, .int .i64 most] w fun e w' => e = .returned (.int .i64 f) ∧ w = w' := by rw [← hf]; exact fun w => specFirst _ _ w
  have HFI := hide hfirst
  rw [hf]
  clear hF hf hfirst
  obtain ⟨i0, hi, hz0, hz1, hz2⟩ := info_parts infoSPair
  go_enter Try.func20, Try.ntmps20
  go_wp2
  go_loopw [5, 6] (fun v i wr => ∃ k : Nat, k ≤ f ∧ i = .int .i64 k ∧ wr.ownsRow w.heap.size 55 2 v k (pairs (upto (fwd zs) k)) ∧ Below w.heap.size w wr) (fun _ i _ => f - (intOf i).toNat)
  case atStart => exact ⟨0, Nat.zero_le _, rfl, World.ownsRow_nil _ _ _ _, Below.refl _ _⟩
  case round =>
    obtain ⟨k, hk, rfl, hown, hB⟩ := hrel
    have hsz := hB.size
    by_cases hlt : k < f
    · have hlt' : k < zs.length := by omega
      obtain ⟨b, off, x, rfl, hb, hx, hcx⟩ := (hI.below hB).intx (k := k) (by omega)
      have hpf : fwd zs k = ((k : Int), x) := fwd_at hx.out
      have HP := hide hpf
      clear hpf
      skip
      obtain ⟨A', c', rfl⟩ := own_slice hown
      go_wp2_with (first
        | (go_at_call 37; refine (HFI.out _).mono ?_; rintro e w' ⟨rfl, rfl⟩)
        | (at_builtin; go_must (refine wpList_append_own _ rfl _ _ 29 rfl w.heap.size 55 i0 (.agg #[.int .i64 0, .int .i64 0]) 2 16 Try.underlying29 hi hz0 hz1 hz2 rfl (by decide) _ _ _ rfl (hown.alloc _) ⟨wr.heap.size, 0, none⟩ 1 1 [.int .i64 (k : Int), .int .i64 x] rfl rfl (cell_two_new _ _ _ _) (by simp [Value.oneCell']) (by unfold maxLen; omega) (by omega) (by simp; omega) ?_); intro v' w2 hown' hgrow _))
      have hb2 := below_append hB hsz (Nat.le_refl _) hown hgrow
      go_roundw
      case rel => exact ⟨k + 1, by omega, by go_num, by rw [upto_succ, HP.out, pairs_append, pairs_one]; exact hown', hb2⟩
      case measure => simp [intOf]; omega
    · obtain rfl : k = f := by omega
      go_wp2_with (go_at_call 37; refine (HFI.out _).mono ?_; rintro e w' ⟨rfl, rfl⟩)
      go_ret
      exact ⟨_, rfl, hown, hB⟩

set_option maxHeartbeats 2000000 in
theorem specBackward (a : Option Addr) (len cap : Nat) (zs : List Int) (most : Int) (hreach : len * 16 ≤ 140737488351232) (w : World) (hI : Rd w w.heap.size 1 a len (ints zs)) :
    Calls Try.prog 22 #[.slice a len cap, .int .i64 most] w fun e w' => ∃ v, e = .returned v ∧ w'.ownsRow w.heap.size 55 2 v (firstN zs.length most) (pairs (upto (bwd zs) (firstN zs.length most))) ∧ Below w.heap.size w w' := by
  have hzl : zs.length = len := by have := hI.1; simpa using this
  subst hzl
  have hF := firstN_le zs.length most
  obtain ⟨f, hf⟩ : ∃ f, firstN zs.length most = f := ⟨_, rfl⟩
  have hfl : f ≤ zs.length := by omega
  have hfirst : ∀ w, Calls Try.prog 37 #[.int .i64 zs.length, .int .i64 most] w fun e w' => e = .returned (.int .i64 f) ∧ w = w' := by rw [← hf]; exact fun w => specFirst _ _ w
  have HFI := hide hfirst
  rw [hf]
  clear hF hf hfirst
  obtain ⟨i0, hi, hz0, hz1, hz2⟩ := info_parts infoSPair
  go_enter Try.func22, Try.ntmps22
  go_wp2
  go_loopw [5, 6] (fun v i wr => ∃ k : Nat, k ≤ f ∧ i = .int .i64 k ∧ wr.ownsRow w.heap.size 55 2 v k (pairs (upto (bwd zs) k)) ∧ Below w.heap.size w wr) (fun _ i _ => f - (intOf i).toNat)
  case atStart => exact ⟨0, Nat.zero_le _, rfl, World.ownsRow_nil _ _ _ _, Below.refl _ _⟩
  case round =>
    obtain ⟨k, hk, rfl, hown, hB⟩ := hrel
    have hsz := hB.size
    by_cases hlt : k < f
    · have hlt' : k < zs.length := by omega
      obtain ⟨b, off, x, rfl, hb, hx, hcx⟩ := (hI.below hB).intx (k := zs.length - 1 - k) (by omega)
      have hpf : bwd zs k = (((zs.length : Int) - 1 - k), x) := bwd_at rfl hlt' hx.out
      have HP := hide hpf
      clear hpf
      skip
      obtain ⟨A', c', rfl⟩ := own_slice hown
      go_wp2_with (first
        | (go_at_call 37; refine (HFI.out _).mono ?_; rintro e w' ⟨rfl, rfl⟩)
        | (at_builtin; go_must (refine wpList_append_own _ rfl _ _ 29 rfl w.heap.size 55 i0 (.agg #[.int .i64 0, .int .i64 0]) 2 16 Try.underlying29 hi hz0 hz1 hz2 rfl (by decide) _ _ _ rfl (hown.alloc _) ⟨wr.heap.size, 0, none⟩ 1 1 [.int .i64 ((zs.length : Int) - 1 - k), .int .i64 x] rfl rfl (cell_two_new _ _ _ _) (by simp [Value.oneCell']) (by unfold maxLen; omega) (by omega) (by simp; omega) ?_); intro v' w2 hown' hgrow _))
      have hb2 := below_append hB hsz (Nat.le_refl _) hown hgrow
      go_roundw
      case rel => exact ⟨k + 1, by omega, by go_num, by rw [upto_succ, HP.out, pairs_append, pairs_one]; exact hown', hb2⟩
      case measure => simp [intOf]; omega
    · obtain rfl : k = f := by omega
      go_wp2_with (go_at_call 37; refine (HFI.out _).mono ?_; rintro e w' ⟨rfl, rfl⟩)
      go_ret
      exact ⟨_, rfl, hown, hB⟩

set_option maxHeartbeats 2000000 in
/-- a conversion, item by item, of a slice of two-number structs -/
theorem iPairs (A : Option Addr) (n c B : Nat) (l : List (Int × Int)) (w : World) (hI : Rd w w.heap.size 2 A n (pairs l)) (hreach : n * 16 ≤ 140737488351232) :
    Calls Try.prog 19 #[.slice A n c] w fun e w' => ∃ v, e = .returned v ∧ w'.ownsRow w.heap.size 25 2 v n (pairs l) ∧ Below w.heap.size w w' := by
  have hl : l.length = n := by have := hI.1; rw [pairs_length] at this; omega
  subst hl
  obtain ⟨i0, hi, hz0, hz1, hz2⟩ := info_parts infoIPair
  go_enter Try.func19, Try.ntmps19
  go_wp2
  go_loopw [3, 8] (fun v i wr => ∃ k : Nat, k ≤ l.length ∧ i = .int .i64 k ∧ wr.ownsRow w.heap.size 25 2 v k (pairs (l.take k)) ∧ Below w.heap.size w wr) (fun _ i _ => l.length - (intOf i).toNat)
  case atStart => exact ⟨0, Nat.zero_le _, rfl, World.ownsRow_nil _ _ _ _, Below.refl _ _⟩
  case round =>
    obtain ⟨k, hk, rfl, hown, hB⟩ := hrel
    have hsz := hB.size
    by_cases hlt : k < l.length
    · obtain ⟨b, off, x, y, rfl, hb, hx, hc1, hc2⟩ := (hI.below hB).pair hlt
      obtain ⟨A', c', rfl⟩ := own_slice hown
      go_wp2_with (at_builtin; go_must (refine wpList_append_own _ rfl _ _ 26 rfl w.heap.size 25 i0 (.agg #[.int .i64 0, .int .i64 0]) 2 16 Try.underlying26 hi hz0 hz1 hz2 rfl (by decide) _ _ _ rfl ((hown.alloc _).alloc _) ⟨wr.heap.size + 1, 0, none⟩ 1 1 [.int .i64 x, .int .i64 y] rfl rfl (cell_two_at _ _ (by simp) _ _ _) (by simp [Value.oneCell']) (by unfold maxLen; omega) (by omega) (by simp; omega) ?_); intro v' w2 hown' hgrow _)
      have hb2 := below_append (hB.alloc hsz _) (by simp; omega) (Nat.le_refl _) (hown.alloc _) hgrow
      go_roundw
      case rel => exact ⟨k + 1, by omega, by go_num, by rw [pairs_snoc hx.out]; exact hown', hb2⟩
      case measure => simp [intOf]; omega
    · obtain rfl : k = l.length := by omega
      go_wp2
      go_ret
      exact ⟨_, rfl, by simpa using hown, hB⟩
end Go.Proofs.Ytbgkchjephioiaa
