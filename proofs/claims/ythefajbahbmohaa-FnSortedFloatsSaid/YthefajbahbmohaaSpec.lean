/-
  The plain helpers of the reference and of the laws: spec.first, spec.Values, equal of two slices of numbers.
-/
import Derived.WalkKit
import Derived.WalkLawsBesides
import Derived.Outline
import Derived.Deep.DeepMust
import Derived.Deep.QuietTactic
import Derived.BigQuiet
import Derived.Maps.AppendAt
import Derived.Test.YthefajbahbmohaaBase
namespace Go.Proofs.Ythefajbahbmohaa
open Go.RowKit
set_option linter.unusedVariables false
set_option linter.unusedSimpArgs false

theorem ret_int {k : IntKind} {a b : Int} (h : a = b) : Ending.returned (.int k a) = .returned (.int k b) := by rw [h]
theorem specFirst (n : Nat) (most : Int) (w : World) :
    Calls Try.prog 40 #[.int .i64 n, .int .i64 most] w fun e w' => e = .returned (.int .i64 (firstN n most)) ∧ w = w' := by
  by_cases h0 : 0 ≤ most
  · by_cases h1 : most < n
    · go_enter Try.func40, Try.ntmps40
      go_wp2
      go_ret
      exact ⟨by unfold firstN; rw [if_pos ⟨h0, h1⟩]; exact ret_int (by omega), rfl⟩
    · go_enter Try.func40, Try.ntmps40
      go_wp2
      go_ret
      exact ⟨by unfold firstN; rw [if_neg (by omega)]; rfl, rfl⟩
  · go_enter Try.func40, Try.ntmps40
    go_wp2
    go_ret
    exact ⟨by unfold firstN; rw [if_neg (by omega)]; rfl, rfl⟩

theorem take_both {xs ys : List Int} {k : Nat} (h : xs.take k = ys.take k) (he : xs[k]?.getD 0 = ys[k]?.getD 0) (hx : k < xs.length) (hy : k < ys.length) : xs.take (k + 1) = ys.take (k + 1) := by
  rw [List.take_succ_eq_append_getElem hx, List.take_succ_eq_append_getElem hy, h]
  simp [hx, hy] at he
  rw [he]

set_option maxHeartbeats 1000000 in
/-- equal: whether the two lists are one -/
theorem equalInt (A A' : Option Addr) (n m c c' B B' : Nat) (xs ys : List Int) (w : World) (hx : Rd w B 1 A n (ints xs)) (hy : Rd w B' 1 A' m (ints ys)) (hn : n ≤ 9223372036854775807) :
    Calls Try.prog 14 #[.slice A n c, .slice A' m c'] w fun e w' => e = .returned (.bool (decide (xs = ys))) ∧ Drew w w' := by
  have hxl : xs.length = n := by have := hx.1; simpa using this
  have hyl : ys.length = m := by have := hy.1; simpa using this
  by_cases hnm : n = m
  · subst hnm
    have HX := hide hxl
    have HY := hide hyl
    clear hxl hyl
    go_enter Try.func14, Try.ntmps14
    go_wp2
    go_loopw [13] (fun i wr => ∃ k : Nat, k ≤ n ∧ i = .int .i64 k ∧ Drew w wr ∧ xs.take k = ys.take k) (fun i _ => n - (intOf i).toNat)
    case atStart => exact ⟨0, Nat.zero_le _, rfl, Drew.refl _, by simp⟩
    case round =>
      obtain ⟨k, hk, rfl, hdr, heq⟩ := hrel
      have HE := hide heq
      clear heq
      by_cases hlt : k < n
      · obtain ⟨b, off, rfl, hb, hcx⟩ := (hx.ofDrew hdr).int hlt
        obtain ⟨b', off', rfl, hb', hcy⟩ := (hy.ofDrew hdr).int hlt
        have hki : (k : Int) < (n : Int) := by omega
        by_cases hv : xs[k]?.getD 0 = ys[k]?.getD 0
        · have hv' : (xs[k]?.getD 0 != ys[k]?.getD 0) = false := by simpa using hv
          have HV := hide hv
          clear hv
          go_wp2
          go_quiet (fail)
          go_wp2
          go_roundw
          case rel => exact ⟨k + 1, by omega, by simp, hdr.drewN _, take_both HE.out HV.out (by rw [HX.out]; exact hlt) (by rw [HY.out]; exact hlt)⟩
          case measure => simp [intOf]; omega
        · have hv' : (xs[k]?.getD 0 != ys[k]?.getD 0) = true := by simpa using hv
          have hne : decide (xs = ys) = false := by simp; intro e; exact hv (by rw [e])
          clear hv
          have HN := hide hne
          clear hne
          go_wp2
          go_quiet (fail)
          go_wp2
          go_ret
          exact ⟨by rw [HN.out]; rfl, hdr.drewN _⟩
      · obtain rfl : k = n := by omega
        have hee : decide (xs = ys) = true := by
          have h := HE.out
          rw [List.take_of_length_le (by rw [HX.out]; exact Nat.le_refl _), List.take_of_length_le (by rw [HY.out]; exact Nat.le_refl _)] at h
          simpa using h
        have HN := hide hee
        clear hee
        go_wp2
        go_ret
        exact ⟨by rw [HN.out]; rfl, hdr⟩
  · have hne : decide (xs = ys) = false := by simp; rintro rfl; omega
    rw [hne]
    have hnn : ((n : Int) != (m : Int)) = true := by simp; omega
    clear hne hxl hyl
    go_enter Try.func14, Try.ntmps14
    go_wp2
    go_ret
    exact ⟨rfl, Drew.refl _⟩
theorem equalIntT (A A' : Option Addr) (n m c c' B B' : Nat) (xs : List Int) (w : World) (hx : Rd w B 1 A n (ints xs)) (hy : Rd w B' 1 A' m (ints xs)) (hn : n ≤ 9223372036854775807) :
    Calls Try.prog 14 #[.slice A n c, .slice A' m c'] w fun e w' => e = .returned (.bool true) ∧ Drew w w' :=
  (equalInt A A' n m c c' B B' xs xs w hx hy hn).mono fun e w' ⟨he, hd⟩ => ⟨by rw [he]; simp, hd⟩
theorem below_append {w wr w1 : World} {B base : Nat} {e : TypeId} {sz : Nat} {v : Value} {n : Nat} {xs : List Value} {o : Obj} (hb : Below B w wr) (hB : B ≤ wr.heap.size) (hbase : B ≤ base) (h : wr.ownsRow base e sz v n xs) (hg : (wr.alloc o).grownBy w1 v.ownBlock) : Below B w w1 :=
  (hb.alloc hB o).grown hg (by simp; omega) fun k e => Nat.le_trans hbase (h.lt k e).1

set_option maxHeartbeats 2000000 in
/-- spec.Values: the first elements -/
theorem specValues (a : Option Addr) (len cap : Nat) (zs : List Int) (most : Int) (hreach : len * 8 ≤ 140737488351232) (w : World) (hI : Rd w w.heap.size 1 a len (ints zs)) :
    Calls Try.prog 27 #[.slice a len cap, .int .i64 most] w fun e w' => ∃ v, e = .returned v ∧ w'.ownsRow w.heap.size 3 1 v (firstN zs.length most) (ints (zs.take (firstN zs.length most))) ∧ Below w.heap.size w w' := by
  have hzl : zs.length = len := by have := hI.1; simpa using this
  subst hzl
  have hF := firstN_le zs.length most
  obtain ⟨f, hf⟩ : ∃ f, firstN zs.length most = f := ⟨_, rfl⟩
  have hfl : f ≤ zs.length := by omega
  have hfirst : ∀ w, Calls Try.prog 40 #[.int .i64 zs.length, .int .i64 most] w fun e w' => e = .returned (.int .i64 f) ∧ w = w' := by rw [← hf]; exact fun w => specFirst _ _ w
  have HFI := hide hfirst
  rw [hf]
  clear hF hf hfirst
  obtain ⟨i0, hi, hz0, hz1, hz2⟩ := info_parts infoInt
  go_enter Try.func27, Try.ntmps27
  go_wp2
  go_loopw [5, 6] (fun v i wr => ∃ k : Nat, k ≤ f ∧ i = .int .i64 k ∧ wr.ownsRow w.heap.size 3 1 v k (ints (zs.take k)) ∧ Below w.heap.size w wr) (fun _ i _ => f - (intOf i).toNat)
  case atStart => exact ⟨0, Nat.zero_le _, rfl, by simpa using World.ownsRow_nil _ _ _ _, Below.refl _ _⟩
  case round =>
    obtain ⟨k, hk, rfl, hown, hB⟩ := hrel
    have hsz := hB.size
    by_cases hlt : k < f
    · have hlt' : k < zs.length := by omega
      obtain ⟨b, off, x, rfl, hb, hx, hcx⟩ := (hI.below hB).intx hlt'
      obtain ⟨A', c', rfl⟩ := own_slice hown
      go_wp2_with (first
        | (go_at_call 40; refine (HFI.out _).mono ?_; rintro e w' ⟨rfl, rfl⟩)
        | (at_builtin; go_must (refine wpList_append_own _ rfl _ _ 22 rfl w.heap.size 3 i0 (.int .i64 0) 1 8 Try.underlying22 hi hz0 hz1 hz2 rfl (by decide) _ _ _ rfl (hown.alloc _) ⟨wr.heap.size, 0, none⟩ 1 1 [.int .i64 x] rfl rfl (cell_one_new _ _ _) (by simp [Value.oneCell']) (by unfold maxLen; omega) (by omega) (by simp; omega) ?_); intro v' w2 hown' hgrow _))
      have hb2 := below_append hB hsz (Nat.le_refl _) hown hgrow
      go_roundw
      case rel => exact ⟨k + 1, by omega, by go_num, by rw [int_snoc hx.out]; exact hown', hb2⟩
      case measure => simp [intOf]; omega
    · obtain rfl : k = f := by omega
      go_wp2_with (go_at_call 40; refine (HFI.out _).mono ?_; rintro e w' ⟨rfl, rfl⟩)
      go_ret
      exact ⟨_, rfl, hown, hB⟩
end Go.Proofs.Ythefajbahbmohaa
