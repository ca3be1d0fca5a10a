/-
  math.Float64frombits, math.Float64bits; the laws' after and oneNaN.
-/
import Derived.WalkKit
import Derived.WalkLawsBesides
import Derived.Outline
import Derived.Deep.DeepMust
import Derived.Deep.QuietTactic
import Derived.BigQuiet
import Derived.Maps.AppendAt
import Derived.Laws.Cover2
import Derived.Laws.Externs
import Derived.Test.YthefajbahbmohaaF0
import Derived.Test.YthefajbahbmohaaFP
import Derived.Test.YthefajbahbmohaaFlB
import Derived.Test.YthefajbahbmohaaAppR
import Derived.Test.YthefajbahbmohaaSpec
namespace Go.Proofs.Ythefajbahbmohaa
open Go.RowKit
set_option linter.unusedVariables false
set_option linter.unusedSimpArgs false

theorem runFrom (x : Int) (w : World) : (callFunc 32 #[.int .u64 x]).run Try.prog w = .ok (.value (.float .f64 x.toNat)) w := by
  rw [run_callFunc_extern Try.func32 (by kernel_rfl) (by kernel_rfl) (by kernel_rfl) (e := Extern.MathFloatBits.float64frombits) (by kernel_rfl)]
  rfl
theorem runBits (x : Nat) (w : World) : (callFunc 35 #[.float .f64 x]).run Try.prog w = .ok (.value (.int .u64 x)) w := by
  rw [run_callFunc_extern Try.func35 (by kernel_rfl) (by kernel_rfl) (by kernel_rfl) (e := Extern.MathFloatBits.float64bits) (by kernel_rfl)]
  rfl

theorem after_ltF (x y : Nat) : (FloatKind.f64.format.order x y == some .gt || ((FloatKind.f64.format.order x x == some .eq) && (FloatKind.f64.format.order y y != some .eq))) = ltF y x := after_ltD (FloatKind.f64.format.read x) (FloatKind.f64.format.read y)

set_option maxRecDepth 100000 in
set_option maxHeartbeats 1000000 in
theorem lawsAfter (a b : Int) (w : World) : Calls Try.prog 24 #[.int .u64 a, .int .u64 b] w fun e w' => e = .returned (.bool (ltF b.toNat a.toNat)) ∧ w' = w := by
  have mixed := mixedF
  have hfr := runFrom
  rw [← after_ltF]
  obtain ⟨x, hx⟩ : ∃ x, x = a.toNat := ⟨_, rfl⟩
  obtain ⟨y, hy⟩ : ∃ y, y = b.toNat := ⟨_, rfl⟩
  have h1 : ∀ w, (callFunc 32 #[.int .u64 a]).run Try.prog w = .ok (.value (.float .f64 x)) w := by rw [hx]; exact runFrom a
  have h2 : ∀ w, (callFunc 32 #[.int .u64 b]).run Try.prog w = .ok (.value (.float .f64 y)) w := by rw [hy]; exact runFrom b
  rw [← hx, ← hy]
  clear hx hy hfr
  go_enter Try.func24, Try.ntmps24
  go_wp2_with fail
  all_goals go_ret
  all_goals exact ⟨by simp [*], rfl⟩

/-- one bit pattern for all NaNs -/
def one1 (x : Int) : Int := if nanF x.toNat then 9221120237041090560 else x
theorem one_snoc {zs : List Int} {k : Nat} {x : Int} (h : zs[k]? = some x) : u64s ((zs.take (k + 1)).map one1) = u64s ((zs.take k).map one1) ++ [.int .u64 (one1 x)] := by
  rw [take_snoc' h]; simp [u64s]
set_option maxRecDepth 100000 in
set_option maxHeartbeats 1000000 in
theorem lawsOneNaN (a : Option Addr) (n c B : Nat) (zs : List Int) (w : World) (hr : Rd w B 1 a n (u64s zs)) (hB0 : B ≤ w.heap.size) (hb : n * 8 ≤ 140737488351232) :
    Calls Try.prog 23 #[.slice a n c] w fun e w' => ∃ A' c', e = .returned (.slice A' n c') ∧ w'.ownsRow w.heap.size 38 1 (.slice A' n c') n (u64s (zs.map one1)) ∧ Below w.heap.size w w' := by
  have mixed := mixedF
  have hfr := runFrom
  have hzl : zs.length = n := by have := hr.1; simpa using this
  have HZ := hide hzl
  clear hzl
  obtain ⟨i0, hi, hz0, hz1, hz2⟩ := info_parts infoU
  go_enter Try.func23, Try.ntmps23
  go_wp2
  go_loopw [3, 9] (fun v i wr => ∃ k : Nat, k ≤ n ∧ i = .int .i64 k ∧ wr.ownsRow w.heap.size 38 1 v k (u64s ((zs.take k).map one1)) ∧ Below w.heap.size w wr) (fun _ i _ => n - (intOf i).toNat)
  case atStart => exact ⟨0, Nat.zero_le _, rfl, by simpa using World.ownsRow_nil _ _ _ _, Below.refl _ _⟩
  case round =>
    obtain ⟨k, hk, rfl, hown, hB⟩ := hrel
    have hsz := hB.size
    obtain ⟨A', c', rfl⟩ := own_slice hown
    by_cases hlt : k < n
    · obtain ⟨b, off, x, rfl, hb', hx, hcx⟩ := (hr.below (hB.mono hB0)).u64x hlt
      obtain ⟨q, hq⟩ : ∃ q, q = nanF x.toNat := ⟨_, rfl⟩
      have hq' : (FloatKind.f64.format.order x.toNat x.toNat != some .eq) = q := hq.symm
      have h1 : one1 x = if q then 9221120237041090560 else x := by unfold one1; rw [← hq]
      have H1 := hide h1
      clear h1 hq
      cases q
      · have H2 : one1 x = x := H1.out
        go_wp2_with (at_builtin; go_must (refine wpList_append_own _ rfl _ _ 35 rfl w.heap.size 38 i0 (.int .u64 0) 1 8 Try.underlying35 hi hz0 hz1 hz2 rfl (by decide) _ _ _ rfl (hown.alloc _) ⟨wr.heap.size, 0, none⟩ 1 1 [.int .u64 x] rfl rfl (cell_one_new _ _ _) (by simp [Value.oneCell']) (by unfold maxLen; omega) (by omega) (by simp; omega) ?_); intro v' w2 hown' hgrow _)
        have hb2 := below_append hB hsz (Nat.le_refl _) hown hgrow
        go_roundw
        case rel => exact ⟨k + 1, by omega, by go_num, by rw [one_snoc hx.out, H1.out]; exact hown', hb2⟩
        case measure => simp [intOf]; omega
      · go_wp2_with (at_builtin; go_must (refine wpList_append_own _ rfl _ _ 35 rfl w.heap.size 38 i0 (.int .u64 0) 1 8 Try.underlying35 hi hz0 hz1 hz2 rfl (by decide) _ _ _ rfl (hown.alloc _) ⟨wr.heap.size, 0, none⟩ 1 1 [.int .u64 9221120237041090560] rfl rfl (cell_one_new _ _ _) (by simp [Value.oneCell']) (by unfold maxLen; omega) (by omega) (by simp; omega) ?_); intro v' w2 hown' hgrow _)
        have hb2 := below_append hB hsz (Nat.le_refl _) hown hgrow
        go_roundw
        case rel => exact ⟨k + 1, by omega, by go_num, by rw [one_snoc hx.out, H1.out]; exact hown', hb2⟩
        case measure => simp [intOf]; omega
    · obtain rfl : k = n := by omega
      rw [List.take_of_length_le (by rw [HZ.out]; exact Nat.le_refl _)] at hown
      go_wp2
      go_ret
      exact ⟨A', c', rfl, hown, hB⟩
end Go.Proofs.Ythefajbahbmohaa
