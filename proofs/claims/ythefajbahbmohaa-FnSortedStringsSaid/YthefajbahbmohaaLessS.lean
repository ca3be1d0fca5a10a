/-
  spec.lessString; equal of two slices of strings.
-/
import Derived.WalkKit
import Derived.WalkLawsBesides
import Derived.Outline
import Derived.Deep.DeepMust
import Derived.Deep.QuietTactic
import Derived.BigQuiet
import Derived.Test.YthefajbahbmohaaPlainS
import Derived.Test.YthefajbahbmohaaStrB
namespace Go.Proofs.Ythefajbahbmohaa
open Go.RowKit
set_option linter.unusedVariables false
set_option linter.unusedSimpArgs false

set_option maxRecDepth 100000 in
set_option maxHeartbeats 2000000 in
theorem lessStr (a b : ByteArray) (w : World) (ha : a.size ≤ 9223372036854775807) (hb : b.size ≤ 9223372036854775807) :
    Calls Try.prog 31 #[.string a, .string b] w fun e w' => e = .returned (.bool (decide (bytes a < bytes b))) ∧ Drew w w' := by
  go_enter Try.func31, Try.ntmps31
  go_wp2
  go_loopw [5] (fun i wr => ∃ k : Nat, k ≤ a.size ∧ k ≤ b.size ∧ i = .int .i64 k ∧ Drew w wr ∧ Hid ((bytes a).take k = (bytes b).take k)) (fun i _ => a.size - (intOf i).toNat)
  case atStart => exact ⟨0, Nat.zero_le _, Nat.zero_le _, rfl, Drew.refl _, hide (by simp)⟩
  case round =>
    obtain ⟨k, hka, hkb, rfl, hdr, heq⟩ := hrel
    have hla : (bytes a).length = a.size := by simp [bytes]
    have hlb : (bytes b).length = b.size := by simp [bytes]
    by_cases hlt : k < a.size
    · have hlti : (k : Int) < (a.size : Int) := by omega
      by_cases hlt2 : k < b.size
      · have hlti2 : (k : Int) < (b.size : Int) := by omega
        obtain ⟨x, hx⟩ : ∃ x, a[k] = x := ⟨_, rfl⟩
        obtain ⟨y, hy⟩ : ∃ y, b[k] = y := ⟨_, rfl⟩
        have hx2 : (bytes a)[k]? = some x := by rw [← hx, List.getElem?_eq_getElem (by omega)]; rfl
        have hy2 : (bytes b)[k]? = some y := by rw [← hy, List.getElem?_eq_getElem (by omega)]; rfl
        have HX := hide hx2
        have HY := hide hy2
        clear hx2 hy2 hla hlb
        by_cases hxy : x = y
        · subst hxy
          have hne : ((x.toNat : Int) != (x.toNat : Int)) = false := by simp
          go_wp2_with fail
          go_quiet (fail)
          go_wp2_with fail
          go_roundw
          case rel => exact ⟨k + 1, by omega, by omega, by go_num, hdr.drewN _, hide (take_both' heq.out HX.out HY.out)⟩
          case measure => simp [intOf]; omega
        · have hne : ((x.toNat : Int) != (y.toNat : Int)) = true := by
            simp only [bne_iff_ne, ne_eq]
            intro h
            exact hxy (UInt8.toNat_inj.1 (by omega))
          have hres : decide (x.toNat < y.toNat) = decide (bytes a < bytes b) := by
            rw [decide_eq_decide, lt_at k _ _ x y heq.out HX.out HY.out hxy, UInt8.lt_iff_toNat_lt]
          have HR := hide hres
          clear hres hxy
          go_wp2_with fail
          go_quiet (fail)
          go_wp2_with fail
          go_quiet (fail)
          go_wp2_with fail
          go_ret
          exact ⟨by rw [← HR.out]; rfl, (hdr.drewN _).drewN _⟩
      · have hlti2 : decide ((k : Int) < (b.size : Int)) = false := by simp; omega
        have hres : decide (a.size < b.size) = decide (bytes a < bytes b) := by
          rw [decide_eq_decide, lt_end k _ _ heq.out (by omega) (by omega) (by omega), hla, hlb]
        have HR := hide hres
        clear hres hla hlb
        go_wp2_with fail
        go_ret
        exact ⟨by rw [← HR.out]; rfl, hdr⟩
    · have hlti : decide ((k : Int) < (a.size : Int)) = false := by simp; omega
      have hres : decide (a.size < b.size) = decide (bytes a < bytes b) := by
        rw [decide_eq_decide, lt_end k _ _ heq.out (by omega) (by omega) (by omega), hla, hlb]
      have HR := hide hres
      clear hres hla hlb
      go_wp2_with fail
      go_ret
      exact ⟨by rw [← HR.out]; rfl, hdr⟩
end Go.Proofs.Ythefajbahbmohaa
