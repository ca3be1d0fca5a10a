/-
  slices.heapSortCmpFunc at items.
-/
import Derived.Test.YtiocgmeonfanmaaStPc
import Derived.Sort.WalkB3
namespace Go.Proofs.Ytiocgmeonfanmaa
open Go.RowKit Go.Sort Go.Shelf
set_option linter.unusedVariables false
set_option linter.unusedSimpArgs false
variable {α : Type} [Inhabited α]

set_option maxHeartbeats 2000000 in
set_option maxRecDepth 1000000 in
theorem heapI (it : α → Int × Int) (s : Int) (A : Option Addr) (l c B : Nat) (zs : List Int) (blk off cap a b : Nat) (d0 d : Array α) (w0 w : World) (R : RowK (encI it) 2 w0 blk off d0) (C : CmpB s A l c B zs w0 blk) (hs : d.size = d0.size) (S : SWK (encI it) 2 w0 blk off d w) (hab : a ≤ b) (hb : b ≤ d.size) (hsz : d.size < 2305843009213693952) :
    Calls Try.prog 46 #[.slice (some ⟨blk, off, none⟩) d.size cap, .int .i64 a, .int .i64 b, .func (.func 26) #[.agg #[.int .i64 s, .slice A l c]] #[]] w fun e w' => e = .returned (.tuple #[]) ∧ SWK (encI it) 2 w0 blk off (heapSort (ltOf (cfI s zs it)) d a b) w' := by
  have mixed := mixedI
  have HS := hide hs
  have HSD := hide fun (lo hi : Nat) (dk : Array α) (W : World) (hds : dk.size = d.size) (S : SWK (encI it) 2 w0 blk off dk W) (hlo : lo ≤ hi) (hb : a + hi ≤ d.size) => (show _ from by have h := siftI it s A l c B zs blk off cap lo hi a d0 dk w0 W R C (hds.trans hs) S hlo (by rw [hds]; exact hb) (by rw [hds]; exact hsz); rw [hds] at h; exact h : Calls Try.prog 65 #[.slice (some ⟨blk, off, none⟩) d.size cap, .int .i64 lo, .int .i64 hi, .int .i64 a, .func (.func 26) #[.agg #[.int .i64 s, .slice A l c]] #[]] W fun e w' => e = .returned (.tuple #[]) ∧ SWK (encI it) 2 w0 blk off (siftDown (ltOf (cfI s zs it)) hi a lo dk) w')
  clear hs C
  have S0 : Hid (SWK (encI it) 2 w0 blk off d w) := S
  clear S
  have hhs := half_start hab
  obtain ⟨hi, hhi⟩ : ∃ hi : Nat, (b : Int) - (a : Int) = (hi : Int) := ⟨b - a, by omega⟩
  have HHI : Hid (b - a = hi) := hide (by omega)
  have hahi : a + hi ≤ d.size := by omega
  rw [hhi] at hhs
  obtain ⟨k0, hk0⟩ : ∃ k0, k0 = (b - a - 1) / 2 + 1 := ⟨_, rfl⟩
  rw [← hk0] at hhs
  have HK0 := hide hk0
  have hk0b : k0 ≤ hi + 1 := by omega
  clear hk0
  go_enter Try.func46, Try.ntmps46
  go_wp2
  go_loopw [11] (fun v wr => ∃ (k : Nat) (dk : Array α), v = .int .i64 ((k : Int) - 1) ∧ k ≤ hi + 1 ∧ Hid (SWK (encI it) 2 w0 blk off dk wr) ∧ Hid (dk.size = d.size) ∧ Hid (heapBuild (ltOf (cfI s zs it)) hi a k dk = heapBuild (ltOf (cfI s zs it)) hi a k0 d)) (fun v _ => (intOf v + 1).toNat)
  case atStart => exact ⟨k0, d, by first | rfl | go_num | (rw [hhs]), hk0b, S0, hide rfl, hide rfl⟩
  case round =>
    clear S0
    obtain ⟨k, dk, rfl, hk, S1, hds, HE⟩ := hrel
    cases k with
    | succ k =>
      have hz : (0 : Int) ≤ (k : Int) := by omega
      have ekz : ((k + 1 : Nat) : Int) - 1 = (k : Int) := by omega
      rw [ekz]
      have HC := hide (HSD.out k hi dk wr hds.out S1.out (by omega) hahi)
      go_wp2_with fail
      refine HC.out.mono ?_
      rintro _ w1 ⟨rfl, S2⟩
      have S2 := hide S2
      go_wp2
      go_roundw
      case rel => exact ⟨k, _, by go_num, by omega, S2, hide (by rw [size_siftDown _ _ _ _ _ _ (Nat.le_refl _)]; exact hds.out), hide (by rw [← HE.out]; rfl)⟩
      case measure => first | (simp [intOf]; omega) | simp [intOf]
    | zero =>
      have hz : ¬ (0 : Int) ≤ ((0 : Nat) : Int) - 1 := by omega
      have HD : Hid (dk = heapBuild (ltOf (cfI s zs it)) hi a k0 d) := hide HE.out
      obtain ⟨wR, hwR⟩ : ∃ w0 : World, w0 = wr := ⟨_, rfl⟩
      rw [← hwR] at S1 ⊢
      clear hwR
      go_wp2
      go_loopw [12] (fun v wr => ∃ (k : Nat) (dj : Array α), v = .int .i64 ((k : Int) - 1) ∧ k ≤ hi ∧ Hid (SWK (encI it) 2 w0 blk off dj wr) ∧ Hid (dj.size = d.size) ∧ Hid (heapPop (ltOf (cfI s zs it)) a k dj = heapPop (ltOf (cfI s zs it)) a hi dk)) (fun v _ => (intOf v + 1).toNat)
      case atStart => exact ⟨hi, dk, by first | rfl | go_num, Nat.le_refl _, S1, hds, hide rfl⟩
      case round =>
        clear S1
        obtain ⟨k, dj, rfl, hk2, T1, hdj, HP⟩ := hrel
        cases k with
        | succ k =>
          have hz2 : (0 : Int) ≤ (k : Int) := by omega
          have ekz : ((k + 1 : Nat) : Int) - 1 = (k : Int) := by omega
          rw [ekz]
          have T1z : dj.size = d.size := hdj.out
          by_cases hk0 : k = 0
          · subst hk0
            have esi : ((a : Int)).toNat = a := by omega
            have psi : (0 : Int) ≤ (a : Int) := by omega
            have bsi : (a : Int) < (d.size : Int) := by omega
            have rsi : IntKind.i64.wrap ((a : Int)) = (a : Int) := by rw [IntKind.wrap_i64]; omega
            have S3 : Hid _ := hide (SWI.swapped T1.out R (a) (a) (by have := T1z; omega) (by have := T1z; omega))
            obtain ⟨cs1, fs1⟩ := SWI.cell0 T1.out R (hdj.out.trans HS.out) (i := a) (by have := T1z; omega)
            obtain ⟨cs1b, fs1b⟩ := SWI.cell1 T1.out R (hdj.out.trans HS.out) (i := a) (by have := T1z; omega)
            obtain ⟨cs3, fs3⟩ := SWI.cell0 T1.out R (hdj.out.trans HS.out) (i := a) (by have := T1z; omega)
            obtain ⟨cs3b, fs3b⟩ := SWI.cell1 T1.out R (hdj.out.trans HS.out) (i := a) (by have := T1z; omega)
            obtain ⟨xs1, hxs1⟩ : ∃ x, x = dj[a]! := ⟨_, rfl⟩
            rw [← hxs1] at S3 cs1 cs1b cs3 cs3b
            clear hxs1
            go_wp2_with fail
            go_big_region_o
            clear cs1 cs1b cs3 cs3b fs1 fs1b fs3 fs3b
            generalize World.drew _ = w3 at S3 ⊢
            have HC := hide (HSD.out 0 0 (swp dj a a) w3 (by rw [size_swp]; exact hdj.out) S3.out (by omega) (by omega))
            go_wp2_with fail
            refine HC.out.mono ?_
            rintro _ w1 ⟨rfl, S4⟩
            have S4 := hide S4
            go_wp2
            go_roundw
            case rel => exact ⟨0, _, by first | rfl | go_num, by omega, S4, hide (by rw [size_siftDown _ _ _ _ _ _ (Nat.le_refl _), size_swp]; exact hdj.out), hide (by rw [← HP.out]; rfl)⟩
            case measure => first | (simp [intOf]; omega) | simp [intOf]
          · have hkp : 0 < k := by omega
            have hkpz : 0 < (k : Int) := by omega
            have esi : ((a : Int)).toNat = a := by omega
            have psi : (0 : Int) ≤ (a : Int) := by omega
            have bsi : (a : Int) < (d.size : Int) := by omega
            have rsi : IntKind.i64.wrap ((a : Int)) = (a : Int) := by rw [IntKind.wrap_i64]; omega
            have esj : ((a : Int) + (k : Int)).toNat = a + k := by omega
            have psj : (0 : Int) ≤ (a : Int) + (k : Int) := by omega
            have bsj : (a : Int) + (k : Int) < (d.size : Int) := by omega
            have rsj : IntKind.i64.wrap ((a : Int) + (k : Int)) = (a : Int) + (k : Int) := by rw [IntKind.wrap_i64]; omega
            have S3 : Hid _ := hide (SWI.swapped T1.out R (a) (a + k) (by have := T1z; omega) (by have := T1z; omega))
            obtain ⟨cs1, fs1⟩ := SWI.cell0 T1.out R (hdj.out.trans HS.out) (i := a) (by have := T1z; omega)
            obtain ⟨cs1b, fs1b⟩ := SWI.cell1 T1.out R (hdj.out.trans HS.out) (i := a) (by have := T1z; omega)
            obtain ⟨cs3, fs3⟩ := SWI.cell0 T1.out R (hdj.out.trans HS.out) (i := a + k) (by have := T1z; omega)
            obtain ⟨cs3b, fs3b⟩ := SWI.cell1 T1.out R (hdj.out.trans HS.out) (i := a + k) (by have := T1z; omega)
            obtain ⟨xs1, hxs1⟩ : ∃ x, x = dj[a]! := ⟨_, rfl⟩
            obtain ⟨xs3, hxs3⟩ : ∃ x, x = dj[a + k]! := ⟨_, rfl⟩
            rw [← hxs1] at S3 cs1 cs1b
            rw [← hxs3] at S3 cs3 cs3b
            clear hxs1 hxs3
            go_wp2_with fail
            go_big_region_o
            clear cs1 cs1b cs3 cs3b fs1 fs1b fs3 fs3b
            generalize World.drew _ = w3 at S3 ⊢
            have HC := hide (HSD.out 0 k (swp dj a (a + k)) w3 (by rw [size_swp]; exact hdj.out) S3.out (by omega) (by omega))
            go_wp2_with fail
            refine HC.out.mono ?_
            rintro _ w1 ⟨rfl, S4⟩
            have S4 := hide S4
            go_wp2
            go_roundw
            case rel => exact ⟨k, _, by go_num, by omega, S4, hide (by rw [size_siftDown _ _ _ _ _ _ (Nat.le_refl _), size_swp]; exact hdj.out), hide (by rw [← HP.out]; rfl)⟩
            case measure => first | (simp [intOf]; omega) | simp [intOf]
        | zero =>
          have hz2 : ¬ (0 : Int) ≤ ((0 : Nat) : Int) - 1 := by omega
          have HF : Hid (heapSort (ltOf (cfI s zs it)) d a b = dj) := hide (by rw [heapSort, HHI.out]; have e := HK0.out; rw [HHI.out] at e; rw [← e, ← HD.out, ← HP.out]; rfl)
          go_wp2
          go_end0
          exact ⟨rfl, by rw [HF.out]; exact T1.out⟩
end Go.Proofs.Ytiocgmeonfanmaa
