/-
  slices.rotateCmpFunc at items.
-/
import Derived.Test.YtiocgmeonfanmaaStS
namespace Go.Proofs.Ytiocgmeonfanmaa
open Go.RowKit Go.Sort Go.Shelf
set_option linter.unusedVariables false
set_option linter.unusedSimpArgs false
variable {α : Type} [Inhabited α]

set_option maxHeartbeats 4000000 in
set_option maxRecDepth 1000000 in
theorem rotateR (it : α → Int × Int) (cv : Value) (blk off cap a m b : Nat) (d0 d : Array α) (w0 w : World) (R : RowK (encI it) 2 w0 blk off d0) (hs : d.size = d0.size) (S : SWK (encI it) 2 w0 blk off d w) (ham : a < m) (hmb : m < b) (hb : b ≤ d.size) (hsz : d.size < 4611686018427387904) :
    Calls Try.prog 70 #[.slice (some ⟨blk, off, none⟩) d.size cap, .int .i64 a, .int .i64 m, .int .i64 b, cv] w fun e w' => e = .returned (.tuple #[]) ∧ ∃ d', SWK (encI it) 2 w0 blk off d' w' ∧ Rot a m b d d' ∧ PermIn a b d d' := by
  have mixed := mixedI
  have HS := hide hs
  clear hs
  have S0 : Hid (SWK (encI it) 2 w0 blk off d w) := S
  clear S
  go_enter Try.func70, Try.ntmps70
  go_wp2
  go_loopw [10, 11] (fun vi vj wr => ∃ (i j : Nat) (dk : Array α), vi = .int .i64 i ∧ vj = .int .i64 j ∧ 0 < i ∧ 0 < j ∧ i ≤ m - a ∧ j ≤ b - m ∧ Hid (SWK (encI it) 2 w0 blk off dk wr) ∧ Hid (dk.size = d.size) ∧ Hid (∀ dF, Rot (m - i) m (m + j) dk dF → Rot a m b d dF) ∧ Hid (PermIn a b d dk)) (fun vi vj _ => (intOf vi).toNat + (intOf vj).toNat)
  case atStart => exact ⟨m - a, b - m, d, by go_num, by go_num, by omega, by omega, Nat.le_refl _, Nat.le_refl _, S0, hide rfl, hide (fun dF h => by rwa [show m - (m - a) = a by omega, show m + (b - m) = b by omega] at h), hide (permIn_refl d a b)⟩
  case round =>
    clear S0
    obtain ⟨i, j, dk, rfl, rfl, hi0, hj0, him, hjb, S1, hds, hrot, hpm⟩ := hrel
    by_cases hij : i = j
    · subst hij
      have hne : ((i : Int) != (i : Int)) = false := by simp
      have HC := hide (swapRange it cv blk off cap (m - i) m i d0 dk w0 wr R (hds.out.trans HS.out) S1.out (by omega) (by have := hds.out; omega) (by have := hds.out; omega))
      rw [hds.out] at HC
      have e1 : ((m - i : Nat) : Int) = (m : Int) - (i : Int) := by omega
      rw [e1] at HC
      go_wp2_with fail
      refine HC.out.mono ?_
      rintro e w1 ⟨rfl, d', S2, hsw, hp⟩
      go_wp2
      go_end0
      exact ⟨rfl, d', S2, hrot.out d' (Rot.last (by omega) hsw), permIn_trans _ _ _ _ _ hpm.out (permIn_mono _ _ _ _ _ _ (by omega) (by omega) (by have := hds.out; omega) hp)⟩
    · have hne : ((i : Int) != (j : Int)) = true := by simp; omega
      by_cases hgt : j < i
      · have hgz : (j : Int) < (i : Int) := by omega
        have HC := hide (swapRange it cv blk off cap (m - i) m j d0 dk w0 wr R (hds.out.trans HS.out) S1.out (by omega) (by have := hds.out; omega) (by have := hds.out; omega))
        rw [hds.out] at HC
        have e1 : ((m - i : Nat) : Int) = (m : Int) - (i : Int) := by omega
        rw [e1] at HC
        go_wp2_with fail
        refine HC.out.mono ?_
        rintro e w1 ⟨rfl, d', S2, hsw, hp⟩
        have HS2 := hide S2
        have HSW := hide hsw
        have HP := hide hp
        clear S2 hsw hp
        go_wp2
        go_roundw
        case rel => exact ⟨i - j, j, d', by go_num, rfl, by omega, by omega, by omega, by omega, HS2, hide (HSW.out.1.trans hds.out), hide (fun dF h => hrot.out dF (Rot.left (l := m - i) (i := i) (by omega) hgt HSW.out (by rwa [show m - (i - j) = m - i + j by omega] at h))), hide (permIn_trans _ _ _ _ _ hpm.out (permIn_mono _ _ _ _ _ _ (by omega) (by omega) (by have := hds.out; omega) HP.out))⟩
        case measure => simp [intOf]; omega
      · have hgz : ¬ (j : Int) < (i : Int) := by omega
        have HC := hide (swapRange it cv blk off cap (m - i) (m + j - i) i d0 dk w0 wr R (hds.out.trans HS.out) S1.out (by omega) (by have := hds.out; omega) (by have := hds.out; omega))
        rw [hds.out] at HC
        have e1 : ((m - i : Nat) : Int) = (m : Int) - (i : Int) := by omega
        have e2 : ((m + j - i : Nat) : Int) = (m : Int) + (j : Int) - (i : Int) := by omega
        rw [e1, e2] at HC
        go_wp2_with fail
        refine HC.out.mono ?_
        rintro e w1 ⟨rfl, d', S2, hsw, hp⟩
        have HS2 := hide S2
        have HSW := hide hsw
        have HP := hide hp
        clear S2 hsw hp
        go_wp2
        go_roundw
        case rel => exact ⟨i, j - i, d', rfl, by go_num, by omega, by omega, by omega, by omega, HS2, hide (HSW.out.1.trans hds.out), hide (fun dF h => hrot.out dF (Rot.right (l := m - i) (i := i) (by omega) (by omega) HSW.out (by rwa [show m + (j - i) = m + j - i by omega] at h))), hide (permIn_trans _ _ _ _ _ hpm.out (permIn_mono _ _ _ _ _ _ (by omega) (by omega) (by have := hds.out; omega) HP.out))⟩
        case measure => simp [intOf]; omega
end Go.Proofs.Ytiocgmeonfanmaa
