/-
  slices.symMergeCmpFunc, slices.stableCmpFunc and slices.SortStableFunc at items.
-/
import Derived.Test.YtiocgmeonfanmaaStA
import Derived.Test.YtiocgmeonfanmaaStBm
import Derived.Test.YtiocgmeonfanmaaStC
import Derived.Test.YtiocgmeonfanmaaStI
namespace Go.Proofs.Ytiocgmeonfanmaa
open Go.RowKit Go.Sort Go.Shelf
set_option linter.unusedVariables false
set_option linter.unusedSimpArgs false
variable {α : Type} [Inhabited α]

theorem symI (it : α → Int × Int) (ix : α → Nat) (s : Int) (A : Option Addr) (l c B : Nat) (zs : List Int) (blk off cap : Nat) (d0 : Array α) (w0 : World) (R : RowK (encI it) 2 w0 blk off d0) (C : CmpB s A l c B zs w0 blk) (hsz : d0.size < 4611686018427387904) (N : Nat) :
    ∀ (a m b : Nat) (d : Array α) (w : World), b - a < N → d.size = d0.size → SWK (encI it) 2 w0 blk off d w → a < m → m < b → b ≤ d0.size →
      Calls Try.prog 55 #[.slice (some ⟨blk, off, none⟩) d0.size cap, .int .i64 a, .int .i64 m, .int .i64 b, .func (.func 26) #[.agg #[.int .i64 s, .slice A l c]] #[]] w fun e w' => e = .returned (.tuple #[]) ∧ ∃ d', SWK (encI it) 2 w0 blk off d' w' ∧ Mrg (ltOf (cfI s zs it)) ix a m b d d' := by
  induction N with
  | zero => intro a m b d w h; omega
  | succ N ih =>
    intro a m b d w hN hs S ham hmb hb
    by_cases h1 : m = a + 1
    · subst h1
      have h := symA it ix s A l c B zs blk off cap a b d0 d w0 w R C hs S hmb (by rw [hs]; exact hb) (by rw [hs]; exact hsz)
      rw [hs] at h
      exact h
    · by_cases h2 : b = m + 1
      · subst h2
        have h := symB it ix s A l c B zs blk off cap a m d0 d w0 w R C hs S (by omega) (by rw [hs]; exact hb) (by rw [hs]; exact hsz)
        rw [hs] at h
        exact h
      · exact symC it ix s A l c B zs blk off cap d0 w0 R C hsz (b - a) (fun a' m' b' d' w' h' => ih a' m' b' d' w' (by omega)) a m b d w rfl hs S (by omega) (by omega) hb

set_option maxHeartbeats 4000000 in
set_option maxRecDepth 1000000 in
theorem stableI (it : α → Int × Int) (ix : α → Nat) (s : Int) (A : Option Addr) (l c B : Nat) (zs : List Int) (blk off cap : Nat) (d0 : Array α) (w0 : World) (R : RowK (encI it) 2 w0 blk off d0) (C : CmpB s A l c B zs w0 blk) (hsz : d0.size < 1152921504606846976) :
    Calls Try.prog 42 #[.slice (some ⟨blk, off, none⟩) d0.size cap, .int .i64 d0.size, .func (.func 26) #[.agg #[.int .i64 s, .slice A l c]] #[]] w0 fun e w' => e = .returned (.tuple #[]) ∧ ∃ d', SWK (encI it) 2 w0 blk off d' w' ∧ PermIn 0 d0.size d0 d' ∧ (SWO (ltOf (cfI s zs it)) → (∀ p, p < d0.size → ix d0[p]! = p) → Ord (ltOf (cfI s zs it)) ix 0 d0.size d') := by
  have S0 : Hid (SWK (encI it) 2 w0 blk off d0 w0) := hide (SWK.start R.hH)
  have HINS := hide fun (d : Array α) (w : World) (a b : Nat) (hs : d.size = d0.size) (S : SWK (encI it) 2 w0 blk off d w) (hab : a ≤ b) (hb : b ≤ d0.size) => (show _ from by have h := insertionI it s A l c B zs blk off cap a b d0 d w0 w R C hs S hab (by rw [hs]; exact hb) (by rw [hs]; omega); rw [hs] at h; exact h : Calls Try.prog 45 #[.slice (some ⟨blk, off, none⟩) d0.size cap, .int .i64 a, .int .i64 b, .func (.func 26) #[.agg #[.int .i64 s, .slice A l c]] #[]] w fun e w' => e = .returned (.tuple #[]) ∧ SWK (encI it) 2 w0 blk off (insertionSort (ltOf (cfI s zs it)) d a b) w')
  have HSYM := hide fun (a m b : Nat) (d : Array α) (w : World) => symI it ix s A l c B zs blk off cap d0 w0 R C (by omega) (b - a + 1) a m b d w (Nat.lt_succ_self _)
  clear R C
  go_enter Try.func42, Try.ntmps42
  go_wp2
  go_loopw [7, 8] (fun va vb wr => ∃ (t p : Nat) (dk : Array α), va = .int .i64 p ∧ vb = .int .i64 ((p : Int) + 20) ∧ Hid (p = t * 20) ∧ p ≤ d0.size ∧ Hid (SWK (encI it) 2 w0 blk off dk wr) ∧ Hid (Ps1 (ltOf (cfI s zs it)) ix 20 p d0 dk)) (fun va _ _ => d0.size - (intOf va).toNat)
  case atStart => exact ⟨0, 0, d0, rfl, by go_num, hide rfl, Nat.zero_le _, S0, hide (Ps1.start _ _ _ _)⟩
  case round =>
    clear S0
    obtain ⟨t, p, dk, rfl, rfl, HP, hp, S1, HPS⟩ := hrel
    by_cases hlt : p + 20 ≤ d0.size
    · have hltz : (p : Int) + 20 ≤ (d0.size : Int) := by omega
      have HC := hide (HINS.out dk wr p (p + 20) HPS.out.1.1 S1.out (by omega) hlt)
      rw [show ((p + 20 : Nat) : Int) = (p : Int) + 20 by omega] at HC
      go_wp2_with fail
      refine HC.out.mono ?_
      rintro _ w1 ⟨rfl, S2⟩
      have S2 := hide S2
      go_wp2
      go_roundw
      case rel => exact ⟨t + 1, p + 20, _, by go_num, by go_num, hide (by have := HP.out; omega), hlt, S2, hide (by have h := HPS.out; have e := HP.out; subst e; exact h.step (by omega) (by omega) (by omega) hlt)⟩
      case measure => simp [intOf]; omega
    · have hltz : ¬ (p : Int) + 20 ≤ (d0.size : Int) := by omega
      have HC := hide (HINS.out dk wr p d0.size HPS.out.1.1 S1.out hp (Nat.le_refl _))
      have HP2 : Hid (Ps2 (ltOf (cfI s zs it)) ix 20 0 d0 (insertionSort (ltOf (cfI s zs it)) dk p d0.size)) := hide (by have h := HPS.out; have e := HP.out; subst e; exact (h.step (by omega) hp (by omega) (Nat.le_refl _)).done)
      go_wp2_with fail
      refine HC.out.mono ?_
      rintro _ w1 ⟨rfl, S2⟩
      have S2 := hide S2
      obtain ⟨d1, hd1⟩ : ∃ d1, d1 = insertionSort (ltOf (cfI s zs it)) dk p d0.size := ⟨_, rfl⟩
      rw [← hd1] at S2 HP2
      clear hd1 HC HPS S1 HP HINS
      go_wp2
      go_loopw [6] (fun v6 wr => ∃ (bs : Nat) (d2 : Array α), v6 = .int .i64 bs ∧ 0 < bs ∧ bs ≤ 2 * d0.size + 20 ∧ Hid (SWK (encI it) 2 w0 blk off d2 wr) ∧ Hid (Ps2 (ltOf (cfI s zs it)) ix bs 0 d0 d2)) (fun v6 _ => d0.size - (intOf v6).toNat)
      case atStart => exact ⟨20, d1, rfl, by omega, by omega, S2, HP2⟩
      case round =>
        clear S2 HP2
        obtain ⟨bs, d2, rfl, hbs, hbb, T1, HQ⟩ := hrel
        by_cases hlt2 : bs < d0.size
        · have hltz2 : (bs : Int) < (d0.size : Int) := by omega
          obtain ⟨wR, hwR⟩ : ∃ w0 : World, w0 = wr := ⟨_, rfl⟩
          rw [← hwR] at T1 ⊢
          clear hwR
          go_wp2
          go_loopw [7, 8] (fun va vb wr => ∃ (t p : Nat) (d3 : Array α), va = .int .i64 p ∧ vb = .int .i64 ((p : Int) + 2 * (bs : Int)) ∧ Hid (p = t * (2 * bs)) ∧ p ≤ d0.size ∧ Hid (SWK (encI it) 2 w0 blk off d3 wr) ∧ Hid (Ps2 (ltOf (cfI s zs it)) ix bs p d0 d3)) (fun va _ _ => d0.size - (intOf va).toNat)
          case atStart => exact ⟨0, 0, d2, rfl, by go_num, hide (by omega), Nat.zero_le _, T1, HQ⟩
          case round =>
            clear T1 HQ
            obtain ⟨t, p, d3, rfl, rfl, HP, hp3, U1, HU⟩ := hrel
            by_cases hlt3 : p + 2 * bs ≤ d0.size
            · have hltz3 : (p : Int) + 2 * (bs : Int) ≤ (d0.size : Int) := by omega
              have HC := hide (HSYM.out p (p + bs) (p + 2 * bs) d3 wr HU.out.1.1 U1.out (by omega) (by omega) hlt3)
              rw [show ((p + bs : Nat) : Int) = (p : Int) + (bs : Int) by omega, show ((p + 2 * bs : Nat) : Int) = (p : Int) + 2 * (bs : Int) by omega] at HC
              go_wp2_with fail
              refine HC.out.mono ?_
              rintro _ w1 ⟨rfl, d4, S4, M4⟩
              have S4 := hide S4
              have M4 := hide M4
              go_wp2
              go_roundw
              case rel => exact ⟨t + 1, p + 2 * bs, d4, by go_num, by go_num, hide (by have := HP.out; rw [Nat.add_mul, Nat.one_mul]; omega), hlt3, S4, hide (HU.out.step HP.out hbs (by omega) (.inl rfl) hlt3 M4.out)⟩
              case measure => simp [intOf]; omega
            · have hltz3 : ¬ (p : Int) + 2 * (bs : Int) ≤ (d0.size : Int) := by omega
              by_cases hlt4 : p + bs < d0.size
              · have hltz4 : (p : Int) + (bs : Int) < (d0.size : Int) := by omega
                have HC := hide (HSYM.out p (p + bs) d0.size d3 wr HU.out.1.1 U1.out (by omega) hlt4 (Nat.le_refl _))
                rw [show ((p + bs : Nat) : Int) = (p : Int) + (bs : Int) by omega] at HC
                go_wp2_with fail
                refine HC.out.mono ?_
                rintro _ w1 ⟨rfl, d4, S4, M4⟩
                have S4 := hide S4
                have M4 := hide M4
                go_wp2
                go_roundw
                case rel => exact ⟨2 * bs, d4, by go_num, by omega, by omega, S4, hide ((HU.out.step HP.out hbs (by omega) (.inr ⟨rfl, by omega⟩) (Nat.le_refl _) M4.out).next (c := 0) hbs (.inl rfl))⟩
                case measure => simp [intOf]; omega
              · have hltz4 : ¬ (p : Int) + (bs : Int) < (d0.size : Int) := by omega
                go_wp2
                go_roundw
                case rel => exact ⟨2 * bs, d3, by go_num, by omega, by omega, U1, hide (HU.out.next (c := t) hbs (.inr ⟨HP.out, by omega⟩))⟩
                case measure => simp [intOf]; omega
        · have hltz2 : ¬ (bs : Int) < (d0.size : Int) := by omega
          have hw := HQ.out.whole (by omega)
          go_wp2
          go_end0
          exact ⟨rfl, d2, T1.out, hw.1, hw.2⟩

set_option maxHeartbeats 1000000 in
theorem sortStableI (it : α → Int × Int) (ix : α → Nat) (s : Int) (A : Option Addr) (l c B : Nat) (zs : List Int) (blk off cap : Nat) (d0 : Array α) (w0 : World) (R : RowK (encI it) 2 w0 blk off d0) (C : CmpB s A l c B zs w0 blk) (hsz : d0.size < 1152921504606846976) :
    Calls Try.prog 35 #[.slice (some ⟨blk, off, none⟩) d0.size cap, .func (.func 26) #[.agg #[.int .i64 s, .slice A l c]] #[]] w0 fun e w' => e = .returned (.tuple #[]) ∧ ∃ d', SWK (encI it) 2 w0 blk off d' w' ∧ PermIn 0 d0.size d0 d' ∧ (SWO (ltOf (cfI s zs it)) → (∀ p, p < d0.size → ix d0[p]! = p) → Ord (ltOf (cfI s zs it)) ix 0 d0.size d') := by
  have HC := hide (stableI it ix s A l c B zs blk off cap d0 w0 R C hsz)
  clear R C
  go_enter Try.func35, Try.ntmps35
  go_wp2_with fail
  refine HC.out.mono ?_
  rintro _ w1 ⟨rfl, d', h1, h2, h3⟩
  go_wp2
  go_end0
  exact ⟨rfl, d', h1, h2, h3⟩
end Go.Proofs.Ytiocgmeonfanmaa
