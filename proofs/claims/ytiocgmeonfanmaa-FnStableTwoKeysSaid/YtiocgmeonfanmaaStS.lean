/-
  slices.swapRangeCmpFunc and slices.rotateCmpFunc at items.
-/
import Derived.Test.YtiocgmeonfanmaaStB
namespace Go.Proofs.Ytiocgmeonfanmaa
open Go.RowKit Go.Sort Go.Shelf
set_option linter.unusedVariables false
set_option linter.unusedSimpArgs false
variable {α : Type} [Inhabited α]

set_option maxHeartbeats 4000000 in
set_option maxRecDepth 1000000 in
theorem swapRange (it : α → Int × Int) (cv : Value) (blk off cap a b n : Nat) (d0 d : Array α) (w0 w : World) (R : RowK (encI it) 2 w0 blk off d0) (hs : d.size = d0.size) (S : SWK (encI it) 2 w0 blk off d w) (hab : a + n ≤ b) (hb : b + n ≤ d.size) (hsz : d.size < 4611686018427387904) :
    Calls Try.prog 76 #[.slice (some ⟨blk, off, none⟩) d.size cap, .int .i64 a, .int .i64 b, .int .i64 n, cv] w fun e w' => e = .returned (.tuple #[]) ∧ ∃ d', SWK (encI it) 2 w0 blk off d' w' ∧ Swr a b n d d' ∧ PermIn a (b + n) d d' := by
  have mixed := mixedI
  have S0 : Hid (SWK (encI it) 2 w0 blk off d w) := S
  clear S
  go_enter Try.func76, Try.ntmps76
  go_wp2
  go_loopw [10] (fun v wr => ∃ (i : Nat) (dk : Array α), v = .int .i64 i ∧ i ≤ n ∧ Hid (SWK (encI it) 2 w0 blk off dk wr) ∧ Hid (Swr a b i d dk) ∧ Hid (PermIn a (b + n) d dk)) (fun v _ => n - (intOf v).toNat)
  case atStart => exact ⟨0, d, rfl, Nat.zero_le _, S0, hide (Swr.zero a b d), hide (permIn_refl d a (b + n))⟩
  case round =>
    clear S0
    obtain ⟨i, dk, rfl, hi, S1, hsw, hpm⟩ := hrel
    have hds : dk.size = d.size := hsw.out.1
    by_cases hlt : i < n
    · have hltz : (i : Int) < (n : Int) := by omega
      have ea : ((a : Int) + (i : Int)).toNat = a + i := by omega
      have pa : (0 : Int) ≤ (a : Int) + (i : Int) := by omega
      have ba : (a : Int) + (i : Int) < (d.size : Int) := by omega
      have ra : IntKind.i64.wrap ((a : Int) + (i : Int)) = (a : Int) + (i : Int) := by rw [IntKind.wrap_i64]; omega
      have ec : ((b : Int) + (i : Int)).toNat = b + i := by omega
      have pc : (0 : Int) ≤ (b : Int) + (i : Int) := by omega
      have bc : (b : Int) + (i : Int) < (d.size : Int) := by omega
      have rc : IntKind.i64.wrap ((b : Int) + (i : Int)) = (b : Int) + (i : Int) := by rw [IntKind.wrap_i64]; omega
      have S2 : Hid _ := hide (SWI.swapped S1.out R (a + i) (b + i) (by omega) (by omega))
      obtain ⟨c1, f1⟩ := SWI.cell0 S1.out R (hds.trans hs) (i := a + i) (by omega)
      obtain ⟨c2, f2⟩ := SWI.cell1 S1.out R (hds.trans hs) (i := a + i) (by omega)
      obtain ⟨c3, f3⟩ := SWI.cell0 S1.out R (hds.trans hs) (i := b + i) (by omega)
      obtain ⟨c4, f4⟩ := SWI.cell1 S1.out R (hds.trans hs) (i := b + i) (by omega)
      go_wp2_with fail
      go_big_region_o
      clear c1 c2 c3 c4 f1 f2 f3 f4
      generalize World.drew _ = w2 at S2 ⊢
      go_wp2
      go_roundw
      case rel => exact ⟨i + 1, swp dk (a + i) (b + i), by go_num, by omega, S2, hide (hsw.out.step (by omega) (by omega)), hide (permIn_trans _ _ _ _ _ hpm.out (swp_permIn dk a (b + n) (a + i) (b + i) (by omega) (by omega) (by omega) (by omega) (by omega)))⟩
      case measure => simp [intOf]; omega
    · obtain rfl : i = n := by omega
      go_wp2
      go_end0
      exact ⟨rfl, dk, S1.out, hsw.out, hpm.out⟩

end Go.Proofs.Ytiocgmeonfanmaa
