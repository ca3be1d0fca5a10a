/-
  cmp.isNaN and cmp.Less at float64.
-/
import Derived.Sort.Walk0
import Derived.WalkKit
import Derived.Laws.Cover2
import Derived.Test.YthefajbahbmohaaBase
import Derived.Test.YthefajbahbmohaaProg
namespace Go.Proofs.Ythefajbahbmohaa
open Go.RowKit Go.Sort
set_option linter.unusedVariables false
set_option linter.unusedSimpArgs false

abbrev encF : Nat → Value := Value.float .f64
/-- no float, by its bits -/
def nanF (x : Nat) : Bool := FloatKind.f64.format.order x x != some .eq
/-- cmp.Less of two floats, by their bits -/
def ltF (x y : Nat) : Bool := (nanF x && !nanF y) || FloatKind.f64.format.order x y == some .lt
theorem mixedF : Try.prog.follows .mixedOrders = true := by kernel_rfl
theorem storeF (P : Program) (w : World) (a : Addr) (m : Mode) (k : FloatKind) (b : Nat) : (store a (.float k b) m).run P w = stored P w a (.float k b) m := run_store P w a _ m rfl
set_option maxHeartbeats 1000000 in
theorem isNaNF (x : Nat) (w : World) : Calls Try.prog 96 #[.float .f64 x] w fun e w' => e = .returned (.bool (nanF x)) ∧ w' = w := by
  go_enter Try.func96, Try.ntmps96
  go_wp2
  go_ret
  exact ⟨rfl, rfl⟩
set_option maxRecDepth 100000 in
set_option maxHeartbeats 1000000 in
theorem cmpLessF (x y : Nat) (w : World) : Calls Try.prog 80 #[.float .f64 x, .float .f64 y] w fun e w' => e = .returned (.bool (ltF x y)) ∧ w' = w := by
  have mixed := mixedF
  obtain ⟨a, ha⟩ : ∃ a, a = nanF x := ⟨_, rfl⟩
  obtain ⟨b, hb⟩ : ∃ b, b = nanF y := ⟨_, rfl⟩
  have HX : Hid (∀ w, Calls Try.prog 96 #[.float .f64 x] w fun e w' => e = .returned (.bool a) ∧ w' = w) := hide fun w => by rw [ha]; exact isNaNF x w
  have HY : Hid (∀ w, Calls Try.prog 96 #[.float .f64 y] w fun e w' => e = .returned (.bool b) ∧ w' = w) := hide fun w => by rw [hb]; exact isNaNF y w
  have hl : ltF x y = ((a && !b) || FloatKind.f64.format.order x y == some .lt) := by rw [ha, hb]; rfl
  rw [hl]
  clear hl ha hb
  go_enter Try.func80, Try.ntmps80
  cases a <;> cases b <;> (
    go_wp2_with (first | (go_at_call 96; refine (HX.out _).mono ?_; rintro e w' ⟨rfl, rfl⟩) | (go_at_call 96; refine (HY.out _).mono ?_; rintro e w' ⟨rfl, rfl⟩))
    go_ret
    exact ⟨rfl, rfl⟩)
end Go.Proofs.Ythefajbahbmohaa
