/-
  DERIVED: THE SHELF's CONTRACTS AT THIS DUMP, IN PLAIN WORDS (tools/lay-plain.mjs out of 'YtiihcdoemgmjbaaShelf.lean', which tools/lay-shelf.mjs wrote): THE SAME DECLARATIONS UNDER THE SAME NAMES: 'import', 'namespace', 'open', 'def', 'theorem' AND NOTHING ELSE: no command of the shelf's: FOR A HAND-IN. Each laying: the table of numbers ('.._ren') and one theorem, a field a fact of the dump's own or the kernel's comparison; each contract: ONE APPLICATION.
-/
import Derived.Shelf.Bits.Mul64
import Derived.Test.YtiihcdoemgmjbaaProg
namespace Go.Proofs
open Go.Shelf
def Try.lays264_ren : Go.Shelf.Ren := ⟨fun | 264 => 43 | n => n, fun | 53 => 57 | 46 => 51 | n => n, fun | n => n⟩
theorem Try.lays264 : Go.Proofs.Lays.n264 Try.prog Try.lays264_ren := {
  mixed := by kernel_rfl
  f264 := Try.func43.trans (congrArg some (by kernel_rfl))
  t46 := Try.underlying51
  a46 := Try.isAgg51
  z46 := Try.sizeOf51
  v46 := Try.zeroValue51
  t53 := Try.underlying57
  a53 := Try.isAgg57
  z53 := Try.sizeOf57
  v53 := Try.zeroValue57 }
open Go.RowKit Go.Lib in
theorem Try.bits_Mul64 (x y : Nat) (hx : x < 18446744073709551616) (hy : y < 18446744073709551616) (w : World) :
    Calls Try.prog 43 #[.int .u64 x, .int .u64 y] w fun e w' => e = .returned (.tuple #[.int .u64 ((x * y / 18446744073709551616 : Nat) : Int), .int .u64 ((x * y % 18446744073709551616 : Nat) : Int)]) ∧ w' = w := Any.bits_Mul64 Try.lays264 x y hx hy w
def Try.lays212_ren : Go.Shelf.Ren := ⟨fun | 212 => 41 | 263 => 42 | 264 => 43 | n => n, fun | 46 => 51 | 51 => 54 | 146 => 55 | 53 => 57 | 148 => 58 | n => n, fun | n => n⟩
theorem Try.lays212 : Go.Proofs.Lays.n212 Try.prog Try.lays212_ren := {
  mixed := by kernel_rfl
  f212 := Try.func41.trans (congrArg some (by kernel_rfl))
  f263 := Try.func42.trans (congrArg some (by kernel_rfl))
  f264 := Try.func43.trans (congrArg some (by kernel_rfl))
  t46 := Try.underlying51
  a46 := Try.isAgg51
  z46 := Try.sizeOf51
  v46 := Try.zeroValue51
  t51 := Try.underlying54
  a51 := Try.isAgg54
  z51 := Try.sizeOf54
  v51 := Try.zeroValue54
  t53 := Try.underlying57
  a53 := Try.isAgg57
  z53 := Try.sizeOf57
  v53 := Try.zeroValue57
  t146 := Try.underlying55
  a146 := Try.isAgg55
  z146 := Try.sizeOf55
  v146 := Try.zeroValue55
  t148 := Try.underlying58
  a148 := Try.isAgg58
  z148 := Try.sizeOf58
  v148 := Try.zeroValue58 }
open Go.RowKit Go.Lib in
/-- math/bits.Mul: "Mul returns the full-width product of x and y": on a machine of 64 bits: Mul64's. (LAID: no walk: one application.) -/
theorem Try.bits_Mul (x y : Nat) (hx : x < 18446744073709551616) (hy : y < 18446744073709551616) (w : World) :
    Calls Try.prog 41 #[.int .u64 x, .int .u64 y] w fun e w' => e = .returned (.tuple #[.int .u64 ((x * y / 18446744073709551616 : Nat) : Int), .int .u64 ((x * y % 18446744073709551616 : Nat) : Int)]) ∧ w' = w := Any.bits_Mul Try.lays212 x y hx hy w
end Go.Proofs
