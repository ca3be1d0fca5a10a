/-
  DERIVED: THE SHELF's CONTRACTS AT THIS DUMP, IN PLAIN WORDS (tools/lay-plain.mjs out of 'YthefajbahbmohaaShelf.lean', which tools/lay-shelf.mjs wrote): THE SAME DECLARATIONS UNDER THE SAME NAMES: 'import', 'namespace', 'open', 'def', 'theorem' AND NOTHING ELSE: no command of the shelf's: FOR A HAND-IN. Each laying: the table of numbers ('.._ren') and one theorem, a field a fact of the dump's own or the kernel's comparison; each contract: ONE APPLICATION.
-/
import Derived.Shelf.Small.Bits
import Derived.Shelf.Small.Wraps
import Derived.Shelf.Strconv.Itoa0
import Derived.Shelf.Sort.Plain
import Derived.Ground.Names2Prog
import Derived.Shelf.Slices.SearchI
import Derived.Shelf.Slices.In.SortNone
import Derived.Test.YthefajbahbmohaaProg
namespace Go.Proofs
open Go.Shelf
def Try.lays128_ren : Go.Shelf.Ren := ⟨fun | 128 => 63 | n => n, fun | 51 => 86 | 3 => 3 | 4 => 4 | 46 => 71 | 5 => 5 | 9 => 9 | n => n, fun | n => n⟩
theorem Try.lays128 : Go.Proofs.Lays.n128 Try.prog Try.lays128_ren := {
  mixed := by kernel_rfl
  f128 := Try.func63.trans (congrArg some (by kernel_rfl))
  t3 := Try.underlying3
  a3 := Try.isAgg3
  z3 := Try.sizeOf3
  v3 := Try.zeroValue3
  t4 := Try.underlying4
  a4 := Try.isAgg4
  z4 := Try.sizeOf4
  v4 := Try.zeroValue4
  t5 := Try.underlying5
  a5 := Try.isAgg5
  z5 := Try.sizeOf5
  v5 := Try.zeroValue5
  t9 := Try.underlying9
  a9 := Try.isAgg9
  z9 := Try.sizeOf9
  v9 := Try.zeroValue9
  t46 := Try.underlying71
  a46 := Try.isAgg71
  z46 := Try.sizeOf71
  v46 := Try.zeroValue71
  t51 := Try.underlying86
  a51 := Try.isAgg86
  z51 := Try.sizeOf86
  v51 := Try.zeroValue86 }
/-- bits.Len32: "Len32 returns the minimum number of bits required to represent x; the result is 0 for x == 0.": IT RETURNS 'Lib.bitLen x'; the world is as it was. ('h0', 'h1': x is a uint32.) (LAID: no walk: one application.) -/
theorem Try.bits_Len32 (x : Int) (w : World) (h0 : 0 ≤ x) (h1 : x ≤ 4294967295) :
    Calls Try.prog 63 #[.int .u32 x] w fun e w' => e = .returned (.int .i64 (Lib.bitLen x.toNat)) ∧ w' = w := Any.bits_Len32 Try.lays128 x w h0 h1
def Try.lays125_ren : Go.Shelf.Ren := ⟨fun | 125 => 49 | 128 => 63 | 129 => 64 | n => n, fun | 46 => 71 | 3 => 3 | 51 => 86 | 53 => 38 | 4 => 4 | 5 => 5 | 9 => 9 | n => n, fun | n => n⟩
theorem Try.lays125 : Go.Proofs.Lays.n125 Try.prog Try.lays125_ren := {
  mixed := by kernel_rfl
  f125 := Try.func49.trans (congrArg some (by kernel_rfl))
  f128 := Try.func63.trans (congrArg some (by kernel_rfl))
  f129 := Try.func64.trans (congrArg some (by kernel_rfl))
  t3 := Try.underlying3
  a3 := Try.isAgg3
  z3 := Try.sizeOf3
  v3 := Try.zeroValue3
  t4 := Try.underlying4
  a4 := Try.isAgg4
  z4 := Try.sizeOf4
  v4 := Try.zeroValue4
  t5 := Try.underlying5
  a5 := Try.isAgg5
  z5 := Try.sizeOf5
  v5 := Try.zeroValue5
  t9 := Try.underlying9
  a9 := Try.isAgg9
  z9 := Try.sizeOf9
  v9 := Try.zeroValue9
  t46 := Try.underlying71
  a46 := Try.isAgg71
  z46 := Try.sizeOf71
  v46 := Try.zeroValue71
  t51 := Try.underlying86
  a51 := Try.isAgg86
  z51 := Try.sizeOf86
  v51 := Try.zeroValue86
  t53 := Try.underlying38
  a53 := Try.isAgg38
  z53 := Try.sizeOf38
  v53 := Try.zeroValue38 }
/-- bits.Len: "Len returns the minimum number of bits required to represent x; the result is 0 for x == 0.": IT RETURNS 'Lib.bitLen x'; the world is as it was. (A uint has 64 bits in the model.) ITS CALLEE bits.Len64 IS MET BY ITS OWN CONTRACT OFF THE SHELF (lay that first). (LAID: no walk: one application.) -/
theorem Try.bits_Len (x : Int) (w : World) (h0 : 0 ≤ x) (h1 : x ≤ 18446744073709551615) :
    Calls Try.prog 49 #[.int .u64 x] w fun e w' => e = .returned (.int .i64 (Lib.bitLen x.toNat)) ∧ w' = w := Any.bits_Len Try.lays125 x w h0 h1
def Try.lays215_ren : Go.Shelf.Ren := ⟨fun | 215 => 88 | n => n, fun | 3 => 3 | 4 => 4 | n => n, fun | n => n⟩
theorem Try.lays215 : Go.Proofs.Lays.n215 Try.prog Try.lays215_ren := {
  mixed := by kernel_rfl
  f215 := Try.func88.trans (congrArg some (by kernel_rfl))
  t3 := Try.underlying3
  a3 := Try.isAgg3
  z3 := Try.sizeOf3
  v3 := Try.zeroValue3
  t4 := Try.underlying4
  a4 := Try.isAgg4
  z4 := Try.sizeOf4
  v4 := Try.zeroValue4 }
open Go.RowKit in
/-- cmp.isNaN at int: 'x != x': false. (LAID: no walk: one application.) -/
theorem Try.cmp_isNaN_int (x : Int) (w : World) :
    Calls Try.prog 88 #[.int .i64 x] w fun e w' => e = .returned (.bool false) ∧ w' = w := Any.cmp_isNaN_int Try.lays215 x w
def Try.lays129_ren : Go.Shelf.Ren := ⟨fun | 129 => 64 | n => n, fun | 53 => 38 | 3 => 3 | 4 => 4 | 46 => 71 | 5 => 5 | 9 => 9 | n => n, fun | n => n⟩
theorem Try.lays129 : Go.Proofs.Lays.n129 Try.prog Try.lays129_ren := {
  mixed := by kernel_rfl
  f129 := Try.func64.trans (congrArg some (by kernel_rfl))
  t3 := Try.underlying3
  a3 := Try.isAgg3
  z3 := Try.sizeOf3
  v3 := Try.zeroValue3
  t4 := Try.underlying4
  a4 := Try.isAgg4
  z4 := Try.sizeOf4
  v4 := Try.zeroValue4
  t5 := Try.underlying5
  a5 := Try.isAgg5
  z5 := Try.sizeOf5
  v5 := Try.zeroValue5
  t9 := Try.underlying9
  a9 := Try.isAgg9
  z9 := Try.sizeOf9
  v9 := Try.zeroValue9
  t46 := Try.underlying71
  a46 := Try.isAgg71
  z46 := Try.sizeOf71
  v46 := Try.zeroValue71
  t53 := Try.underlying38
  a53 := Try.isAgg38
  z53 := Try.sizeOf38
  v53 := Try.zeroValue38 }
/-- bits.Len64: "Len64 returns the minimum number of bits required to represent x; the result is 0 for x == 0.": IT RETURNS 'Lib.bitLen x'; the world is as it was. ('h0', 'h1': x is a uint64.) (LAID: no walk: one application.) -/
theorem Try.bits_Len64 (x : Int) (w : World) (h0 : 0 ≤ x) (h1 : x ≤ 18446744073709551615) :
    Calls Try.prog 64 #[.int .u64 x] w fun e w' => e = .returned (.int .i64 (Lib.bitLen x.toNat)) ∧ w' = w := Any.bits_Len64 Try.lays129 x w h0 h1
def Try.lays189_ren : Go.Shelf.Ren := ⟨fun | 189 => 38 | 125 => 49 | 257 => 48 | 128 => 63 | 129 => 64 | 294 => 54 | 295 => 55 | 296 => 56 | 297 => 57 | 298 => 58 | 299 => 59 | 216 => 60 | 300 => 61 | 301 => 62 | 328 => 83 | 329 => 84 | 330 => 85 | 331 => 86 | 332 => 87 | 215 => 88 | 343 => 97 | n => n, fun | 28 => 22 | 3 => 3 | 46 => 71 | 0 => 0 | 51 => 86 | 53 => 38 | 4 => 4 | 183 => 78 | 182 => 77 | 131 => 83 | 5 => 5 | 9 => 9 | 218 => 99 | 222 => 103 | 228 => 109 | 229 => 110 | n => n, fun | n => n⟩
theorem Try.lays189 : Go.Proofs.Lays.n189 Try.prog Try.lays189_ren := {
  mixed := by kernel_rfl
  f125 := Try.func49.trans (congrArg some (by kernel_rfl))
  f128 := Try.func63.trans (congrArg some (by kernel_rfl))
  f129 := Try.func64.trans (congrArg some (by kernel_rfl))
  f189 := Try.func38.trans (congrArg some (by kernel_rfl))
  f215 := Try.func88.trans (congrArg some (by kernel_rfl))
  f216 := Try.func60.trans (congrArg some (by kernel_rfl))
  f257 := Try.func48.trans (congrArg some (by kernel_rfl))
  f294 := Try.func54.trans (congrArg some (by kernel_rfl))
  f295 := Try.func55.trans (congrArg some (by kernel_rfl))
  f296 := Try.func56.trans (congrArg some (by kernel_rfl))
  f297 := Try.func57.trans (congrArg some (by kernel_rfl))
  f298 := Try.func58.trans (congrArg some (by kernel_rfl))
  f299 := Try.func59.trans (congrArg some (by kernel_rfl))
  f300 := Try.func61.trans (congrArg some (by kernel_rfl))
  f301 := Try.func62.trans (congrArg some (by kernel_rfl))
  f328 := Try.func83.trans (congrArg some (by kernel_rfl))
  f329 := Try.func84.trans (congrArg some (by kernel_rfl))
  f330 := Try.func85.trans (congrArg some (by kernel_rfl))
  f331 := Try.func86.trans (congrArg some (by kernel_rfl))
  f332 := Try.func87.trans (congrArg some (by kernel_rfl))
  f343 := Try.func97.trans (congrArg some (by kernel_rfl))
  t0 := Try.underlying0
  a0 := Try.isAgg0
  z0 := Try.sizeOf0
  v0 := Try.zeroValue0
  t3 := Try.underlying3
  a3 := Try.isAgg3
  z3 := Try.sizeOf3
  v3 := Try.zeroValue3
  t4 := Try.underlying4
  a4 := Try.isAgg4
  z4 := Try.sizeOf4
  v4 := Try.zeroValue4
  t5 := Try.underlying5
  a5 := Try.isAgg5
  z5 := Try.sizeOf5
  v5 := Try.zeroValue5
  t9 := Try.underlying9
  a9 := Try.isAgg9
  z9 := Try.sizeOf9
  v9 := Try.zeroValue9
  t28 := Try.underlying22
  a28 := Try.isAgg22
  z28 := Try.sizeOf22
  v28 := Try.zeroValue22
  t46 := Try.underlying71
  a46 := Try.isAgg71
  z46 := Try.sizeOf71
  v46 := Try.zeroValue71
  t51 := Try.underlying86
  a51 := Try.isAgg86
  z51 := Try.sizeOf86
  v51 := Try.zeroValue86
  t53 := Try.underlying38
  a53 := Try.isAgg38
  z53 := Try.sizeOf38
  v53 := Try.zeroValue38
  t131 := Try.underlying83
  a131 := Try.isAgg83
  z131 := Try.sizeOf83
  v131 := Try.zeroValue83
  t182 := Try.underlying77
  a182 := Try.isAgg77
  z182 := Try.sizeOf77
  v182 := Try.zeroValue77
  t183 := Try.underlying78
  a183 := Try.isAgg78
  z183 := Try.sizeOf78
  v183 := Try.zeroValue78
  t218 := Try.underlying99
  a218 := Try.isAgg99
  z218 := Try.sizeOf99
  v218 := Try.zeroValue99
  t222 := Try.underlying103
  a222 := Try.isAgg103
  z222 := Try.sizeOf103
  v222 := Try.zeroValue103
  t228 := Try.underlying109
  a228 := Try.isAgg109
  z228 := Try.sizeOf109
  v228 := Try.zeroValue109
  t229 := Try.underlying110
  a229 := Try.isAgg110
  z229 := Try.sizeOf110
  v229 := Try.zeroValue110 }
open Go.Sort Go.RowKit in
theorem Try.slices_Sort_int (blk off cap : Nat) (zs : List Int) (w : World) (hH : Holds (Value.int .i64) w blk off zs.toArray) (hblk : blk < w.heap.size) (hsz : zs.length < 4611686018427387904) :
    Calls Try.prog 38 #[.slice (some ⟨blk, off, none⟩) zs.length cap] w fun e w' =>
      e = .returned (.tuple #[]) ∧ ∃ n os, w' = grow (putRow (Value.int .i64) (Sort.ahead w n) blk off (zs.mergeSort fun x y => decide (x ≤ y)).toArray) os := Any.slices_Sort_int Try.lays189 blk off cap zs w hH hblk hsz
def Try.lays190_ren : Go.Shelf.Ren := ⟨fun | 190 => 42 | 125 => 49 | 258 => 51 | 128 => 63 | 129 => 64 | 302 => 65 | 303 => 66 | 304 => 67 | 305 => 68 | 306 => 69 | 307 => 70 | 308 => 71 | 309 => 72 | 310 => 73 | 333 => 89 | 329 => 84 | 330 => 85 | 334 => 90 | 335 => 91 | 336 => 92 | 344 => 98 | n => n, fun | 31 => 29 | 9 => 9 | 3 => 3 | 46 => 71 | 0 => 0 | 51 => 86 | 53 => 38 | 4 => 4 | 183 => 78 | 182 => 77 | 131 => 83 | 5 => 5 | 218 => 99 | 222 => 103 | 228 => 109 | 229 => 110 | n => n, fun | n => n⟩
theorem Try.lays190 : Go.Proofs.Lays.n190 Try.prog Try.lays190_ren := {
  mixed := by kernel_rfl
  f125 := Try.func49.trans (congrArg some (by kernel_rfl))
  f128 := Try.func63.trans (congrArg some (by kernel_rfl))
  f129 := Try.func64.trans (congrArg some (by kernel_rfl))
  f190 := Try.func42.trans (congrArg some (by kernel_rfl))
  f258 := Try.func51.trans (congrArg some (by kernel_rfl))
  f302 := Try.func65.trans (congrArg some (by kernel_rfl))
  f303 := Try.func66.trans (congrArg some (by kernel_rfl))
  f304 := Try.func67.trans (congrArg some (by kernel_rfl))
  f305 := Try.func68.trans (congrArg some (by kernel_rfl))
  f306 := Try.func69.trans (congrArg some (by kernel_rfl))
  f307 := Try.func70.trans (congrArg some (by kernel_rfl))
  f308 := Try.func71.trans (congrArg some (by kernel_rfl))
  f309 := Try.func72.trans (congrArg some (by kernel_rfl))
  f310 := Try.func73.trans (congrArg some (by kernel_rfl))
  f329 := Try.func84.trans (congrArg some (by kernel_rfl))
  f330 := Try.func85.trans (congrArg some (by kernel_rfl))
  f333 := Try.func89.trans (congrArg some (by kernel_rfl))
  f334 := Try.func90.trans (congrArg some (by kernel_rfl))
  f335 := Try.func91.trans (congrArg some (by kernel_rfl))
  f336 := Try.func92.trans (congrArg some (by kernel_rfl))
  f344 := Try.func98.trans (congrArg some (by kernel_rfl))
  t0 := Try.underlying0
  a0 := Try.isAgg0
  z0 := Try.sizeOf0
  v0 := Try.zeroValue0
  t3 := Try.underlying3
  a3 := Try.isAgg3
  z3 := Try.sizeOf3
  v3 := Try.zeroValue3
  t4 := Try.underlying4
  a4 := Try.isAgg4
  z4 := Try.sizeOf4
  v4 := Try.zeroValue4
  t5 := Try.underlying5
  a5 := Try.isAgg5
  z5 := Try.sizeOf5
  v5 := Try.zeroValue5
  t9 := Try.underlying9
  a9 := Try.isAgg9
  z9 := Try.sizeOf9
  v9 := Try.zeroValue9
  t31 := Try.underlying29
  a31 := Try.isAgg29
  z31 := Try.sizeOf29
  v31 := Try.zeroValue29
  t46 := Try.underlying71
  a46 := Try.isAgg71
  z46 := Try.sizeOf71
  v46 := Try.zeroValue71
  t51 := Try.underlying86
  a51 := Try.isAgg86
  z51 := Try.sizeOf86
  v51 := Try.zeroValue86
  t53 := Try.underlying38
  a53 := Try.isAgg38
  z53 := Try.sizeOf38
  v53 := Try.zeroValue38
  t131 := Try.underlying83
  a131 := Try.isAgg83
  z131 := Try.sizeOf83
  v131 := Try.zeroValue83
  t182 := Try.underlying77
  a182 := Try.isAgg77
  z182 := Try.sizeOf77
  v182 := Try.zeroValue77
  t183 := Try.underlying78
  a183 := Try.isAgg78
  z183 := Try.sizeOf78
  v183 := Try.zeroValue78
  t218 := Try.underlying99
  a218 := Try.isAgg99
  z218 := Try.sizeOf99
  v218 := Try.zeroValue99
  t222 := Try.underlying103
  a222 := Try.isAgg103
  z222 := Try.sizeOf103
  v222 := Try.zeroValue103
  t228 := Try.underlying109
  a228 := Try.isAgg109
  z228 := Try.sizeOf109
  v228 := Try.zeroValue109
  t229 := Try.underlying110
  a229 := Try.isAgg110
  z229 := Try.sizeOf110
  v229 := Try.zeroValue110 }
open Go.Sort Go.RowKit in
theorem Try.slices_Sort_string (blk off cap : Nat) (ss : List (List UInt8)) (w : World) (hH : Holds encStr w blk off ss.toArray) (hblk : blk < w.heap.size) (hsz : ss.length < 4611686018427387904) :
    Calls Try.prog 42 #[.slice (some ⟨blk, off, none⟩) ss.length cap] w fun e w' =>
      e = .returned (.tuple #[]) ∧ ∃ n os, w' = grow (putRow encStr (Sort.ahead w n) blk off (ss.mergeSort fun x y => decide (x ≤ y)).toArray) os := Any.slices_Sort_string Try.lays190 blk off cap ss w hH hblk hsz
def Try.laysNm237_ren : Go.Shelf.Ren := ⟨fun | 37 => 88 | n => n, fun | 3 => 3 | 4 => 4 | n => n, fun | n => n⟩
theorem Try.laysNm237 : Go.Proofs.Lays2.n37 Try.prog Try.laysNm237_ren := {
  mixed := by kernel_rfl
  f37 := Try.func88.trans (congrArg some (by kernel_rfl))
  t3 := Try.underlying3
  a3 := Try.isAgg3
  z3 := Try.sizeOf3
  v3 := Try.zeroValue3
  t4 := Try.underlying4
  a4 := Try.isAgg4
  z4 := Try.sizeOf4
  v4 := Try.zeroValue4 }
open Go.RowKit Go.Lib in
/-- cmp.isNaN[int]: 'x != x': false. (LAID: no walk: one application.) -/
theorem Try.cmp_isNaN_int2 (x : Int) (w : World) :
    Calls Try.prog 88 #[.int .i64 x] w fun e w' => e = .returned (.bool false) ∧ w' = w := Any.cmp_isNaN_int2 Try.laysNm237 x w
def Try.laysNm231_ren : Go.Shelf.Ren := ⟨fun | 31 => 60 | 37 => 88 | n => n, fun | 3 => 3 | 4 => 4 | n => n, fun | n => n⟩
theorem Try.laysNm231 : Go.Proofs.Lays2.n31 Try.prog Try.laysNm231_ren := {
  mixed := by kernel_rfl
  f31 := Try.func60.trans (congrArg some (by kernel_rfl))
  f37 := Try.func88.trans (congrArg some (by kernel_rfl))
  t3 := Try.underlying3
  a3 := Try.isAgg3
  z3 := Try.sizeOf3
  v3 := Try.zeroValue3
  t4 := Try.underlying4
  a4 := Try.isAgg4
  z4 := Try.sizeOf4
  v4 := Try.zeroValue4 }
open Go.RowKit Go.Lib in
/-- cmp.Less[int]: "Less reports whether x is less than y.": 'x < y'; the world is as it was. (LAID: no walk: one application.) -/
theorem Try.cmp_Less_int2 (x y : Int) (w : World) :
    Calls Try.prog 60 #[.int .i64 x, .int .i64 y] w fun e w' => e = .returned (.bool (decide (x < y))) ∧ w' = w := Any.cmp_Less_int2 Try.laysNm231 x y w
open Go.RowKit Go.Sort in
/-- .. and plain. (LAID: no walk: one application.) -/
theorem Try.slices_Sort_string_none (p : Option Addr) (cap : Nat) (w : World) :
    Calls Try.prog 42 #[.slice p 0 cap] w fun e w' => e = .returned (.tuple #[]) ∧ w' = w := Any.slices_Sort_string_none Try.lays190 p cap w
open Go.RowKit Go.Sort in
/-- .. and plain. (LAID: no walk: one application.) -/
theorem Try.slices_Sort_int_none (p : Option Addr) (cap : Nat) (w : World) :
    Calls Try.prog 38 #[.slice p 0 cap] w fun e w' => e = .returned (.tuple #[]) ∧ w' = w := Any.slices_Sort_int_none Try.lays189 p cap w
end Go.Proofs
