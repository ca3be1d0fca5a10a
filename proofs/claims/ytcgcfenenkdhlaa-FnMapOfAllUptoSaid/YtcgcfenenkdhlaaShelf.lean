/-
  DERIVED: THE SHELF's CONTRACTS AT THIS DUMP, IN PLAIN WORDS (tools/lay-plain.mjs out of 'YtcgcfenenkdhlaaShelf.lean', which tools/lay-shelf.mjs wrote): THE SAME DECLARATIONS UNDER THE SAME NAMES: 'import', 'namespace', 'open', 'def', 'theorem' AND NOTHING ELSE: no command of the shelf's: FOR A HAND-IN. Each laying: the table of numbers ('.._ren') and one theorem, a field a fact of the dump's own or the kernel's comparison; each contract: ONE APPLICATION.
-/
import Derived.Shelf.Small.Bits
import Derived.Shelf.Small.Wraps
import Derived.Shelf.Strconv.Itoa0
import Derived.Shelf.Sort.Plain
import Derived.Ground.GgsProg
import Derived.Shelf.GgSortFunc.Insertion
import Derived.Shelf.GgSortFunc.Small
import Derived.Shelf.GgSortFunc.InsertionK
import Derived.Shelf.GgSortFunc.SmallK
import Derived.Shelf.GgSortFunc.Tiny
import Derived.Shelf.GgSortFunc.Compose
import Derived.Shelf.GgSortFunc.LotD
import Derived.Ground.Names2Prog
import Derived.Shelf.Slices.SearchI
import Derived.Shelf.Slices.In.SortNone
import Derived.Shelf.Slices.In.SortNone2
import Derived.Shelf.SlSortFunc.Xorshift
import Derived.Shelf.SlSortFuncK.ComposeK
import Derived.Shelf.SlSortFuncK.SiftDownK
import Derived.Shelf.SlSortFuncK.HeapSortK
import Derived.Shelf.SlSortFuncK.PartialInsertionK
import Derived.Shelf.SlSortFuncK.LotDK
import Derived.Shelf.SlSortFuncK.PivotK
import Derived.Shelf.SlSortFuncK.PartitionK
import Derived.Shelf.SlSortFuncK.PdqK
import Derived.Shelf.SlSortFuncK.WholeK
import Derived.Test.YtcgcfenenkdhlaaProg
namespace Go.Proofs
open Go.Shelf
def Try.lays189_ren : Go.Shelf.Ren := ⟨fun | 189 => 58 | 125 => 55 | 257 => 85 | 128 => 75 | 129 => 76 | 294 => 92 | 295 => 93 | 296 => 94 | 297 => 95 | 298 => 96 | 299 => 97 | 216 => 98 | 300 => 99 | 301 => 100 | 328 => 102 | 329 => 103 | 330 => 104 | 331 => 105 | 332 => 106 | 215 => 107 | 343 => 108 | n => n, fun | 28 => 24 | 3 => 3 | 46 => 75 | 0 => 0 | 51 => 85 | 53 => 87 | 4 => 4 | 183 => 106 | 182 => 105 | 131 => 94 | 5 => 5 | 9 => 9 | 218 => 114 | 222 => 102 | 228 => 117 | 229 => 112 | n => n, fun | n => n⟩
theorem Try.lays189 : Go.Proofs.Lays.n189 Try.prog Try.lays189_ren := {
  mixed := by kernel_rfl
  f125 := Try.func55.trans (congrArg some (by kernel_rfl))
  f128 := Try.func75.trans (congrArg some (by kernel_rfl))
  f129 := Try.func76.trans (congrArg some (by kernel_rfl))
  f189 := Try.func58.trans (congrArg some (by kernel_rfl))
  f215 := Try.func107.trans (congrArg some (by kernel_rfl))
  f216 := Try.func98.trans (congrArg some (by kernel_rfl))
  f257 := Try.func85.trans (congrArg some (by kernel_rfl))
  f294 := Try.func92.trans (congrArg some (by kernel_rfl))
  f295 := Try.func93.trans (congrArg some (by kernel_rfl))
  f296 := Try.func94.trans (congrArg some (by kernel_rfl))
  f297 := Try.func95.trans (congrArg some (by kernel_rfl))
  f298 := Try.func96.trans (congrArg some (by kernel_rfl))
  f299 := Try.func97.trans (congrArg some (by kernel_rfl))
  f300 := Try.func99.trans (congrArg some (by kernel_rfl))
  f301 := Try.func100.trans (congrArg some (by kernel_rfl))
  f328 := Try.func102.trans (congrArg some (by kernel_rfl))
  f329 := Try.func103.trans (congrArg some (by kernel_rfl))
  f330 := Try.func104.trans (congrArg some (by kernel_rfl))
  f331 := Try.func105.trans (congrArg some (by kernel_rfl))
  f332 := Try.func106.trans (congrArg some (by kernel_rfl))
  f343 := Try.func108.trans (congrArg some (by kernel_rfl))
  t0 := Try.underlying0
  a0 := Try.isAgg0
  z0 := Try.sizeOf0
  v0 := Try.zeroValue0
  t3 := Try.underlying3
  a3 := Try.isAgg3
  z3 := Try.sizeOf3
  v3 := Try.zeroValue3
  t4 := Try.underlying4
  a4 := Try.isAgg4
  z4 := Try.sizeOf4
  v4 := Try.zeroValue4
  t5 := Try.underlying5
  a5 := Try.isAgg5
  z5 := Try.sizeOf5
  v5 := Try.zeroValue5
  t9 := Try.underlying9
  a9 := Try.isAgg9
  z9 := Try.sizeOf9
  v9 := Try.zeroValue9
  t28 := Try.underlying24
  a28 := Try.isAgg24
  z28 := Try.sizeOf24
  v28 := Try.zeroValue24
  t46 := Try.underlying75
  a46 := Try.isAgg75
  z46 := Try.sizeOf75
  v46 := Try.zeroValue75
  t51 := Try.underlying85
  a51 := Try.isAgg85
  z51 := Try.sizeOf85
  v51 := Try.zeroValue85
  t53 := Try.underlying87
  a53 := Try.isAgg87
  z53 := Try.sizeOf87
  v53 := Try.zeroValue87
  t131 := Try.underlying94
  a131 := Try.isAgg94
  z131 := Try.sizeOf94
  v131 := Try.zeroValue94
  t182 := Try.underlying105
  a182 := Try.isAgg105
  z182 := Try.sizeOf105
  v182 := Try.zeroValue105
  t183 := Try.underlying106
  a183 := Try.isAgg106
  z183 := Try.sizeOf106
  v183 := Try.zeroValue106
  t218 := Try.underlying114
  a218 := Try.isAgg114
  z218 := Try.sizeOf114
  v218 := Try.zeroValue114
  t222 := Try.underlying102
  a222 := Try.isAgg102
  z222 := Try.sizeOf102
  v222 := Try.zeroValue102
  t228 := Try.underlying117
  a228 := Try.isAgg117
  z228 := Try.sizeOf117
  v228 := Try.zeroValue117
  t229 := Try.underlying112
  a229 := Try.isAgg112
  z229 := Try.sizeOf112
  v229 := Try.zeroValue112 }
open Go.Sort Go.RowKit in
theorem Try.slices_Sort_int (blk off cap : Nat) (zs : List Int) (w : World) (hH : Holds (Value.int .i64) w blk off zs.toArray) (hblk : blk < w.heap.size) (hsz : zs.length < 4611686018427387904) :
    Calls Try.prog 58 #[.slice (some ⟨blk, off, none⟩) zs.length cap] w fun e w' =>
      e = .returned (.tuple #[]) ∧ ∃ n os, w' = grow (putRow (Value.int .i64) (Sort.ahead w n) blk off (zs.mergeSort fun x y => decide (x ≤ y)).toArray) os := Any.slices_Sort_int Try.lays189 blk off cap zs w hH hblk hsz
def Try.lays191_ren : Go.Shelf.Ren := ⟨fun | 191 => 40 | 189 => 58 | 125 => 55 | 257 => 85 | 128 => 75 | 129 => 76 | 294 => 92 | 295 => 93 | 296 => 94 | 297 => 95 | 298 => 96 | 299 => 97 | 216 => 98 | 300 => 99 | 301 => 100 | 328 => 102 | 329 => 103 | 330 => 104 | 331 => 105 | 332 => 106 | 215 => 107 | 343 => 108 | n => n, fun | 28 => 24 | 0 => 0 | 3 => 3 | 46 => 75 | 51 => 85 | 53 => 87 | 4 => 4 | 183 => 106 | 182 => 105 | 131 => 94 | 5 => 5 | 9 => 9 | 218 => 114 | 222 => 102 | 228 => 117 | 229 => 112 | n => n, fun | n => n⟩
theorem Try.lays191 : Go.Proofs.Lays.n191 Try.prog Try.lays191_ren := {
  mixed := by kernel_rfl
  f125 := Try.func55.trans (congrArg some (by kernel_rfl))
  f128 := Try.func75.trans (congrArg some (by kernel_rfl))
  f129 := Try.func76.trans (congrArg some (by kernel_rfl))
  f189 := Try.func58.trans (congrArg some (by kernel_rfl))
  f191 := Try.func40.trans (congrArg some (by kernel_rfl))
  f215 := Try.func107.trans (congrArg some (by kernel_rfl))
  f216 := Try.func98.trans (congrArg some (by kernel_rfl))
  f257 := Try.func85.trans (congrArg some (by kernel_rfl))
  f294 := Try.func92.trans (congrArg some (by kernel_rfl))
  f295 := Try.func93.trans (congrArg some (by kernel_rfl))
  f296 := Try.func94.trans (congrArg some (by kernel_rfl))
  f297 := Try.func95.trans (congrArg some (by kernel_rfl))
  f298 := Try.func96.trans (congrArg some (by kernel_rfl))
  f299 := Try.func97.trans (congrArg some (by kernel_rfl))
  f300 := Try.func99.trans (congrArg some (by kernel_rfl))
  f301 := Try.func100.trans (congrArg some (by kernel_rfl))
  f328 := Try.func102.trans (congrArg some (by kernel_rfl))
  f329 := Try.func103.trans (congrArg some (by kernel_rfl))
  f330 := Try.func104.trans (congrArg some (by kernel_rfl))
  f331 := Try.func105.trans (congrArg some (by kernel_rfl))
  f332 := Try.func106.trans (congrArg some (by kernel_rfl))
  f343 := Try.func108.trans (congrArg some (by kernel_rfl))
  t0 := Try.underlying0
  a0 := Try.isAgg0
  z0 := Try.sizeOf0
  v0 := Try.zeroValue0
  t3 := Try.underlying3
  a3 := Try.isAgg3
  z3 := Try.sizeOf3
  v3 := Try.zeroValue3
  t4 := Try.underlying4
  a4 := Try.isAgg4
  z4 := Try.sizeOf4
  v4 := Try.zeroValue4
  t5 := Try.underlying5
  a5 := Try.isAgg5
  z5 := Try.sizeOf5
  v5 := Try.zeroValue5
  t9 := Try.underlying9
  a9 := Try.isAgg9
  z9 := Try.sizeOf9
  v9 := Try.zeroValue9
  t28 := Try.underlying24
  a28 := Try.isAgg24
  z28 := Try.sizeOf24
  v28 := Try.zeroValue24
  t46 := Try.underlying75
  a46 := Try.isAgg75
  z46 := Try.sizeOf75
  v46 := Try.zeroValue75
  t51 := Try.underlying85
  a51 := Try.isAgg85
  z51 := Try.sizeOf85
  v51 := Try.zeroValue85
  t53 := Try.underlying87
  a53 := Try.isAgg87
  z53 := Try.sizeOf87
  v53 := Try.zeroValue87
  t131 := Try.underlying94
  a131 := Try.isAgg94
  z131 := Try.sizeOf94
  v131 := Try.zeroValue94
  t182 := Try.underlying105
  a182 := Try.isAgg105
  z182 := Try.sizeOf105
  v182 := Try.zeroValue105
  t183 := Try.underlying106
  a183 := Try.isAgg106
  z183 := Try.sizeOf106
  v183 := Try.zeroValue106
  t218 := Try.underlying114
  a218 := Try.isAgg114
  z218 := Try.sizeOf114
  v218 := Try.zeroValue114
  t222 := Try.underlying102
  a222 := Try.isAgg102
  z222 := Try.sizeOf102
  v222 := Try.zeroValue102
  t228 := Try.underlying117
  a228 := Try.isAgg117
  z228 := Try.sizeOf117
  v228 := Try.zeroValue117
  t229 := Try.underlying112
  a229 := Try.isAgg112
  z229 := Try.sizeOf112
  v229 := Try.zeroValue112 }
open Go.Sort Go.RowKit in
theorem Try.sort_Ints (blk off cap : Nat) (zs : List Int) (w : World) (hH : Holds (Value.int .i64) w blk off zs.toArray) (hblk : blk < w.heap.size) (hsz : zs.length < 4611686018427387904) :
    Calls Try.prog 40 #[.slice (some ⟨blk, off, none⟩) zs.length cap] w fun e w' =>
      e = .returned (.tuple #[]) ∧ ∃ n os, w' = grow (putRow (Value.int .i64) (Sort.ahead w n) blk off (zs.mergeSort fun x y => decide (x ≤ y)).toArray) os := Any.sort_Ints Try.lays191 blk off cap zs w hH hblk hsz
def Try.laysGg6_ren : Go.Shelf.Ren := ⟨fun | 6 => 37 | 10 => 52 | 11 => 53 | 12 => 54 | 13 => 55 | 14 => 56 | 24 => 75 | 25 => 76 | 26 => 77 | 27 => 78 | 28 => 79 | 29 => 80 | 30 => 81 | 31 => 82 | 32 => 83 | 33 => 84 | 34 => 87 | 35 => 88 | 36 => 89 | 37 => 90 | 38 => 91 | 39 => 101 | n => n, fun | 20 => 20 | 26 => 50 | 35 => 69 | 0 => 0 | 37 => 71 | 3 => 3 | 41 => 75 | 44 => 78 | 49 => 85 | 51 => 87 | 4 => 4 | 54 => 90 | 53 => 89 | 58 => 94 | 5 => 5 | 9 => 9 | 60 => 98 | 64 => 102 | 66 => 111 | 67 => 112 | 17 => 17 | 32 => 66 | 33 => 67 | 82 => 132 | 12 => 12 | 75 => 125 | 76 => 126 | 77 => 127 | 78 => 128 | 79 => 129 | 80 => 130 | n => n, fun | n => n⟩
theorem Try.laysGg6 : Go.Proofs.LaysGg.n6 Try.prog Try.laysGg6_ren := {
  mixed := by kernel_rfl
  f6 := Try.func37.trans (congrArg some (by kernel_rfl))
  f10 := Try.func52.trans (congrArg some (by kernel_rfl))
  f11 := Try.func53.trans (congrArg some (by kernel_rfl))
  f12 := Try.func54.trans (congrArg some (by kernel_rfl))
  f13 := Try.func55.trans (congrArg some (by kernel_rfl))
  f14 := Try.func56.trans (congrArg some (by kernel_rfl))
  f24 := Try.func75.trans (congrArg some (by kernel_rfl))
  f25 := Try.func76.trans (congrArg some (by kernel_rfl))
  f26 := Try.func77.trans (congrArg some (by kernel_rfl))
  f27 := Try.func78.trans (congrArg some (by kernel_rfl))
  f28 := Try.func79.trans (congrArg some (by kernel_rfl))
  f29 := Try.func80.trans (congrArg some (by kernel_rfl))
  f30 := Try.func81.trans (congrArg some (by kernel_rfl))
  f31 := Try.func82.trans (congrArg some (by kernel_rfl))
  f32 := Try.func83.trans (congrArg some (by kernel_rfl))
  f33 := Try.func84.trans (congrArg some (by kernel_rfl))
  f34 := Try.func87.trans (congrArg some (by kernel_rfl))
  f35 := Try.func88.trans (congrArg some (by kernel_rfl))
  f36 := Try.func89.trans (congrArg some (by kernel_rfl))
  f37 := Try.func90.trans (congrArg some (by kernel_rfl))
  f38 := Try.func91.trans (congrArg some (by kernel_rfl))
  f39 := Try.func101.trans (congrArg some (by kernel_rfl))
  t0 := Try.underlying0
  a0 := Try.isAgg0
  z0 := Try.sizeOf0
  v0 := Try.zeroValue0
  i0 := by kernel_rfl
  t3 := Try.underlying3
  a3 := Try.isAgg3
  z3 := Try.sizeOf3
  v3 := Try.zeroValue3
  i3 := by kernel_rfl
  t4 := Try.underlying4
  a4 := Try.isAgg4
  z4 := Try.sizeOf4
  v4 := Try.zeroValue4
  i4 := by kernel_rfl
  t5 := Try.underlying5
  a5 := Try.isAgg5
  z5 := Try.sizeOf5
  v5 := Try.zeroValue5
  i5 := by kernel_rfl
  t9 := Try.underlying9
  a9 := Try.isAgg9
  z9 := Try.sizeOf9
  v9 := Try.zeroValue9
  i9 := by kernel_rfl
  t12 := Try.underlying12
  a12 := Try.isAgg12
  z12 := Try.sizeOf12
  v12 := Try.zeroValue12
  i12 := by kernel_rfl
  t17 := Try.underlying17
  a17 := Try.isAgg17
  z17 := Try.sizeOf17
  v17 := Try.zeroValue17
  i17 := by kernel_rfl
  t20 := Try.underlying20
  a20 := Try.isAgg20
  z20 := Try.sizeOf20
  v20 := Try.zeroValue20
  i20 := by kernel_rfl
  t26 := Try.underlying50
  a26 := Try.isAgg50
  z26 := Try.sizeOf50
  v26 := Try.zeroValue50
  i26 := by kernel_rfl
  t32 := Try.underlying66
  a32 := Try.isAgg66
  z32 := Try.sizeOf66
  v32 := Try.zeroValue66
  i32 := by kernel_rfl
  t33 := Try.underlying67
  a33 := Try.isAgg67
  z33 := Try.sizeOf67
  v33 := Try.zeroValue67
  i33 := by kernel_rfl
  t35 := Try.underlying69
  a35 := Try.isAgg69
  z35 := Try.sizeOf69
  v35 := Try.zeroValue69
  i35 := by kernel_rfl
  t37 := Try.underlying71
  a37 := Try.isAgg71
  z37 := Try.sizeOf71
  v37 := Try.zeroValue71
  i37 := by kernel_rfl
  t41 := Try.underlying75
  a41 := Try.isAgg75
  z41 := Try.sizeOf75
  v41 := Try.zeroValue75
  i41 := by kernel_rfl
  t44 := Try.underlying78
  a44 := Try.isAgg78
  z44 := Try.sizeOf78
  v44 := Try.zeroValue78
  i44 := by kernel_rfl
  t49 := Try.underlying85
  a49 := Try.isAgg85
  z49 := Try.sizeOf85
  v49 := Try.zeroValue85
  i49 := by kernel_rfl
  t51 := Try.underlying87
  a51 := Try.isAgg87
  z51 := Try.sizeOf87
  v51 := Try.zeroValue87
  i51 := by kernel_rfl
  t53 := Try.underlying89
  a53 := Try.isAgg89
  z53 := Try.sizeOf89
  v53 := Try.zeroValue89
  i53 := by kernel_rfl
  t54 := Try.underlying90
  a54 := Try.isAgg90
  z54 := Try.sizeOf90
  v54 := Try.zeroValue90
  i54 := by kernel_rfl
  t58 := Try.underlying94
  a58 := Try.isAgg94
  z58 := Try.sizeOf94
  v58 := Try.zeroValue94
  i58 := by kernel_rfl
  t60 := Try.underlying98
  a60 := Try.isAgg98
  z60 := Try.sizeOf98
  v60 := Try.zeroValue98
  i60 := by kernel_rfl
  t64 := Try.underlying102
  a64 := Try.isAgg102
  z64 := Try.sizeOf102
  v64 := Try.zeroValue102
  i64 := by kernel_rfl
  t66 := Try.underlying111
  a66 := Try.isAgg111
  z66 := Try.sizeOf111
  v66 := Try.zeroValue111
  i66 := by kernel_rfl
  t67 := Try.underlying112
  a67 := Try.isAgg112
  z67 := Try.sizeOf112
  v67 := Try.zeroValue112
  i67 := by kernel_rfl
  t75 := Try.underlying125
  a75 := Try.isAgg125
  z75 := Try.sizeOf125
  v75 := Try.zeroValue125
  i75 := by kernel_rfl
  t76 := Try.underlying126
  a76 := Try.isAgg126
  z76 := Try.sizeOf126
  v76 := Try.zeroValue126
  i76 := by kernel_rfl
  t77 := Try.underlying127
  a77 := Try.isAgg127
  z77 := Try.sizeOf127
  v77 := Try.zeroValue127
  i77 := by kernel_rfl
  t78 := Try.underlying128
  a78 := Try.isAgg128
  z78 := Try.sizeOf128
  v78 := Try.zeroValue128
  i78 := by kernel_rfl
  t79 := Try.underlying129
  a79 := Try.isAgg129
  z79 := Try.sizeOf129
  v79 := Try.zeroValue129
  i79 := by kernel_rfl
  t80 := Try.underlying130
  a80 := Try.isAgg130
  z80 := Try.sizeOf130
  v80 := Try.zeroValue130
  i80 := by kernel_rfl
  t82 := Try.underlying132
  a82 := Try.isAgg132
  z82 := Try.sizeOf132
  v82 := Try.zeroValue132
  i82 := by kernel_rfl }
open Go.RowKit Go.Sort in
/-- .. and plain. (LAID: no walk: one application.) -/
theorem Try.slices_Sort_int_none (p : Option Addr) (cap : Nat) (w : World) :
    Calls Try.prog 58 #[.slice p 0 cap] w fun e w' => e = .returned (.tuple #[]) ∧ w' = w := Any.slices_Sort_int_none Try.lays189 p cap w
open Go.RowKit Go.Sort in
/-- .. and plain. (LAID: no walk: one application.) -/
theorem Try.sort_Ints_none (p : Option Addr) (cap : Nat) (w : World) :
    Calls Try.prog 40 #[.slice p 0 cap] w fun e w' => e = .returned (.tuple #[]) ∧ w' = w := Any.sort_Ints_none Try.lays191 p cap w
end Go.Proofs
