/-
  No cell of these rows narrows 'for every input' (looked for: loops, veiled, ifaces, maps, wideKeys, modest, calm, conditions, laid).
  DERIVED. THE GIVEN ROWS OF THIS SEAT. 13 by the template 'for every input the law returns true; each argument reads behind the call as it read before'; 0 by the template 'total and deterministic' (their statements: YtcgcfenenkdhlaaTotals.lean).
  GIVEN WITH THE SEED: the statements are not yours to turn. If you find one false, say at which input.
  Laid BY PROGRAM, IN A SANDBOX (cutbox-rows.mjs): the forced cells as the released guide's own fill.sh prints them over the translation fef92ac6c8f1eaff… (all of the seat's roots in one cut). By AI agents, Wed Nov 11 2026. No macro, syntax, notation, axiom, sorry.
-/
import Derived.Test.YtcgcfenenkdhlaaChecked
import GoSem.Claim
import GoSem.ClaimJoined
import GoSem.ClaimMapViews
import Derived.JoinedTies
import Derived.KernelRfl
namespace Go.Proofs.Ytcgcfenenkdhlaa
/- THE CELL 'sum', in the pinned program and in every row, IS THE sha256 OF THE DUMP (.gsa) THAT YtcgcfenenkdhlaaProg.lean LOADS. Nothing in Lean hashes anything: it is a label: what it is worth is what the hold of that sum in a sandbox is worth. -/
noncomputable def Try.pinned : Pinned := { name := "ytcgcfenenkdhlaa", sum := "fef92ac6c8f1eaffdeb910c333ba92434b279d9831dca87427242de78487ecbd", checked := Try.checked }
namespace Rows
def none {H : Type} : Left H := { results := [], args := [] }

/-- 'laws.FnMapKeysAndValues': WHATEVER THE INPUT: true; the input reads as it did. -/
def fnMapKeysAndValuesSpec : ChangeSpec := { name := "fnMapKeysAndValues", fn := fun _ => fun
  | [d] => { results := [.lit (.bool true)], args := [d] }
  | _ => none }
def fnMapKeysAndValuesRow : OpenClaim := { program := "ytcgcfenenkdhlaa", sum := "fef92ac6c8f1eaffdeb910c333ba92434b279d9831dca87427242de78487ecbd", func := "lib-loomstrand/laws.FnMapKeysAndValues", spec := "fnMapKeysAndValues", inPlace := ["internal/reflectlite.ValueOf", "internal/reflectlite.Swapper", "(internal/reflectlite.Value).Len"], unfollowed := true, recurses := true, apart := false }
def FnMapKeysAndValuesSaid : Prop := fnMapKeysAndValuesRow.holds Try.pinned (OpenSpec.ofChange fnMapKeysAndValuesSpec)

/-- ITS FALSE NEIGHBOUR: 'it returns false'. Refute it at one input. -/
def fnMapKeysAndValuesWrong : ChangeSpec := { name := "fnMapKeysAndValues", fn := fun _ => fun
  | [d] => { results := [.lit (.bool false)], args := [d] }
  | _ => none }
def FnMapKeysAndValuesWrongFalsely : Prop := fnMapKeysAndValuesRow.holds Try.pinned (OpenSpec.ofChange fnMapKeysAndValuesWrong)

/-- 'laws.FnMapBroken': WHATEVER THE INPUT: true; the input reads as it did. -/
def fnMapBrokenSpec : ChangeSpec := { name := "fnMapBroken", fn := fun _ => fun
  | [d1, d2] => { results := [.lit (.bool true)], args := [d1, d2] }
  | _ => none }
def fnMapBrokenRow : OpenClaim := { program := "ytcgcfenenkdhlaa", sum := "fef92ac6c8f1eaffdeb910c333ba92434b279d9831dca87427242de78487ecbd", func := "lib-loomstrand/laws.FnMapBroken", spec := "fnMapBroken", unfollowed := true, recurses := true, apart := false }
def FnMapBrokenSaid : Prop := fnMapBrokenRow.holds Try.pinned (OpenSpec.ofChange fnMapBrokenSpec)

/-- ITS FALSE NEIGHBOUR: 'it returns false'. Refute it at one input. -/
def fnMapBrokenWrong : ChangeSpec := { name := "fnMapBroken", fn := fun _ => fun
  | [d1, d2] => { results := [.lit (.bool false)], args := [d1, d2] }
  | _ => none }
def FnMapBrokenWrongFalsely : Prop := fnMapBrokenRow.holds Try.pinned (OpenSpec.ofChange fnMapBrokenWrong)

/-- 'laws.FnMapKeys': WHATEVER THE INPUT: true; the input reads as it did. -/
def fnMapKeysSpec : ChangeSpec := { name := "fnMapKeys", fn := fun _ => fun
  | [d] => { results := [.lit (.bool true)], args := [d] }
  | _ => none }
def fnMapKeysRow : OpenClaim := { program := "ytcgcfenenkdhlaa", sum := "fef92ac6c8f1eaffdeb910c333ba92434b279d9831dca87427242de78487ecbd", func := "lib-loomstrand/laws.FnMapKeys", spec := "fnMapKeys", unfollowed := true, recurses := true, apart := false }
def FnMapKeysSaid : Prop := fnMapKeysRow.holds Try.pinned (OpenSpec.ofChange fnMapKeysSpec)

/-- ITS FALSE NEIGHBOUR: 'it returns false'. Refute it at one input. -/
def fnMapKeysWrong : ChangeSpec := { name := "fnMapKeys", fn := fun _ => fun
  | [d] => { results := [.lit (.bool false)], args := [d] }
  | _ => none }
def FnMapKeysWrongFalsely : Prop := fnMapKeysRow.holds Try.pinned (OpenSpec.ofChange fnMapKeysWrong)

/-- 'laws.FnMapValues': WHATEVER THE INPUT: true; the input reads as it did. -/
def fnMapValuesSpec : ChangeSpec := { name := "fnMapValues", fn := fun _ => fun
  | [d] => { results := [.lit (.bool true)], args := [d] }
  | _ => none }
def fnMapValuesRow : OpenClaim := { program := "ytcgcfenenkdhlaa", sum := "fef92ac6c8f1eaffdeb910c333ba92434b279d9831dca87427242de78487ecbd", func := "lib-loomstrand/laws.FnMapValues", spec := "fnMapValues", unfollowed := true, recurses := true, apart := false }
def FnMapValuesSaid : Prop := fnMapValuesRow.holds Try.pinned (OpenSpec.ofChange fnMapValuesSpec)

/-- ITS FALSE NEIGHBOUR: 'it returns false'. Refute it at one input. -/
def fnMapValuesWrong : ChangeSpec := { name := "fnMapValues", fn := fun _ => fun
  | [d] => { results := [.lit (.bool false)], args := [d] }
  | _ => none }
def FnMapValuesWrongFalsely : Prop := fnMapValuesRow.holds Try.pinned (OpenSpec.ofChange fnMapValuesWrong)

/-- 'laws.FnMapAll': WHATEVER THE INPUT: true; the input reads as it did. -/
def fnMapAllSpec : ChangeSpec := { name := "fnMapAll", fn := fun _ => fun
  | [d] => { results := [.lit (.bool true)], args := [d] }
  | _ => none }
def fnMapAllRow : OpenClaim := { program := "ytcgcfenenkdhlaa", sum := "fef92ac6c8f1eaffdeb910c333ba92434b279d9831dca87427242de78487ecbd", func := "lib-loomstrand/laws.FnMapAll", spec := "fnMapAll", inPlace := ["internal/reflectlite.ValueOf", "internal/reflectlite.Swapper", "(internal/reflectlite.Value).Len"], unfollowed := true, recurses := true, apart := false }
def FnMapAllSaid : Prop := fnMapAllRow.holds Try.pinned (OpenSpec.ofChange fnMapAllSpec)

/-- ITS FALSE NEIGHBOUR: 'it returns false'. Refute it at one input. -/
def fnMapAllWrong : ChangeSpec := { name := "fnMapAll", fn := fun _ => fun
  | [d] => { results := [.lit (.bool false)], args := [d] }
  | _ => none }
def FnMapAllWrongFalsely : Prop := fnMapAllRow.holds Try.pinned (OpenSpec.ofChange fnMapAllWrong)

/-- 'laws.FnMapCollect': WHATEVER THE INPUT: true; the input reads as it did. -/
def fnMapCollectSpec : ChangeSpec := { name := "fnMapCollect", fn := fun _ => fun
  | [d] => { results := [.lit (.bool true)], args := [d] }
  | _ => none }
def fnMapCollectRow : OpenClaim := { program := "ytcgcfenenkdhlaa", sum := "fef92ac6c8f1eaffdeb910c333ba92434b279d9831dca87427242de78487ecbd", func := "lib-loomstrand/laws.FnMapCollect", spec := "fnMapCollect", inPlace := ["internal/reflectlite.ValueOf", "internal/reflectlite.Swapper", "(internal/reflectlite.Value).Len"], unfollowed := true, recurses := true, apart := false }
def FnMapCollectSaid : Prop := fnMapCollectRow.holds Try.pinned (OpenSpec.ofChange fnMapCollectSpec)

/-- ITS FALSE NEIGHBOUR: 'it returns false'. Refute it at one input. -/
def fnMapCollectWrong : ChangeSpec := { name := "fnMapCollect", fn := fun _ => fun
  | [d] => { results := [.lit (.bool false)], args := [d] }
  | _ => none }
def FnMapCollectWrongFalsely : Prop := fnMapCollectRow.holds Try.pinned (OpenSpec.ofChange fnMapCollectWrong)

/-- 'laws.FnMapCollectAll': WHATEVER THE INPUT: true; the input reads as it did. -/
def fnMapCollectAllSpec : ChangeSpec := { name := "fnMapCollectAll", fn := fun _ => fun
  | [d] => { results := [.lit (.bool true)], args := [d] }
  | _ => none }
def fnMapCollectAllRow : OpenClaim := { program := "ytcgcfenenkdhlaa", sum := "fef92ac6c8f1eaffdeb910c333ba92434b279d9831dca87427242de78487ecbd", func := "lib-loomstrand/laws.FnMapCollectAll", spec := "fnMapCollectAll", inPlace := ["internal/reflectlite.ValueOf", "internal/reflectlite.Swapper", "(internal/reflectlite.Value).Len"], unfollowed := true, recurses := true, apart := false }
def FnMapCollectAllSaid : Prop := fnMapCollectAllRow.holds Try.pinned (OpenSpec.ofChange fnMapCollectAllSpec)

/-- ITS FALSE NEIGHBOUR: 'it returns false'. Refute it at one input. -/
def fnMapCollectAllWrong : ChangeSpec := { name := "fnMapCollectAll", fn := fun _ => fun
  | [d] => { results := [.lit (.bool false)], args := [d] }
  | _ => none }
def FnMapCollectAllWrongFalsely : Prop := fnMapCollectAllRow.holds Try.pinned (OpenSpec.ofChange fnMapCollectAllWrong)

/-- 'laws.FnMapInsert': WHATEVER THE INPUT: true; the input reads as it did. -/
def fnMapInsertSpec : ChangeSpec := { name := "fnMapInsert", fn := fun _ => fun
  | [d1, d2] => { results := [.lit (.bool true)], args := [d1, d2] }
  | _ => none }
def fnMapInsertRow : OpenClaim := { program := "ytcgcfenenkdhlaa", sum := "fef92ac6c8f1eaffdeb910c333ba92434b279d9831dca87427242de78487ecbd", func := "lib-loomstrand/laws.FnMapInsert", spec := "fnMapInsert", inPlace := ["internal/reflectlite.ValueOf", "internal/reflectlite.Swapper", "(internal/reflectlite.Value).Len"], unfollowed := true, recurses := true, apart := false }
def FnMapInsertSaid : Prop := fnMapInsertRow.holds Try.pinned (OpenSpec.ofChange fnMapInsertSpec)

/-- ITS FALSE NEIGHBOUR: 'it returns false'. Refute it at one input. -/
def fnMapInsertWrong : ChangeSpec := { name := "fnMapInsert", fn := fun _ => fun
  | [d1, d2] => { results := [.lit (.bool false)], args := [d1, d2] }
  | _ => none }
def FnMapInsertWrongFalsely : Prop := fnMapInsertRow.holds Try.pinned (OpenSpec.ofChange fnMapInsertWrong)

/-- 'laws.FnMapInsertAll': WHATEVER THE INPUT: true; the input reads as it did. -/
def fnMapInsertAllSpec : ChangeSpec := { name := "fnMapInsertAll", fn := fun _ => fun
  | [d1, d2] => { results := [.lit (.bool true)], args := [d1, d2] }
  | _ => none }
def fnMapInsertAllRow : OpenClaim := { program := "ytcgcfenenkdhlaa", sum := "fef92ac6c8f1eaffdeb910c333ba92434b279d9831dca87427242de78487ecbd", func := "lib-loomstrand/laws.FnMapInsertAll", spec := "fnMapInsertAll", inPlace := ["internal/reflectlite.ValueOf", "internal/reflectlite.Swapper", "(internal/reflectlite.Value).Len"], unfollowed := true, recurses := true, apart := false }
def FnMapInsertAllSaid : Prop := fnMapInsertAllRow.holds Try.pinned (OpenSpec.ofChange fnMapInsertAllSpec)

/-- ITS FALSE NEIGHBOUR: 'it returns false'. Refute it at one input. -/
def fnMapInsertAllWrong : ChangeSpec := { name := "fnMapInsertAll", fn := fun _ => fun
  | [d1, d2] => { results := [.lit (.bool false)], args := [d1, d2] }
  | _ => none }
def FnMapInsertAllWrongFalsely : Prop := fnMapInsertAllRow.holds Try.pinned (OpenSpec.ofChange fnMapInsertAllWrong)

/-- 'laws.FnMapInsertApart': WHATEVER THE INPUT: true; the input reads as it did. -/
def fnMapInsertApartSpec : ChangeSpec := { name := "fnMapInsertApart", fn := fun _ => fun
  | [d1, d2, d3] => { results := [.lit (.bool true)], args := [d1, d2, d3] }
  | _ => none }
def fnMapInsertApartRow : OpenClaim := { program := "ytcgcfenenkdhlaa", sum := "fef92ac6c8f1eaffdeb910c333ba92434b279d9831dca87427242de78487ecbd", func := "lib-loomstrand/laws.FnMapInsertApart", spec := "fnMapInsertApart", inPlace := ["internal/reflectlite.ValueOf", "internal/reflectlite.Swapper", "(internal/reflectlite.Value).Len"], unfollowed := true, recurses := true, apart := false }
def FnMapInsertApartSaid : Prop := fnMapInsertApartRow.holds Try.pinned (OpenSpec.ofChange fnMapInsertApartSpec)

/-- ITS FALSE NEIGHBOUR: 'it returns false'. Refute it at one input. -/
def fnMapInsertApartWrong : ChangeSpec := { name := "fnMapInsertApart", fn := fun _ => fun
  | [d1, d2, d3] => { results := [.lit (.bool false)], args := [d1, d2, d3] }
  | _ => none }
def FnMapInsertApartWrongFalsely : Prop := fnMapInsertApartRow.holds Try.pinned (OpenSpec.ofChange fnMapInsertApartWrong)

/-- 'laws.FnMapInsertTwice': WHATEVER THE INPUT: true; the input reads as it did. -/
def fnMapInsertTwiceSpec : ChangeSpec := { name := "fnMapInsertTwice", fn := fun _ => fun
  | [d1, d2, d3] => { results := [.lit (.bool true)], args := [d1, d2, d3] }
  | _ => none }
def fnMapInsertTwiceRow : OpenClaim := { program := "ytcgcfenenkdhlaa", sum := "fef92ac6c8f1eaffdeb910c333ba92434b279d9831dca87427242de78487ecbd", func := "lib-loomstrand/laws.FnMapInsertTwice", spec := "fnMapInsertTwice", inPlace := ["internal/reflectlite.ValueOf", "internal/reflectlite.Swapper", "(internal/reflectlite.Value).Len"], unfollowed := true, recurses := true, apart := false }
def FnMapInsertTwiceSaid : Prop := fnMapInsertTwiceRow.holds Try.pinned (OpenSpec.ofChange fnMapInsertTwiceSpec)

/-- ITS FALSE NEIGHBOUR: 'it returns false'. Refute it at one input. -/
def fnMapInsertTwiceWrong : ChangeSpec := { name := "fnMapInsertTwice", fn := fun _ => fun
  | [d1, d2, d3] => { results := [.lit (.bool false)], args := [d1, d2, d3] }
  | _ => none }
def FnMapInsertTwiceWrongFalsely : Prop := fnMapInsertTwiceRow.holds Try.pinned (OpenSpec.ofChange fnMapInsertTwiceWrong)

/-- 'laws.FnMapOfAll': WHATEVER THE INPUT: true; the input reads as it did. -/
def fnMapOfAllSpec : ChangeSpec := { name := "fnMapOfAll", fn := fun _ => fun
  | [d] => { results := [.lit (.bool true)], args := [d] }
  | _ => none }
def fnMapOfAllRow : OpenClaim := { program := "ytcgcfenenkdhlaa", sum := "fef92ac6c8f1eaffdeb910c333ba92434b279d9831dca87427242de78487ecbd", func := "lib-loomstrand/laws.FnMapOfAll", spec := "fnMapOfAll", inPlace := ["internal/reflectlite.ValueOf", "internal/reflectlite.Swapper", "(internal/reflectlite.Value).Len"], unfollowed := true, recurses := true, apart := false }
def FnMapOfAllSaid : Prop := fnMapOfAllRow.holds Try.pinned (OpenSpec.ofChange fnMapOfAllSpec)

/-- ITS FALSE NEIGHBOUR: 'it returns false'. Refute it at one input. -/
def fnMapOfAllWrong : ChangeSpec := { name := "fnMapOfAll", fn := fun _ => fun
  | [d] => { results := [.lit (.bool false)], args := [d] }
  | _ => none }
def FnMapOfAllWrongFalsely : Prop := fnMapOfAllRow.holds Try.pinned (OpenSpec.ofChange fnMapOfAllWrong)

/-- 'laws.FnMapCollectMapAll': WHATEVER THE INPUT: true; the input reads as it did. -/
def fnMapCollectMapAllSpec : ChangeSpec := { name := "fnMapCollectMapAll", fn := fun _ => fun
  | [d] => { results := [.lit (.bool true)], args := [d] }
  | _ => none }
def fnMapCollectMapAllRow : OpenClaim := { program := "ytcgcfenenkdhlaa", sum := "fef92ac6c8f1eaffdeb910c333ba92434b279d9831dca87427242de78487ecbd", func := "lib-loomstrand/laws.FnMapCollectMapAll", spec := "fnMapCollectMapAll", inPlace := ["internal/reflectlite.ValueOf", "internal/reflectlite.Swapper", "(internal/reflectlite.Value).Len"], unfollowed := true, recurses := true, apart := false }
def FnMapCollectMapAllSaid : Prop := fnMapCollectMapAllRow.holds Try.pinned (OpenSpec.ofChange fnMapCollectMapAllSpec)

/-- ITS FALSE NEIGHBOUR: 'it returns false'. Refute it at one input. -/
def fnMapCollectMapAllWrong : ChangeSpec := { name := "fnMapCollectMapAll", fn := fun _ => fun
  | [d] => { results := [.lit (.bool false)], args := [d] }
  | _ => none }
def FnMapCollectMapAllWrongFalsely : Prop := fnMapCollectMapAllRow.holds Try.pinned (OpenSpec.ofChange fnMapCollectMapAllWrong)

/- THE SECOND FORM. 'bulk': how many values and letters a reading holds, each counted each time it is reached (what is shared counts as often as it is met; a slice's spare places count too). A statement '..UptoSaid' is the law's where the arguments, and the package variables that the reading takes, are together of bulk at most 1048576: NARROWER than '..Said'. Prove '..Said' where nothing that the law and all that it calls make is longer than what came in: it says more and counts as full. Else prove '..UptoSaid'. A law counts once. -/
mutual
def uptoBulk {H : Type} : DataW H → Nat
  | .lit (.string bytes) => bytes.length + 1
  | .lit _ => 1
  | .nil => 1
  | .ptr d => uptoBulk d + 1
  | .slice elems spare => uptoBulkAll elems + uptoBulkAll spare + 1
  | .agg parts => uptoBulkAll parts + 1
  | .iface _ d => uptoBulk d + 1
  | .map entries => uptoBulkEntries entries + 1
  | .held _ => 1
def uptoBulkAll {H : Type} : List (DataW H) → Nat
  | [] => 0
  | d :: r => uptoBulk d + uptoBulkAll r
def uptoBulkEntries {H : Type} : List (Lit × DataW H) → Nat
  | [] => 0
  | x :: r => uptoBulkEntry x + uptoBulkEntries r
def uptoBulkEntry {H : Type} : Lit × DataW H → Nat
  | (.string bytes, d) => bytes.length + uptoBulk d + 1
  | (_, d) => uptoBulk d + 1
 end
def uptoSmall : (H : Type) → List (DataW H) → Bool := fun _ ds => decide (uptoBulkAll ds ≤ 1048576)
def OpenSpec.upto (s : _root_.Go.ChangeSpec) : _root_.Go.OpenSpec := { _root_.Go.OpenSpec.ofChange s with cond := some uptoSmall }

/-- 'laws.FnMapKeysAndValues', WHERE WHAT IT READS IS OF BULK AT MOST 1048576: true; the input reads as it did. -/
def fnMapKeysAndValuesUptoRow : OpenClaim := { program := "ytcgcfenenkdhlaa", sum := "fef92ac6c8f1eaffdeb910c333ba92434b279d9831dca87427242de78487ecbd", func := "lib-loomstrand/laws.FnMapKeysAndValues", spec := "fnMapKeysAndValues", inPlace := ["internal/reflectlite.ValueOf", "internal/reflectlite.Swapper", "(internal/reflectlite.Value).Len"], unfollowed := true, recurses := true, apart := false, narrowed := true }
def FnMapKeysAndValuesUptoSaid : Prop := fnMapKeysAndValuesUptoRow.holds Try.pinned (OpenSpec.upto fnMapKeysAndValuesSpec)

/-- 'laws.FnMapBroken', WHERE WHAT IT READS IS OF BULK AT MOST 1048576: true; the input reads as it did. -/
def fnMapBrokenUptoRow : OpenClaim := { program := "ytcgcfenenkdhlaa", sum := "fef92ac6c8f1eaffdeb910c333ba92434b279d9831dca87427242de78487ecbd", func := "lib-loomstrand/laws.FnMapBroken", spec := "fnMapBroken", unfollowed := true, recurses := true, apart := false, narrowed := true }
def FnMapBrokenUptoSaid : Prop := fnMapBrokenUptoRow.holds Try.pinned (OpenSpec.upto fnMapBrokenSpec)

/-- 'laws.FnMapKeys', WHERE WHAT IT READS IS OF BULK AT MOST 1048576: true; the input reads as it did. -/
def fnMapKeysUptoRow : OpenClaim := { program := "ytcgcfenenkdhlaa", sum := "fef92ac6c8f1eaffdeb910c333ba92434b279d9831dca87427242de78487ecbd", func := "lib-loomstrand/laws.FnMapKeys", spec := "fnMapKeys", unfollowed := true, recurses := true, apart := false, narrowed := true }
def FnMapKeysUptoSaid : Prop := fnMapKeysUptoRow.holds Try.pinned (OpenSpec.upto fnMapKeysSpec)

/-- 'laws.FnMapValues', WHERE WHAT IT READS IS OF BULK AT MOST 1048576: true; the input reads as it did. -/
def fnMapValuesUptoRow : OpenClaim := { program := "ytcgcfenenkdhlaa", sum := "fef92ac6c8f1eaffdeb910c333ba92434b279d9831dca87427242de78487ecbd", func := "lib-loomstrand/laws.FnMapValues", spec := "fnMapValues", unfollowed := true, recurses := true, apart := false, narrowed := true }
def FnMapValuesUptoSaid : Prop := fnMapValuesUptoRow.holds Try.pinned (OpenSpec.upto fnMapValuesSpec)

/-- 'laws.FnMapAll', WHERE WHAT IT READS IS OF BULK AT MOST 1048576: true; the input reads as it did. -/
def fnMapAllUptoRow : OpenClaim := { program := "ytcgcfenenkdhlaa", sum := "fef92ac6c8f1eaffdeb910c333ba92434b279d9831dca87427242de78487ecbd", func := "lib-loomstrand/laws.FnMapAll", spec := "fnMapAll", inPlace := ["internal/reflectlite.ValueOf", "internal/reflectlite.Swapper", "(internal/reflectlite.Value).Len"], unfollowed := true, recurses := true, apart := false, narrowed := true }
def FnMapAllUptoSaid : Prop := fnMapAllUptoRow.holds Try.pinned (OpenSpec.upto fnMapAllSpec)

/-- 'laws.FnMapCollect', WHERE WHAT IT READS IS OF BULK AT MOST 1048576: true; the input reads as it did. -/
def fnMapCollectUptoRow : OpenClaim := { program := "ytcgcfenenkdhlaa", sum := "fef92ac6c8f1eaffdeb910c333ba92434b279d9831dca87427242de78487ecbd", func := "lib-loomstrand/laws.FnMapCollect", spec := "fnMapCollect", inPlace := ["internal/reflectlite.ValueOf", "internal/reflectlite.Swapper", "(internal/reflectlite.Value).Len"], unfollowed := true, recurses := true, apart := false, narrowed := true }
def FnMapCollectUptoSaid : Prop := fnMapCollectUptoRow.holds Try.pinned (OpenSpec.upto fnMapCollectSpec)

/-- 'laws.FnMapCollectAll', WHERE WHAT IT READS IS OF BULK AT MOST 1048576: true; the input reads as it did. -/
def fnMapCollectAllUptoRow : OpenClaim := { program := "ytcgcfenenkdhlaa", sum := "fef92ac6c8f1eaffdeb910c333ba92434b279d9831dca87427242de78487ecbd", func := "lib-loomstrand/laws.FnMapCollectAll", spec := "fnMapCollectAll", inPlace := ["internal/reflectlite.ValueOf", "internal/reflectlite.Swapper", "(internal/reflectlite.Value).Len"], unfollowed := true, recurses := true, apart := false, narrowed := true }
def FnMapCollectAllUptoSaid : Prop := fnMapCollectAllUptoRow.holds Try.pinned (OpenSpec.upto fnMapCollectAllSpec)

/-- 'laws.FnMapInsert', WHERE WHAT IT READS IS OF BULK AT MOST 1048576: true; the input reads as it did. -/
def fnMapInsertUptoRow : OpenClaim := { program := "ytcgcfenenkdhlaa", sum := "fef92ac6c8f1eaffdeb910c333ba92434b279d9831dca87427242de78487ecbd", func := "lib-loomstrand/laws.FnMapInsert", spec := "fnMapInsert", inPlace := ["internal/reflectlite.ValueOf", "internal/reflectlite.Swapper", "(internal/reflectlite.Value).Len"], unfollowed := true, recurses := true, apart := false, narrowed := true }
def FnMapInsertUptoSaid : Prop := fnMapInsertUptoRow.holds Try.pinned (OpenSpec.upto fnMapInsertSpec)

/-- 'laws.FnMapInsertAll', WHERE WHAT IT READS IS OF BULK AT MOST 1048576: true; the input reads as it did. -/
def fnMapInsertAllUptoRow : OpenClaim := { program := "ytcgcfenenkdhlaa", sum := "fef92ac6c8f1eaffdeb910c333ba92434b279d9831dca87427242de78487ecbd", func := "lib-loomstrand/laws.FnMapInsertAll", spec := "fnMapInsertAll", inPlace := ["internal/reflectlite.ValueOf", "internal/reflectlite.Swapper", "(internal/reflectlite.Value).Len"], unfollowed := true, recurses := true, apart := false, narrowed := true }
def FnMapInsertAllUptoSaid : Prop := fnMapInsertAllUptoRow.holds Try.pinned (OpenSpec.upto fnMapInsertAllSpec)

/-- 'laws.FnMapInsertApart', WHERE WHAT IT READS IS OF BULK AT MOST 1048576: true; the input reads as it did. -/
def fnMapInsertApartUptoRow : OpenClaim := { program := "ytcgcfenenkdhlaa", sum := "fef92ac6c8f1eaffdeb910c333ba92434b279d9831dca87427242de78487ecbd", func := "lib-loomstrand/laws.FnMapInsertApart", spec := "fnMapInsertApart", inPlace := ["internal/reflectlite.ValueOf", "internal/reflectlite.Swapper", "(internal/reflectlite.Value).Len"], unfollowed := true, recurses := true, apart := false, narrowed := true }
def FnMapInsertApartUptoSaid : Prop := fnMapInsertApartUptoRow.holds Try.pinned (OpenSpec.upto fnMapInsertApartSpec)

/-- 'laws.FnMapInsertTwice', WHERE WHAT IT READS IS OF BULK AT MOST 1048576: true; the input reads as it did. -/
def fnMapInsertTwiceUptoRow : OpenClaim := { program := "ytcgcfenenkdhlaa", sum := "fef92ac6c8f1eaffdeb910c333ba92434b279d9831dca87427242de78487ecbd", func := "lib-loomstrand/laws.FnMapInsertTwice", spec := "fnMapInsertTwice", inPlace := ["internal/reflectlite.ValueOf", "internal/reflectlite.Swapper", "(internal/reflectlite.Value).Len"], unfollowed := true, recurses := true, apart := false, narrowed := true }
def FnMapInsertTwiceUptoSaid : Prop := fnMapInsertTwiceUptoRow.holds Try.pinned (OpenSpec.upto fnMapInsertTwiceSpec)

/-- 'laws.FnMapOfAll', WHERE WHAT IT READS IS OF BULK AT MOST 1048576: true; the input reads as it did. -/
def fnMapOfAllUptoRow : OpenClaim := { program := "ytcgcfenenkdhlaa", sum := "fef92ac6c8f1eaffdeb910c333ba92434b279d9831dca87427242de78487ecbd", func := "lib-loomstrand/laws.FnMapOfAll", spec := "fnMapOfAll", inPlace := ["internal/reflectlite.ValueOf", "internal/reflectlite.Swapper", "(internal/reflectlite.Value).Len"], unfollowed := true, recurses := true, apart := false, narrowed := true }
def FnMapOfAllUptoSaid : Prop := fnMapOfAllUptoRow.holds Try.pinned (OpenSpec.upto fnMapOfAllSpec)

/-- 'laws.FnMapCollectMapAll', WHERE WHAT IT READS IS OF BULK AT MOST 1048576: true; the input reads as it did. -/
def fnMapCollectMapAllUptoRow : OpenClaim := { program := "ytcgcfenenkdhlaa", sum := "fef92ac6c8f1eaffdeb910c333ba92434b279d9831dca87427242de78487ecbd", func := "lib-loomstrand/laws.FnMapCollectMapAll", spec := "fnMapCollectMapAll", inPlace := ["internal/reflectlite.ValueOf", "internal/reflectlite.Swapper", "(internal/reflectlite.Value).Len"], unfollowed := true, recurses := true, apart := false, narrowed := true }
def FnMapCollectMapAllUptoSaid : Prop := fnMapCollectMapAllUptoRow.holds Try.pinned (OpenSpec.upto fnMapCollectMapAllSpec)

end Rows
end Go.Proofs.Ytcgcfenenkdhlaa
