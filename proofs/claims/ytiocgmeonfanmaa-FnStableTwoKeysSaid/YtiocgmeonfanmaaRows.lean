/-
  No cell of these rows narrows 'for every input' (looked for: loops, veiled, ifaces, maps, wideKeys, modest, calm, conditions, laid).
  DERIVED. THE GIVEN ROWS OF THIS SEAT. 8 by the template 'for every input the law returns true; each argument reads behind the call as it read before'; 0 by the template 'total and deterministic' (their statements: YtiocgmeonfanmaaTotals.lean).
  GIVEN WITH THE SEED: the statements are not yours to turn. If you find one false, say at which input.
  Laid BY PROGRAM, IN A SANDBOX (cutbox-rows.mjs): the forced cells as the released guide's own fill.sh prints them over the translation 6878cb12d4d6e047… (all of the seat's roots in one cut). By AI agents, Wed Nov 11 2026. No macro, syntax, notation, axiom, sorry.
-/
import Derived.Test.YtiocgmeonfanmaaChecked
import GoSem.Claim
import GoSem.ClaimJoined
import GoSem.ClaimMapViews
import Derived.JoinedTies
import Derived.KernelRfl
namespace Go.Proofs.Ytiocgmeonfanmaa
/- THE CELL 'sum', in the pinned program and in every row, IS THE sha256 OF THE DUMP (.gsa) THAT YtiocgmeonfanmaaProg.lean LOADS. Nothing in Lean hashes anything: it is a label: what it is worth is what the hold of that sum in a sandbox is worth. -/
noncomputable def Try.pinned : Pinned := { name := "ytiocgmeonfanmaa", sum := "6878cb12d4d6e0476fb629c6934c52e68b9e05bc093409de18cfdbbbe857fa15", checked := Try.checked }
namespace Rows
def none {H : Type} : Left H := { results := [], args := [] }

/-- 'laws.FnTwoSorts': WHATEVER THE INPUT: true; the input reads as it did. -/
def fnTwoSortsSpec : ChangeSpec := { name := "fnTwoSorts", fn := fun _ => fun
  | [d1, d2] => { results := [.lit (.bool true)], args := [d1, d2] }
  | _ => none }
def fnTwoSortsRow : OpenClaim := { program := "ytiocgmeonfanmaa", sum := "6878cb12d4d6e0476fb629c6934c52e68b9e05bc093409de18cfdbbbe857fa15", func := "lib-loomstrand/laws.FnTwoSorts", spec := "fnTwoSorts", unfollowed := true, recurses := true, apart := false }
def FnTwoSortsSaid : Prop := fnTwoSortsRow.holds Try.pinned (OpenSpec.ofChange fnTwoSortsSpec)

/-- ITS FALSE NEIGHBOUR: 'it returns false'. Refute it at one input. -/
def fnTwoSortsWrong : ChangeSpec := { name := "fnTwoSorts", fn := fun _ => fun
  | [d1, d2] => { results := [.lit (.bool false)], args := [d1, d2] }
  | _ => none }
def FnTwoSortsWrongFalsely : Prop := fnTwoSortsRow.holds Try.pinned (OpenSpec.ofChange fnTwoSortsWrong)

/-- 'laws.FnSortedStableFunc': WHATEVER THE INPUT: true; the input reads as it did. -/
def fnSortedStableFuncSpec : ChangeSpec := { name := "fnSortedStableFunc", fn := fun _ => fun
  | [d1, d2] => { results := [.lit (.bool true)], args := [d1, d2] }
  | _ => none }
def fnSortedStableFuncRow : OpenClaim := { program := "ytiocgmeonfanmaa", sum := "6878cb12d4d6e0476fb629c6934c52e68b9e05bc093409de18cfdbbbe857fa15", func := "lib-loomstrand/laws.FnSortedStableFunc", spec := "fnSortedStableFunc", unfollowed := true, recurses := true, apart := false }
def FnSortedStableFuncSaid : Prop := fnSortedStableFuncRow.holds Try.pinned (OpenSpec.ofChange fnSortedStableFuncSpec)

/-- ITS FALSE NEIGHBOUR: 'it returns false'. Refute it at one input. -/
def fnSortedStableFuncWrong : ChangeSpec := { name := "fnSortedStableFunc", fn := fun _ => fun
  | [d1, d2] => { results := [.lit (.bool false)], args := [d1, d2] }
  | _ => none }
def FnSortedStableFuncWrongFalsely : Prop := fnSortedStableFuncRow.holds Try.pinned (OpenSpec.ofChange fnSortedStableFuncWrong)

/-- 'laws.FnSortedStableFuncAny': WHATEVER THE INPUT: true; the input reads as it did. -/
def fnSortedStableFuncAnySpec : ChangeSpec := { name := "fnSortedStableFuncAny", fn := fun _ => fun
  | [d1, d2] => { results := [.lit (.bool true)], args := [d1, d2] }
  | _ => none }
def fnSortedStableFuncAnyRow : OpenClaim := { program := "ytiocgmeonfanmaa", sum := "6878cb12d4d6e0476fb629c6934c52e68b9e05bc093409de18cfdbbbe857fa15", func := "lib-loomstrand/laws.FnSortedStableFuncAny", spec := "fnSortedStableFuncAny", unfollowed := true, recurses := true, apart := false }
def FnSortedStableFuncAnySaid : Prop := fnSortedStableFuncAnyRow.holds Try.pinned (OpenSpec.ofChange fnSortedStableFuncAnySpec)

/-- ITS FALSE NEIGHBOUR: 'it returns false'. Refute it at one input. -/
def fnSortedStableFuncAnyWrong : ChangeSpec := { name := "fnSortedStableFuncAny", fn := fun _ => fun
  | [d1, d2] => { results := [.lit (.bool false)], args := [d1, d2] }
  | _ => none }
def FnSortedStableFuncAnyWrongFalsely : Prop := fnSortedStableFuncAnyRow.holds Try.pinned (OpenSpec.ofChange fnSortedStableFuncAnyWrong)

/-- 'laws.FnStableAgain': WHATEVER THE INPUT: true; the input reads as it did. -/
def fnStableAgainSpec : ChangeSpec := { name := "fnStableAgain", fn := fun _ => fun
  | [d1, d2] => { results := [.lit (.bool true)], args := [d1, d2] }
  | _ => none }
def fnStableAgainRow : OpenClaim := { program := "ytiocgmeonfanmaa", sum := "6878cb12d4d6e0476fb629c6934c52e68b9e05bc093409de18cfdbbbe857fa15", func := "lib-loomstrand/laws.FnStableAgain", spec := "fnStableAgain", unfollowed := true, recurses := true, apart := false }
def FnStableAgainSaid : Prop := fnStableAgainRow.holds Try.pinned (OpenSpec.ofChange fnStableAgainSpec)

/-- ITS FALSE NEIGHBOUR: 'it returns false'. Refute it at one input. -/
def fnStableAgainWrong : ChangeSpec := { name := "fnStableAgain", fn := fun _ => fun
  | [d1, d2] => { results := [.lit (.bool false)], args := [d1, d2] }
  | _ => none }
def FnStableAgainWrongFalsely : Prop := fnStableAgainRow.holds Try.pinned (OpenSpec.ofChange fnStableAgainWrong)

/-- 'laws.FnStableTwoKeys': WHATEVER THE INPUT: true; the input reads as it did. -/
def fnStableTwoKeysSpec : ChangeSpec := { name := "fnStableTwoKeys", fn := fun _ => fun
  | [d1, d2, d3] => { results := [.lit (.bool true)], args := [d1, d2, d3] }
  | _ => none }
def fnStableTwoKeysRow : OpenClaim := { program := "ytiocgmeonfanmaa", sum := "6878cb12d4d6e0476fb629c6934c52e68b9e05bc093409de18cfdbbbe857fa15", func := "lib-loomstrand/laws.FnStableTwoKeys", spec := "fnStableTwoKeys", unfollowed := true, recurses := true, apart := false }
def FnStableTwoKeysSaid : Prop := fnStableTwoKeysRow.holds Try.pinned (OpenSpec.ofChange fnStableTwoKeysSpec)

/-- ITS FALSE NEIGHBOUR: 'it returns false'. Refute it at one input. -/
def fnStableTwoKeysWrong : ChangeSpec := { name := "fnStableTwoKeys", fn := fun _ => fun
  | [d1, d2, d3] => { results := [.lit (.bool false)], args := [d1, d2, d3] }
  | _ => none }
def FnStableTwoKeysWrongFalsely : Prop := fnStableTwoKeysRow.holds Try.pinned (OpenSpec.ofChange fnStableTwoKeysWrong)

/-- 'laws.FnSortedFunc': WHATEVER THE INPUT: true; the input reads as it did. -/
def fnSortedFuncSpec : ChangeSpec := { name := "fnSortedFunc", fn := fun _ => fun
  | [d1, d2] => { results := [.lit (.bool true)], args := [d1, d2] }
  | _ => none }
def fnSortedFuncRow : OpenClaim := { program := "ytiocgmeonfanmaa", sum := "6878cb12d4d6e0476fb629c6934c52e68b9e05bc093409de18cfdbbbe857fa15", func := "lib-loomstrand/laws.FnSortedFunc", spec := "fnSortedFunc", unfollowed := true, recurses := true, apart := false }
def FnSortedFuncSaid : Prop := fnSortedFuncRow.holds Try.pinned (OpenSpec.ofChange fnSortedFuncSpec)

/-- ITS FALSE NEIGHBOUR: 'it returns false'. Refute it at one input. -/
def fnSortedFuncWrong : ChangeSpec := { name := "fnSortedFunc", fn := fun _ => fun
  | [d1, d2] => { results := [.lit (.bool false)], args := [d1, d2] }
  | _ => none }
def FnSortedFuncWrongFalsely : Prop := fnSortedFuncRow.holds Try.pinned (OpenSpec.ofChange fnSortedFuncWrong)

/-- 'laws.FnSortedFuncAny': WHATEVER THE INPUT: true; the input reads as it did. -/
def fnSortedFuncAnySpec : ChangeSpec := { name := "fnSortedFuncAny", fn := fun _ => fun
  | [d1, d2] => { results := [.lit (.bool true)], args := [d1, d2] }
  | _ => none }
def fnSortedFuncAnyRow : OpenClaim := { program := "ytiocgmeonfanmaa", sum := "6878cb12d4d6e0476fb629c6934c52e68b9e05bc093409de18cfdbbbe857fa15", func := "lib-loomstrand/laws.FnSortedFuncAny", spec := "fnSortedFuncAny", unfollowed := true, recurses := true, apart := false }
def FnSortedFuncAnySaid : Prop := fnSortedFuncAnyRow.holds Try.pinned (OpenSpec.ofChange fnSortedFuncAnySpec)

/-- ITS FALSE NEIGHBOUR: 'it returns false'. Refute it at one input. -/
def fnSortedFuncAnyWrong : ChangeSpec := { name := "fnSortedFuncAny", fn := fun _ => fun
  | [d1, d2] => { results := [.lit (.bool false)], args := [d1, d2] }
  | _ => none }
def FnSortedFuncAnyWrongFalsely : Prop := fnSortedFuncAnyRow.holds Try.pinned (OpenSpec.ofChange fnSortedFuncAnyWrong)

/-- 'laws.FnThreeSorts': WHATEVER THE INPUT: true; the input reads as it did. -/
def fnThreeSortsSpec : ChangeSpec := { name := "fnThreeSorts", fn := fun _ => fun
  | [d] => { results := [.lit (.bool true)], args := [d] }
  | _ => none }
def fnThreeSortsRow : OpenClaim := { program := "ytiocgmeonfanmaa", sum := "6878cb12d4d6e0476fb629c6934c52e68b9e05bc093409de18cfdbbbe857fa15", func := "lib-loomstrand/laws.FnThreeSorts", spec := "fnThreeSorts", unfollowed := true, recurses := true, apart := false }
def FnThreeSortsSaid : Prop := fnThreeSortsRow.holds Try.pinned (OpenSpec.ofChange fnThreeSortsSpec)

/-- ITS FALSE NEIGHBOUR: 'it returns false'. Refute it at one input. -/
def fnThreeSortsWrong : ChangeSpec := { name := "fnThreeSorts", fn := fun _ => fun
  | [d] => { results := [.lit (.bool false)], args := [d] }
  | _ => none }
def FnThreeSortsWrongFalsely : Prop := fnThreeSortsRow.holds Try.pinned (OpenSpec.ofChange fnThreeSortsWrong)

/- THE SECOND FORM. 'bulk': how many values and letters a reading holds, each counted each time it is reached (what is shared counts as often as it is met; a slice's spare places count too). A statement '..UptoSaid' is the law's where the arguments, and the package variables that the reading takes, are together of bulk at most 1048576: NARROWER than '..Said'. Prove '..Said' where nothing that the law and all that it calls make is longer than what came in: it says more and counts as full. Else prove '..UptoSaid'. A law counts once. -/
mutual
def uptoBulk {H : Type} : DataW H → Nat
  | .lit (.string bytes) => bytes.length + 1
  | .lit _ => 1
  | .nil => 1
  | .ptr d => uptoBulk d + 1
  | .slice elems spare => uptoBulkAll elems + uptoBulkAll spare + 1
  | .agg parts => uptoBulkAll parts + 1
  | .iface _ d => uptoBulk d + 1
  | .map entries => uptoBulkEntries entries + 1
  | .held _ => 1
def uptoBulkAll {H : Type} : List (DataW H) → Nat
  | [] => 0
  | d :: r => uptoBulk d + uptoBulkAll r
def uptoBulkEntries {H : Type} : List (Lit × DataW H) → Nat
  | [] => 0
  | x :: r => uptoBulkEntry x + uptoBulkEntries r
def uptoBulkEntry {H : Type} : Lit × DataW H → Nat
  | (.string bytes, d) => bytes.length + uptoBulk d + 1
  | (_, d) => uptoBulk d + 1
 end
def uptoSmall : (H : Type) → List (DataW H) → Bool := fun _ ds => decide (uptoBulkAll ds ≤ 1048576)
def OpenSpec.upto (s : _root_.Go.ChangeSpec) : _root_.Go.OpenSpec := { _root_.Go.OpenSpec.ofChange s with cond := some uptoSmall }

/-- 'laws.FnTwoSorts', WHERE WHAT IT READS IS OF BULK AT MOST 1048576: true; the input reads as it did. -/
def fnTwoSortsUptoRow : OpenClaim := { program := "ytiocgmeonfanmaa", sum := "6878cb12d4d6e0476fb629c6934c52e68b9e05bc093409de18cfdbbbe857fa15", func := "lib-loomstrand/laws.FnTwoSorts", spec := "fnTwoSorts", unfollowed := true, recurses := true, apart := false, narrowed := true }
def FnTwoSortsUptoSaid : Prop := fnTwoSortsUptoRow.holds Try.pinned (OpenSpec.upto fnTwoSortsSpec)

/-- 'laws.FnSortedStableFunc', WHERE WHAT IT READS IS OF BULK AT MOST 1048576: true; the input reads as it did. -/
def fnSortedStableFuncUptoRow : OpenClaim := { program := "ytiocgmeonfanmaa", sum := "6878cb12d4d6e0476fb629c6934c52e68b9e05bc093409de18cfdbbbe857fa15", func := "lib-loomstrand/laws.FnSortedStableFunc", spec := "fnSortedStableFunc", unfollowed := true, recurses := true, apart := false, narrowed := true }
def FnSortedStableFuncUptoSaid : Prop := fnSortedStableFuncUptoRow.holds Try.pinned (OpenSpec.upto fnSortedStableFuncSpec)

/-- 'laws.FnSortedStableFuncAny', WHERE WHAT IT READS IS OF BULK AT MOST 1048576: true; the input reads as it did. -/
def fnSortedStableFuncAnyUptoRow : OpenClaim := { program := "ytiocgmeonfanmaa", sum := "6878cb12d4d6e0476fb629c6934c52e68b9e05bc093409de18cfdbbbe857fa15", func := "lib-loomstrand/laws.FnSortedStableFuncAny", spec := "fnSortedStableFuncAny", unfollowed := true, recurses := true, apart := false, narrowed := true }
def FnSortedStableFuncAnyUptoSaid : Prop := fnSortedStableFuncAnyUptoRow.holds Try.pinned (OpenSpec.upto fnSortedStableFuncAnySpec)

/-- 'laws.FnStableAgain', WHERE WHAT IT READS IS OF BULK AT MOST 1048576: true; the input reads as it did. -/
def fnStableAgainUptoRow : OpenClaim := { program := "ytiocgmeonfanmaa", sum := "6878cb12d4d6e0476fb629c6934c52e68b9e05bc093409de18cfdbbbe857fa15", func := "lib-loomstrand/laws.FnStableAgain", spec := "fnStableAgain", unfollowed := true, recurses := true, apart := false, narrowed := true }
def FnStableAgainUptoSaid : Prop := fnStableAgainUptoRow.holds Try.pinned (OpenSpec.upto fnStableAgainSpec)

/-- 'laws.FnStableTwoKeys', WHERE WHAT IT READS IS OF BULK AT MOST 1048576: true; the input reads as it did. -/
def fnStableTwoKeysUptoRow : OpenClaim := { program := "ytiocgmeonfanmaa", sum := "6878cb12d4d6e0476fb629c6934c52e68b9e05bc093409de18cfdbbbe857fa15", func := "lib-loomstrand/laws.FnStableTwoKeys", spec := "fnStableTwoKeys", unfollowed := true, recurses := true, apart := false, narrowed := true }
def FnStableTwoKeysUptoSaid : Prop := fnStableTwoKeysUptoRow.holds Try.pinned (OpenSpec.upto fnStableTwoKeysSpec)

/-- 'laws.FnSortedFunc', WHERE WHAT IT READS IS OF BULK AT MOST 1048576: true; the input reads as it did. -/
def fnSortedFuncUptoRow : OpenClaim := { program := "ytiocgmeonfanmaa", sum := "6878cb12d4d6e0476fb629c6934c52e68b9e05bc093409de18cfdbbbe857fa15", func := "lib-loomstrand/laws.FnSortedFunc", spec := "fnSortedFunc", unfollowed := true, recurses := true, apart := false, narrowed := true }
def FnSortedFuncUptoSaid : Prop := fnSortedFuncUptoRow.holds Try.pinned (OpenSpec.upto fnSortedFuncSpec)

/-- 'laws.FnSortedFuncAny', WHERE WHAT IT READS IS OF BULK AT MOST 1048576: true; the input reads as it did. -/
def fnSortedFuncAnyUptoRow : OpenClaim := { program := "ytiocgmeonfanmaa", sum := "6878cb12d4d6e0476fb629c6934c52e68b9e05bc093409de18cfdbbbe857fa15", func := "lib-loomstrand/laws.FnSortedFuncAny", spec := "fnSortedFuncAny", unfollowed := true, recurses := true, apart := false, narrowed := true }
def FnSortedFuncAnyUptoSaid : Prop := fnSortedFuncAnyUptoRow.holds Try.pinned (OpenSpec.upto fnSortedFuncAnySpec)

/-- 'laws.FnThreeSorts', WHERE WHAT IT READS IS OF BULK AT MOST 1048576: true; the input reads as it did. -/
def fnThreeSortsUptoRow : OpenClaim := { program := "ytiocgmeonfanmaa", sum := "6878cb12d4d6e0476fb629c6934c52e68b9e05bc093409de18cfdbbbe857fa15", func := "lib-loomstrand/laws.FnThreeSorts", spec := "fnThreeSorts", unfollowed := true, recurses := true, apart := false, narrowed := true }
def FnThreeSortsUptoSaid : Prop := fnThreeSortsUptoRow.holds Try.pinned (OpenSpec.upto fnThreeSortsSpec)

end Rows
end Go.Proofs.Ytiocgmeonfanmaa
