/-
  No cell of these rows narrows 'for every input' (looked for: loops, veiled, ifaces, maps, wideKeys, modest, calm, conditions, laid).
  DERIVED. THE GIVEN ROWS OF THIS SEAT. 14 by the template 'for every input the law returns true; each argument reads behind the call as it read before'; 0 by the template 'total and deterministic' (their statements: YtbgkchjephioiaaTotals.lean).
  GIVEN WITH THE SEED: the statements are not yours to turn. If you find one false, say at which input.
  Laid BY PROGRAM, IN A SANDBOX (cutbox-rows.mjs): the forced cells as the released guide's own fill.sh prints them over the translation 67b1ac498b5ffa05… (all of the seat's roots in one cut). By AI agents, Wed Nov 11 2026. No macro, syntax, notation, axiom, sorry.
-/
import Derived.Test.YtbgkchjephioiaaChecked
import GoSem.Claim
import GoSem.ClaimJoined
import GoSem.ClaimMapViews
import Derived.JoinedTies
import Derived.KernelRfl
namespace Go.Proofs.Ytbgkchjephioiaa
/- THE CELL 'sum', in the pinned program and in every row, IS THE sha256 OF THE DUMP (.gsa) THAT YtbgkchjephioiaaProg.lean LOADS. Nothing in Lean hashes anything: it is a label: what it is worth is what the hold of that sum in a sandbox is worth. -/
noncomputable def Try.pinned : Pinned := { name := "ytbgkchjephioiaa", sum := "67b1ac498b5ffa0506b9ce8ee06c88456ef24b34b0e8f3bf9af8904a01ad327d", checked := Try.checked }
namespace Rows
def none {H : Type} : Left H := { results := [], args := [] }

/-- 'laws.FnAll': WHATEVER THE INPUT: true; the input reads as it did. -/
def fnAllSpec : ChangeSpec := { name := "fnAll", fn := fun _ => fun
  | [d1, d2] => { results := [.lit (.bool true)], args := [d1, d2] }
  | _ => none }
def fnAllRow : OpenClaim := { program := "ytbgkchjephioiaa", sum := "67b1ac498b5ffa0506b9ce8ee06c88456ef24b34b0e8f3bf9af8904a01ad327d", func := "lib-loomstrand/laws.FnAll", spec := "fnAll", unfollowed := true, recurses := true, apart := false }
def FnAllSaid : Prop := fnAllRow.holds Try.pinned (OpenSpec.ofChange fnAllSpec)

/-- ITS FALSE NEIGHBOUR: 'it returns false'. Refute it at one input. -/
def fnAllWrong : ChangeSpec := { name := "fnAll", fn := fun _ => fun
  | [d1, d2] => { results := [.lit (.bool false)], args := [d1, d2] }
  | _ => none }
def FnAllWrongFalsely : Prop := fnAllRow.holds Try.pinned (OpenSpec.ofChange fnAllWrong)

/-- 'laws.FnBackward': WHATEVER THE INPUT: true; the input reads as it did. -/
def fnBackwardSpec : ChangeSpec := { name := "fnBackward", fn := fun _ => fun
  | [d1, d2] => { results := [.lit (.bool true)], args := [d1, d2] }
  | _ => none }
def fnBackwardRow : OpenClaim := { program := "ytbgkchjephioiaa", sum := "67b1ac498b5ffa0506b9ce8ee06c88456ef24b34b0e8f3bf9af8904a01ad327d", func := "lib-loomstrand/laws.FnBackward", spec := "fnBackward", unfollowed := true, recurses := true, apart := false }
def FnBackwardSaid : Prop := fnBackwardRow.holds Try.pinned (OpenSpec.ofChange fnBackwardSpec)

/-- ITS FALSE NEIGHBOUR: 'it returns false'. Refute it at one input. -/
def fnBackwardWrong : ChangeSpec := { name := "fnBackward", fn := fun _ => fun
  | [d1, d2] => { results := [.lit (.bool false)], args := [d1, d2] }
  | _ => none }
def FnBackwardWrongFalsely : Prop := fnBackwardRow.holds Try.pinned (OpenSpec.ofChange fnBackwardWrong)

/-- 'laws.FnValues': WHATEVER THE INPUT: true; the input reads as it did. -/
def fnValuesSpec : ChangeSpec := { name := "fnValues", fn := fun _ => fun
  | [d1, d2] => { results := [.lit (.bool true)], args := [d1, d2] }
  | _ => none }
def fnValuesRow : OpenClaim := { program := "ytbgkchjephioiaa", sum := "67b1ac498b5ffa0506b9ce8ee06c88456ef24b34b0e8f3bf9af8904a01ad327d", func := "lib-loomstrand/laws.FnValues", spec := "fnValues", unfollowed := true, recurses := true, apart := false }
def FnValuesSaid : Prop := fnValuesRow.holds Try.pinned (OpenSpec.ofChange fnValuesSpec)

/-- ITS FALSE NEIGHBOUR: 'it returns false'. Refute it at one input. -/
def fnValuesWrong : ChangeSpec := { name := "fnValues", fn := fun _ => fun
  | [d1, d2] => { results := [.lit (.bool false)], args := [d1, d2] }
  | _ => none }
def FnValuesWrongFalsely : Prop := fnValuesRow.holds Try.pinned (OpenSpec.ofChange fnValuesWrong)

/-- 'laws.FnValuesTwice': WHATEVER THE INPUT: true; the input reads as it did. -/
def fnValuesTwiceSpec : ChangeSpec := { name := "fnValuesTwice", fn := fun _ => fun
  | [d1, d2] => { results := [.lit (.bool true)], args := [d1, d2] }
  | _ => none }
def fnValuesTwiceRow : OpenClaim := { program := "ytbgkchjephioiaa", sum := "67b1ac498b5ffa0506b9ce8ee06c88456ef24b34b0e8f3bf9af8904a01ad327d", func := "lib-loomstrand/laws.FnValuesTwice", spec := "fnValuesTwice", unfollowed := true, recurses := true, apart := false }
def FnValuesTwiceSaid : Prop := fnValuesTwiceRow.holds Try.pinned (OpenSpec.ofChange fnValuesTwiceSpec)

/-- ITS FALSE NEIGHBOUR: 'it returns false'. Refute it at one input. -/
def fnValuesTwiceWrong : ChangeSpec := { name := "fnValuesTwice", fn := fun _ => fun
  | [d1, d2] => { results := [.lit (.bool false)], args := [d1, d2] }
  | _ => none }
def FnValuesTwiceWrongFalsely : Prop := fnValuesTwiceRow.holds Try.pinned (OpenSpec.ofChange fnValuesTwiceWrong)

/-- 'laws.FnCollect': WHATEVER THE INPUT: true; the input reads as it did. -/
def fnCollectSpec : ChangeSpec := { name := "fnCollect", fn := fun _ => fun
  | [d] => { results := [.lit (.bool true)], args := [d] }
  | _ => none }
def fnCollectRow : OpenClaim := { program := "ytbgkchjephioiaa", sum := "67b1ac498b5ffa0506b9ce8ee06c88456ef24b34b0e8f3bf9af8904a01ad327d", func := "lib-loomstrand/laws.FnCollect", spec := "fnCollect", unfollowed := true, recurses := true, apart := false }
def FnCollectSaid : Prop := fnCollectRow.holds Try.pinned (OpenSpec.ofChange fnCollectSpec)

/-- ITS FALSE NEIGHBOUR: 'it returns false'. Refute it at one input. -/
def fnCollectWrong : ChangeSpec := { name := "fnCollect", fn := fun _ => fun
  | [d] => { results := [.lit (.bool false)], args := [d] }
  | _ => none }
def FnCollectWrongFalsely : Prop := fnCollectRow.holds Try.pinned (OpenSpec.ofChange fnCollectWrong)

/-- 'laws.FnAppendSeq': WHATEVER THE INPUT: true; the input reads as it did. -/
def fnAppendSeqSpec : ChangeSpec := { name := "fnAppendSeq", fn := fun _ => fun
  | [d1, d2, d3, d4] => { results := [.lit (.bool true)], args := [d1, d2, d3, d4] }
  | _ => none }
def fnAppendSeqRow : OpenClaim := { program := "ytbgkchjephioiaa", sum := "67b1ac498b5ffa0506b9ce8ee06c88456ef24b34b0e8f3bf9af8904a01ad327d", func := "lib-loomstrand/laws.FnAppendSeq", spec := "fnAppendSeq", unfollowed := true, recurses := true, apart := false }
def FnAppendSeqSaid : Prop := fnAppendSeqRow.holds Try.pinned (OpenSpec.ofChange fnAppendSeqSpec)

/-- ITS FALSE NEIGHBOUR: 'it returns false'. Refute it at one input. -/
def fnAppendSeqWrong : ChangeSpec := { name := "fnAppendSeq", fn := fun _ => fun
  | [d1, d2, d3, d4] => { results := [.lit (.bool false)], args := [d1, d2, d3, d4] }
  | _ => none }
def FnAppendSeqWrongFalsely : Prop := fnAppendSeqRow.holds Try.pinned (OpenSpec.ofChange fnAppendSeqWrong)

/-- 'laws.FnAppendTwice': WHATEVER THE INPUT: true; the input reads as it did. -/
def fnAppendTwiceSpec : ChangeSpec := { name := "fnAppendTwice", fn := fun _ => fun
  | [d1, d2, d3, d4] => { results := [.lit (.bool true)], args := [d1, d2, d3, d4] }
  | _ => none }
def fnAppendTwiceRow : OpenClaim := { program := "ytbgkchjephioiaa", sum := "67b1ac498b5ffa0506b9ce8ee06c88456ef24b34b0e8f3bf9af8904a01ad327d", func := "lib-loomstrand/laws.FnAppendTwice", spec := "fnAppendTwice", unfollowed := true, recurses := true, apart := false }
def FnAppendTwiceSaid : Prop := fnAppendTwiceRow.holds Try.pinned (OpenSpec.ofChange fnAppendTwiceSpec)

/-- ITS FALSE NEIGHBOUR: 'it returns false'. Refute it at one input. -/
def fnAppendTwiceWrong : ChangeSpec := { name := "fnAppendTwice", fn := fun _ => fun
  | [d1, d2, d3, d4] => { results := [.lit (.bool false)], args := [d1, d2, d3, d4] }
  | _ => none }
def FnAppendTwiceWrongFalsely : Prop := fnAppendTwiceRow.holds Try.pinned (OpenSpec.ofChange fnAppendTwiceWrong)

/-- 'laws.FnConcat': WHATEVER THE INPUT: true; the input reads as it did. -/
def fnConcatSpec : ChangeSpec := { name := "fnConcat", fn := fun _ => fun
  | [d] => { results := [.lit (.bool true)], args := [d] }
  | _ => none }
def fnConcatRow : OpenClaim := { program := "ytbgkchjephioiaa", sum := "67b1ac498b5ffa0506b9ce8ee06c88456ef24b34b0e8f3bf9af8904a01ad327d", func := "lib-loomstrand/laws.FnConcat", spec := "fnConcat", apart := false }
def FnConcatSaid : Prop := fnConcatRow.holds Try.pinned (OpenSpec.ofChange fnConcatSpec)

/-- ITS FALSE NEIGHBOUR: 'it returns false'. Refute it at one input. -/
def fnConcatWrong : ChangeSpec := { name := "fnConcat", fn := fun _ => fun
  | [d] => { results := [.lit (.bool false)], args := [d] }
  | _ => none }
def FnConcatWrongFalsely : Prop := fnConcatRow.holds Try.pinned (OpenSpec.ofChange fnConcatWrong)

/-- 'laws.FnConcatParts': WHATEVER THE INPUT: true; the input reads as it did. -/
def fnConcatPartsSpec : ChangeSpec := { name := "fnConcatParts", fn := fun _ => fun
  | [d1, d2] => { results := [.lit (.bool true)], args := [d1, d2] }
  | _ => none }
def fnConcatPartsRow : OpenClaim := { program := "ytbgkchjephioiaa", sum := "67b1ac498b5ffa0506b9ce8ee06c88456ef24b34b0e8f3bf9af8904a01ad327d", func := "lib-loomstrand/laws.FnConcatParts", spec := "fnConcatParts", apart := false }
def FnConcatPartsSaid : Prop := fnConcatPartsRow.holds Try.pinned (OpenSpec.ofChange fnConcatPartsSpec)

/-- ITS FALSE NEIGHBOUR: 'it returns false'. Refute it at one input. -/
def fnConcatPartsWrong : ChangeSpec := { name := "fnConcatParts", fn := fun _ => fun
  | [d1, d2] => { results := [.lit (.bool false)], args := [d1, d2] }
  | _ => none }
def FnConcatPartsWrongFalsely : Prop := fnConcatPartsRow.holds Try.pinned (OpenSpec.ofChange fnConcatPartsWrong)

/-- 'laws.FnAllAndValues': WHATEVER THE INPUT: true; the input reads as it did. -/
def fnAllAndValuesSpec : ChangeSpec := { name := "fnAllAndValues", fn := fun _ => fun
  | [d] => { results := [.lit (.bool true)], args := [d] }
  | _ => none }
def fnAllAndValuesRow : OpenClaim := { program := "ytbgkchjephioiaa", sum := "67b1ac498b5ffa0506b9ce8ee06c88456ef24b34b0e8f3bf9af8904a01ad327d", func := "lib-loomstrand/laws.FnAllAndValues", spec := "fnAllAndValues", unfollowed := true, recurses := true, apart := false }
def FnAllAndValuesSaid : Prop := fnAllAndValuesRow.holds Try.pinned (OpenSpec.ofChange fnAllAndValuesSpec)

/-- ITS FALSE NEIGHBOUR: 'it returns false'. Refute it at one input. -/
def fnAllAndValuesWrong : ChangeSpec := { name := "fnAllAndValues", fn := fun _ => fun
  | [d] => { results := [.lit (.bool false)], args := [d] }
  | _ => none }
def FnAllAndValuesWrongFalsely : Prop := fnAllAndValuesRow.holds Try.pinned (OpenSpec.ofChange fnAllAndValuesWrong)

/-- 'laws.FnBackwardReversed': WHATEVER THE INPUT: true; the input reads as it did. -/
def fnBackwardReversedSpec : ChangeSpec := { name := "fnBackwardReversed", fn := fun _ => fun
  | [d] => { results := [.lit (.bool true)], args := [d] }
  | _ => none }
def fnBackwardReversedRow : OpenClaim := { program := "ytbgkchjephioiaa", sum := "67b1ac498b5ffa0506b9ce8ee06c88456ef24b34b0e8f3bf9af8904a01ad327d", func := "lib-loomstrand/laws.FnBackwardReversed", spec := "fnBackwardReversed", unfollowed := true, recurses := true, apart := false }
def FnBackwardReversedSaid : Prop := fnBackwardReversedRow.holds Try.pinned (OpenSpec.ofChange fnBackwardReversedSpec)

/-- ITS FALSE NEIGHBOUR: 'it returns false'. Refute it at one input. -/
def fnBackwardReversedWrong : ChangeSpec := { name := "fnBackwardReversed", fn := fun _ => fun
  | [d] => { results := [.lit (.bool false)], args := [d] }
  | _ => none }
def FnBackwardReversedWrongFalsely : Prop := fnBackwardReversedRow.holds Try.pinned (OpenSpec.ofChange fnBackwardReversedWrong)

/-- 'laws.FnCollectValues': WHATEVER THE INPUT: true; the input reads as it did. -/
def fnCollectValuesSpec : ChangeSpec := { name := "fnCollectValues", fn := fun _ => fun
  | [d] => { results := [.lit (.bool true)], args := [d] }
  | _ => none }
def fnCollectValuesRow : OpenClaim := { program := "ytbgkchjephioiaa", sum := "67b1ac498b5ffa0506b9ce8ee06c88456ef24b34b0e8f3bf9af8904a01ad327d", func := "lib-loomstrand/laws.FnCollectValues", spec := "fnCollectValues", unfollowed := true, recurses := true, apart := false }
def FnCollectValuesSaid : Prop := fnCollectValuesRow.holds Try.pinned (OpenSpec.ofChange fnCollectValuesSpec)

/-- ITS FALSE NEIGHBOUR: 'it returns false'. Refute it at one input. -/
def fnCollectValuesWrong : ChangeSpec := { name := "fnCollectValues", fn := fun _ => fun
  | [d] => { results := [.lit (.bool false)], args := [d] }
  | _ => none }
def FnCollectValuesWrongFalsely : Prop := fnCollectValuesRow.holds Try.pinned (OpenSpec.ofChange fnCollectValuesWrong)

/-- 'laws.FnConcatNew': WHATEVER THE INPUT: true; the input reads as it did. -/
def fnConcatNewSpec : ChangeSpec := { name := "fnConcatNew", fn := fun _ => fun
  | [d1, d2] => { results := [.lit (.bool true)], args := [d1, d2] }
  | _ => none }
def fnConcatNewRow : OpenClaim := { program := "ytbgkchjephioiaa", sum := "67b1ac498b5ffa0506b9ce8ee06c88456ef24b34b0e8f3bf9af8904a01ad327d", func := "lib-loomstrand/laws.FnConcatNew", spec := "fnConcatNew", apart := false }
def FnConcatNewSaid : Prop := fnConcatNewRow.holds Try.pinned (OpenSpec.ofChange fnConcatNewSpec)

/-- ITS FALSE NEIGHBOUR: 'it returns false'. Refute it at one input. -/
def fnConcatNewWrong : ChangeSpec := { name := "fnConcatNew", fn := fun _ => fun
  | [d1, d2] => { results := [.lit (.bool false)], args := [d1, d2] }
  | _ => none }
def FnConcatNewWrongFalsely : Prop := fnConcatNewRow.holds Try.pinned (OpenSpec.ofChange fnConcatNewWrong)

/-- 'laws.FnAppendCollect': WHATEVER THE INPUT: true; the input reads as it did. -/
def fnAppendCollectSpec : ChangeSpec := { name := "fnAppendCollect", fn := fun _ => fun
  | [d1, d2] => { results := [.lit (.bool true)], args := [d1, d2] }
  | _ => none }
def fnAppendCollectRow : OpenClaim := { program := "ytbgkchjephioiaa", sum := "67b1ac498b5ffa0506b9ce8ee06c88456ef24b34b0e8f3bf9af8904a01ad327d", func := "lib-loomstrand/laws.FnAppendCollect", spec := "fnAppendCollect", unfollowed := true, recurses := true, apart := false }
def FnAppendCollectSaid : Prop := fnAppendCollectRow.holds Try.pinned (OpenSpec.ofChange fnAppendCollectSpec)

/-- ITS FALSE NEIGHBOUR: 'it returns false'. Refute it at one input. -/
def fnAppendCollectWrong : ChangeSpec := { name := "fnAppendCollect", fn := fun _ => fun
  | [d1, d2] => { results := [.lit (.bool false)], args := [d1, d2] }
  | _ => none }
def FnAppendCollectWrongFalsely : Prop := fnAppendCollectRow.holds Try.pinned (OpenSpec.ofChange fnAppendCollectWrong)

/- THE SECOND FORM. 'bulk': how many values and letters a reading holds, each counted each time it is reached (what is shared counts as often as it is met; a slice's spare places count too). A statement '..UptoSaid' is the law's where the arguments, and the package variables that the reading takes, are together of bulk at most 1048576: NARROWER than '..Said'. Prove '..Said' where nothing that the law and all that it calls make is longer than what came in: it says more and counts as full. Else prove '..UptoSaid'. A law counts once. -/
mutual
def uptoBulk {H : Type} : DataW H → Nat
  | .lit (.string bytes) => bytes.length + 1
  | .lit _ => 1
  | .nil => 1
  | .ptr d => uptoBulk d + 1
  | .slice elems spare => uptoBulkAll elems + uptoBulkAll spare + 1
  | .agg parts => uptoBulkAll parts + 1
  | .iface _ d => uptoBulk d + 1
  | .map entries => uptoBulkEntries entries + 1
  | .held _ => 1
def uptoBulkAll {H : Type} : List (DataW H) → Nat
  | [] => 0
  | d :: r => uptoBulk d + uptoBulkAll r
def uptoBulkEntries {H : Type} : List (Lit × DataW H) → Nat
  | [] => 0
  | x :: r => uptoBulkEntry x + uptoBulkEntries r
def uptoBulkEntry {H : Type} : Lit × DataW H → Nat
  | (.string bytes, d) => bytes.length + uptoBulk d + 1
  | (_, d) => uptoBulk d + 1
 end
def uptoSmall : (H : Type) → List (DataW H) → Bool := fun _ ds => decide (uptoBulkAll ds ≤ 1048576)
def OpenSpec.upto (s : _root_.Go.ChangeSpec) : _root_.Go.OpenSpec := { _root_.Go.OpenSpec.ofChange s with cond := some uptoSmall }

/-- 'laws.FnAll', WHERE WHAT IT READS IS OF BULK AT MOST 1048576: true; the input reads as it did. -/
def fnAllUptoRow : OpenClaim := { program := "ytbgkchjephioiaa", sum := "67b1ac498b5ffa0506b9ce8ee06c88456ef24b34b0e8f3bf9af8904a01ad327d", func := "lib-loomstrand/laws.FnAll", spec := "fnAll", unfollowed := true, recurses := true, apart := false, narrowed := true }
def FnAllUptoSaid : Prop := fnAllUptoRow.holds Try.pinned (OpenSpec.upto fnAllSpec)

/-- 'laws.FnBackward', WHERE WHAT IT READS IS OF BULK AT MOST 1048576: true; the input reads as it did. -/
def fnBackwardUptoRow : OpenClaim := { program := "ytbgkchjephioiaa", sum := "67b1ac498b5ffa0506b9ce8ee06c88456ef24b34b0e8f3bf9af8904a01ad327d", func := "lib-loomstrand/laws.FnBackward", spec := "fnBackward", unfollowed := true, recurses := true, apart := false, narrowed := true }
def FnBackwardUptoSaid : Prop := fnBackwardUptoRow.holds Try.pinned (OpenSpec.upto fnBackwardSpec)

/-- 'laws.FnValues', WHERE WHAT IT READS IS OF BULK AT MOST 1048576: true; the input reads as it did. -/
def fnValuesUptoRow : OpenClaim := { program := "ytbgkchjephioiaa", sum := "67b1ac498b5ffa0506b9ce8ee06c88456ef24b34b0e8f3bf9af8904a01ad327d", func := "lib-loomstrand/laws.FnValues", spec := "fnValues", unfollowed := true, recurses := true, apart := false, narrowed := true }
def FnValuesUptoSaid : Prop := fnValuesUptoRow.holds Try.pinned (OpenSpec.upto fnValuesSpec)

/-- 'laws.FnValuesTwice', WHERE WHAT IT READS IS OF BULK AT MOST 1048576: true; the input reads as it did. -/
def fnValuesTwiceUptoRow : OpenClaim := { program := "ytbgkchjephioiaa", sum := "67b1ac498b5ffa0506b9ce8ee06c88456ef24b34b0e8f3bf9af8904a01ad327d", func := "lib-loomstrand/laws.FnValuesTwice", spec := "fnValuesTwice", unfollowed := true, recurses := true, apart := false, narrowed := true }
def FnValuesTwiceUptoSaid : Prop := fnValuesTwiceUptoRow.holds Try.pinned (OpenSpec.upto fnValuesTwiceSpec)

/-- 'laws.FnCollect', WHERE WHAT IT READS IS OF BULK AT MOST 1048576: true; the input reads as it did. -/
def fnCollectUptoRow : OpenClaim := { program := "ytbgkchjephioiaa", sum := "67b1ac498b5ffa0506b9ce8ee06c88456ef24b34b0e8f3bf9af8904a01ad327d", func := "lib-loomstrand/laws.FnCollect", spec := "fnCollect", unfollowed := true, recurses := true, apart := false, narrowed := true }
def FnCollectUptoSaid : Prop := fnCollectUptoRow.holds Try.pinned (OpenSpec.upto fnCollectSpec)

/-- 'laws.FnAppendSeq', WHERE WHAT IT READS IS OF BULK AT MOST 1048576: true; the input reads as it did. -/
def fnAppendSeqUptoRow : OpenClaim := { program := "ytbgkchjephioiaa", sum := "67b1ac498b5ffa0506b9ce8ee06c88456ef24b34b0e8f3bf9af8904a01ad327d", func := "lib-loomstrand/laws.FnAppendSeq", spec := "fnAppendSeq", unfollowed := true, recurses := true, apart := false, narrowed := true }
def FnAppendSeqUptoSaid : Prop := fnAppendSeqUptoRow.holds Try.pinned (OpenSpec.upto fnAppendSeqSpec)

/-- 'laws.FnAppendTwice', WHERE WHAT IT READS IS OF BULK AT MOST 1048576: true; the input reads as it did. -/
def fnAppendTwiceUptoRow : OpenClaim := { program := "ytbgkchjephioiaa", sum := "67b1ac498b5ffa0506b9ce8ee06c88456ef24b34b0e8f3bf9af8904a01ad327d", func := "lib-loomstrand/laws.FnAppendTwice", spec := "fnAppendTwice", unfollowed := true, recurses := true, apart := false, narrowed := true }
def FnAppendTwiceUptoSaid : Prop := fnAppendTwiceUptoRow.holds Try.pinned (OpenSpec.upto fnAppendTwiceSpec)

/-- 'laws.FnConcat', WHERE WHAT IT READS IS OF BULK AT MOST 1048576: true; the input reads as it did. -/
def fnConcatUptoRow : OpenClaim := { program := "ytbgkchjephioiaa", sum := "67b1ac498b5ffa0506b9ce8ee06c88456ef24b34b0e8f3bf9af8904a01ad327d", func := "lib-loomstrand/laws.FnConcat", spec := "fnConcat", apart := false, narrowed := true }
def FnConcatUptoSaid : Prop := fnConcatUptoRow.holds Try.pinned (OpenSpec.upto fnConcatSpec)

/-- 'laws.FnConcatParts', WHERE WHAT IT READS IS OF BULK AT MOST 1048576: true; the input reads as it did. -/
def fnConcatPartsUptoRow : OpenClaim := { program := "ytbgkchjephioiaa", sum := "67b1ac498b5ffa0506b9ce8ee06c88456ef24b34b0e8f3bf9af8904a01ad327d", func := "lib-loomstrand/laws.FnConcatParts", spec := "fnConcatParts", apart := false, narrowed := true }
def FnConcatPartsUptoSaid : Prop := fnConcatPartsUptoRow.holds Try.pinned (OpenSpec.upto fnConcatPartsSpec)

/-- 'laws.FnAllAndValues', WHERE WHAT IT READS IS OF BULK AT MOST 1048576: true; the input reads as it did. -/
def fnAllAndValuesUptoRow : OpenClaim := { program := "ytbgkchjephioiaa", sum := "67b1ac498b5ffa0506b9ce8ee06c88456ef24b34b0e8f3bf9af8904a01ad327d", func := "lib-loomstrand/laws.FnAllAndValues", spec := "fnAllAndValues", unfollowed := true, recurses := true, apart := false, narrowed := true }
def FnAllAndValuesUptoSaid : Prop := fnAllAndValuesUptoRow.holds Try.pinned (OpenSpec.upto fnAllAndValuesSpec)

/-- 'laws.FnBackwardReversed', WHERE WHAT IT READS IS OF BULK AT MOST 1048576: true; the input reads as it did. -/
def fnBackwardReversedUptoRow : OpenClaim := { program := "ytbgkchjephioiaa", sum := "67b1ac498b5ffa0506b9ce8ee06c88456ef24b34b0e8f3bf9af8904a01ad327d", func := "lib-loomstrand/laws.FnBackwardReversed", spec := "fnBackwardReversed", unfollowed := true, recurses := true, apart := false, narrowed := true }
def FnBackwardReversedUptoSaid : Prop := fnBackwardReversedUptoRow.holds Try.pinned (OpenSpec.upto fnBackwardReversedSpec)

/-- 'laws.FnCollectValues', WHERE WHAT IT READS IS OF BULK AT MOST 1048576: true; the input reads as it did. -/
def fnCollectValuesUptoRow : OpenClaim := { program := "ytbgkchjephioiaa", sum := "67b1ac498b5ffa0506b9ce8ee06c88456ef24b34b0e8f3bf9af8904a01ad327d", func := "lib-loomstrand/laws.FnCollectValues", spec := "fnCollectValues", unfollowed := true, recurses := true, apart := false, narrowed := true }
def FnCollectValuesUptoSaid : Prop := fnCollectValuesUptoRow.holds Try.pinned (OpenSpec.upto fnCollectValuesSpec)

/-- 'laws.FnConcatNew', WHERE WHAT IT READS IS OF BULK AT MOST 1048576: true; the input reads as it did. -/
def fnConcatNewUptoRow : OpenClaim := { program := "ytbgkchjephioiaa", sum := "67b1ac498b5ffa0506b9ce8ee06c88456ef24b34b0e8f3bf9af8904a01ad327d", func := "lib-loomstrand/laws.FnConcatNew", spec := "fnConcatNew", apart := false, narrowed := true }
def FnConcatNewUptoSaid : Prop := fnConcatNewUptoRow.holds Try.pinned (OpenSpec.upto fnConcatNewSpec)

/-- 'laws.FnAppendCollect', WHERE WHAT IT READS IS OF BULK AT MOST 1048576: true; the input reads as it did. -/
def fnAppendCollectUptoRow : OpenClaim := { program := "ytbgkchjephioiaa", sum := "67b1ac498b5ffa0506b9ce8ee06c88456ef24b34b0e8f3bf9af8904a01ad327d", func := "lib-loomstrand/laws.FnAppendCollect", spec := "fnAppendCollect", unfollowed := true, recurses := true, apart := false, narrowed := true }
def FnAppendCollectUptoSaid : Prop := fnAppendCollectUptoRow.holds Try.pinned (OpenSpec.upto fnAppendCollectSpec)

end Rows
end Go.Proofs.Ytbgkchjephioiaa
