/-
  No cell of these rows narrows 'for every input' (looked for: loops, veiled, ifaces, maps, wideKeys, modest, calm, conditions, laid).
  DERIVED. THE GIVEN ROWS OF THIS SEAT. 12 by the template 'for every input the law returns true; each argument reads behind the call as it read before'; 0 by the template 'total and deterministic' (their statements: YtiihcdoemgmjbaaTotals.lean).
  GIVEN WITH THE SEED: the statements are not yours to turn. If you find one false, say at which input.
  Laid BY PROGRAM, IN A SANDBOX (cutbox-rows.mjs): the forced cells as the released guide's own fill.sh prints them over the translation 5203e16a35955f70… (all of the seat's roots in one cut). By AI agents, Wed Nov 11 2026. No macro, syntax, notation, axiom, sorry.
-/
import Derived.Test.YtiihcdoemgmjbaaChecked
import GoSem.Claim
import GoSem.ClaimJoined
import GoSem.ClaimMapViews
import Derived.JoinedTies
import Derived.KernelRfl
namespace Go.Proofs.Ytiihcdoemgmjbaa
/- THE CELL 'sum', in the pinned program and in every row, IS THE sha256 OF THE DUMP (.gsa) THAT YtiihcdoemgmjbaaProg.lean LOADS. Nothing in Lean hashes anything: it is a label: what it is worth is what the hold of that sum in a sandbox is worth. -/
noncomputable def Try.pinned : Pinned := { name := "ytiihcdoemgmjbaa", sum := "5203e16a35955f70e912d2c7b011cd2aed0f33c357874ebd4e74dc65587ef40b", checked := Try.checked }
namespace Rows
def none {H : Type} : Left H := { results := [], args := [] }

/-- 'laws.FnChunk': WHATEVER THE INPUT: true; the input reads as it did. -/
def fnChunkSpec : ChangeSpec := { name := "fnChunk", fn := fun _ => fun
  | [d1, d2, d3] => { results := [.lit (.bool true)], args := [d1, d2, d3] }
  | _ => none }
def fnChunkRow : OpenClaim := { program := "ytiihcdoemgmjbaa", sum := "5203e16a35955f70e912d2c7b011cd2aed0f33c357874ebd4e74dc65587ef40b", func := "lib-loomstrand/laws.FnChunk", spec := "fnChunk", unfollowed := true, recurses := true, apart := false }
def FnChunkSaid : Prop := fnChunkRow.holds Try.pinned (OpenSpec.ofChange fnChunkSpec)

/-- ITS FALSE NEIGHBOUR: 'it returns false'. Refute it at one input. -/
def fnChunkWrong : ChangeSpec := { name := "fnChunk", fn := fun _ => fun
  | [d1, d2, d3] => { results := [.lit (.bool false)], args := [d1, d2, d3] }
  | _ => none }
def FnChunkWrongFalsely : Prop := fnChunkRow.holds Try.pinned (OpenSpec.ofChange fnChunkWrong)

/-- 'laws.FnChunkCount': WHATEVER THE INPUT: true; the input reads as it did. -/
def fnChunkCountSpec : ChangeSpec := { name := "fnChunkCount", fn := fun _ => fun
  | [d1, d2] => { results := [.lit (.bool true)], args := [d1, d2] }
  | _ => none }
def fnChunkCountRow : OpenClaim := { program := "ytiihcdoemgmjbaa", sum := "5203e16a35955f70e912d2c7b011cd2aed0f33c357874ebd4e74dc65587ef40b", func := "lib-loomstrand/laws.FnChunkCount", spec := "fnChunkCount", unfollowed := true, recurses := true, apart := false }
def FnChunkCountSaid : Prop := fnChunkCountRow.holds Try.pinned (OpenSpec.ofChange fnChunkCountSpec)

/-- ITS FALSE NEIGHBOUR: 'it returns false'. Refute it at one input. -/
def fnChunkCountWrong : ChangeSpec := { name := "fnChunkCount", fn := fun _ => fun
  | [d1, d2] => { results := [.lit (.bool false)], args := [d1, d2] }
  | _ => none }
def FnChunkCountWrongFalsely : Prop := fnChunkCountRow.holds Try.pinned (OpenSpec.ofChange fnChunkCountWrong)

/-- 'laws.FnChunkAppend': WHATEVER THE INPUT: true; the input reads as it did. -/
def fnChunkAppendSpec : ChangeSpec := { name := "fnChunkAppend", fn := fun _ => fun
  | [d1, d2, d3, d4] => { results := [.lit (.bool true)], args := [d1, d2, d3, d4] }
  | _ => none }
def fnChunkAppendRow : OpenClaim := { program := "ytiihcdoemgmjbaa", sum := "5203e16a35955f70e912d2c7b011cd2aed0f33c357874ebd4e74dc65587ef40b", func := "lib-loomstrand/laws.FnChunkAppend", spec := "fnChunkAppend", unfollowed := true, recurses := true, apart := false }
def FnChunkAppendSaid : Prop := fnChunkAppendRow.holds Try.pinned (OpenSpec.ofChange fnChunkAppendSpec)

/-- ITS FALSE NEIGHBOUR: 'it returns false'. Refute it at one input. -/
def fnChunkAppendWrong : ChangeSpec := { name := "fnChunkAppend", fn := fun _ => fun
  | [d1, d2, d3, d4] => { results := [.lit (.bool false)], args := [d1, d2, d3, d4] }
  | _ => none }
def FnChunkAppendWrongFalsely : Prop := fnChunkAppendRow.holds Try.pinned (OpenSpec.ofChange fnChunkAppendWrong)

/-- 'laws.FnChunkWrite': WHATEVER THE INPUT: true; the input reads as it did. -/
def fnChunkWriteSpec : ChangeSpec := { name := "fnChunkWrite", fn := fun _ => fun
  | [d1, d2, d3, d4] => { results := [.lit (.bool true)], args := [d1, d2, d3, d4] }
  | _ => none }
def fnChunkWriteRow : OpenClaim := { program := "ytiihcdoemgmjbaa", sum := "5203e16a35955f70e912d2c7b011cd2aed0f33c357874ebd4e74dc65587ef40b", func := "lib-loomstrand/laws.FnChunkWrite", spec := "fnChunkWrite", unfollowed := true, recurses := true, apart := false }
def FnChunkWriteSaid : Prop := fnChunkWriteRow.holds Try.pinned (OpenSpec.ofChange fnChunkWriteSpec)

/-- ITS FALSE NEIGHBOUR: 'it returns false'. Refute it at one input. -/
def fnChunkWriteWrong : ChangeSpec := { name := "fnChunkWrite", fn := fun _ => fun
  | [d1, d2, d3, d4] => { results := [.lit (.bool false)], args := [d1, d2, d3, d4] }
  | _ => none }
def FnChunkWriteWrongFalsely : Prop := fnChunkWriteRow.holds Try.pinned (OpenSpec.ofChange fnChunkWriteWrong)

/-- 'laws.FnChunkJoined': WHATEVER THE INPUT: true; the input reads as it did. -/
def fnChunkJoinedSpec : ChangeSpec := { name := "fnChunkJoined", fn := fun _ => fun
  | [d1, d2] => { results := [.lit (.bool true)], args := [d1, d2] }
  | _ => none }
def fnChunkJoinedRow : OpenClaim := { program := "ytiihcdoemgmjbaa", sum := "5203e16a35955f70e912d2c7b011cd2aed0f33c357874ebd4e74dc65587ef40b", func := "lib-loomstrand/laws.FnChunkJoined", spec := "fnChunkJoined", unfollowed := true, recurses := true, apart := false }
def FnChunkJoinedSaid : Prop := fnChunkJoinedRow.holds Try.pinned (OpenSpec.ofChange fnChunkJoinedSpec)

/-- ITS FALSE NEIGHBOUR: 'it returns false'. Refute it at one input. -/
def fnChunkJoinedWrong : ChangeSpec := { name := "fnChunkJoined", fn := fun _ => fun
  | [d1, d2] => { results := [.lit (.bool false)], args := [d1, d2] }
  | _ => none }
def FnChunkJoinedWrongFalsely : Prop := fnChunkJoinedRow.holds Try.pinned (OpenSpec.ofChange fnChunkJoinedWrong)

/-- 'laws.FnChunkOfChunk': WHATEVER THE INPUT: true; the input reads as it did. -/
def fnChunkOfChunkSpec : ChangeSpec := { name := "fnChunkOfChunk", fn := fun _ => fun
  | [d1, d2, d3] => { results := [.lit (.bool true)], args := [d1, d2, d3] }
  | _ => none }
def fnChunkOfChunkRow : OpenClaim := { program := "ytiihcdoemgmjbaa", sum := "5203e16a35955f70e912d2c7b011cd2aed0f33c357874ebd4e74dc65587ef40b", func := "lib-loomstrand/laws.FnChunkOfChunk", spec := "fnChunkOfChunk", unfollowed := true, recurses := true, apart := false }
def FnChunkOfChunkSaid : Prop := fnChunkOfChunkRow.holds Try.pinned (OpenSpec.ofChange fnChunkOfChunkSpec)

/-- ITS FALSE NEIGHBOUR: 'it returns false'. Refute it at one input. -/
def fnChunkOfChunkWrong : ChangeSpec := { name := "fnChunkOfChunk", fn := fun _ => fun
  | [d1, d2, d3] => { results := [.lit (.bool false)], args := [d1, d2, d3] }
  | _ => none }
def FnChunkOfChunkWrongFalsely : Prop := fnChunkOfChunkRow.holds Try.pinned (OpenSpec.ofChange fnChunkOfChunkWrong)

/-- 'laws.FnChunkOfRepeat': WHATEVER THE INPUT: true; the input reads as it did. -/
def fnChunkOfRepeatSpec : ChangeSpec := { name := "fnChunkOfRepeat", fn := fun _ => fun
  | [d1, d2] => { results := [.lit (.bool true)], args := [d1, d2] }
  | _ => none }
def fnChunkOfRepeatRow : OpenClaim := { program := "ytiihcdoemgmjbaa", sum := "5203e16a35955f70e912d2c7b011cd2aed0f33c357874ebd4e74dc65587ef40b", func := "lib-loomstrand/laws.FnChunkOfRepeat", spec := "fnChunkOfRepeat", unfollowed := true, recurses := true, apart := false }
def FnChunkOfRepeatSaid : Prop := fnChunkOfRepeatRow.holds Try.pinned (OpenSpec.ofChange fnChunkOfRepeatSpec)

/-- ITS FALSE NEIGHBOUR: 'it returns false'. Refute it at one input. -/
def fnChunkOfRepeatWrong : ChangeSpec := { name := "fnChunkOfRepeat", fn := fun _ => fun
  | [d1, d2] => { results := [.lit (.bool false)], args := [d1, d2] }
  | _ => none }
def FnChunkOfRepeatWrongFalsely : Prop := fnChunkOfRepeatRow.holds Try.pinned (OpenSpec.ofChange fnChunkOfRepeatWrong)

/-- 'laws.FnRepeatUnits': WHATEVER THE INPUT: true; the input reads as it did. -/
def fnRepeatUnitsSpec : ChangeSpec := { name := "fnRepeatUnits", fn := fun _ => fun
  | [d1, d2] => { results := [.lit (.bool true)], args := [d1, d2] }
  | _ => none }
def fnRepeatUnitsRow : OpenClaim := { program := "ytiihcdoemgmjbaa", sum := "5203e16a35955f70e912d2c7b011cd2aed0f33c357874ebd4e74dc65587ef40b", func := "lib-loomstrand/laws.FnRepeatUnits", spec := "fnRepeatUnits", unfollowed := true, recurses := true, apart := false }
def FnRepeatUnitsSaid : Prop := fnRepeatUnitsRow.holds Try.pinned (OpenSpec.ofChange fnRepeatUnitsSpec)

/-- ITS FALSE NEIGHBOUR: 'it returns false'. Refute it at one input. -/
def fnRepeatUnitsWrong : ChangeSpec := { name := "fnRepeatUnits", fn := fun _ => fun
  | [d1, d2] => { results := [.lit (.bool false)], args := [d1, d2] }
  | _ => none }
def FnRepeatUnitsWrongFalsely : Prop := fnRepeatUnitsRow.holds Try.pinned (OpenSpec.ofChange fnRepeatUnitsWrong)

/-- 'laws.FnRepeat': WHATEVER THE INPUT: true; the input reads as it did. -/
def fnRepeatSpec : ChangeSpec := { name := "fnRepeat", fn := fun _ => fun
  | [d1, d2] => { results := [.lit (.bool true)], args := [d1, d2] }
  | _ => none }
def fnRepeatRow : OpenClaim := { program := "ytiihcdoemgmjbaa", sum := "5203e16a35955f70e912d2c7b011cd2aed0f33c357874ebd4e74dc65587ef40b", func := "lib-loomstrand/laws.FnRepeat", spec := "fnRepeat", unfollowed := true, recurses := true, apart := false }
def FnRepeatSaid : Prop := fnRepeatRow.holds Try.pinned (OpenSpec.ofChange fnRepeatSpec)

/-- ITS FALSE NEIGHBOUR: 'it returns false'. Refute it at one input. -/
def fnRepeatWrong : ChangeSpec := { name := "fnRepeat", fn := fun _ => fun
  | [d1, d2] => { results := [.lit (.bool false)], args := [d1, d2] }
  | _ => none }
def FnRepeatWrongFalsely : Prop := fnRepeatRow.holds Try.pinned (OpenSpec.ofChange fnRepeatWrong)

/-- 'laws.FnRepeatNew': WHATEVER THE INPUT: true; the input reads as it did. -/
def fnRepeatNewSpec : ChangeSpec := { name := "fnRepeatNew", fn := fun _ => fun
  | [d1, d2, d3] => { results := [.lit (.bool true)], args := [d1, d2, d3] }
  | _ => none }
def fnRepeatNewRow : OpenClaim := { program := "ytiihcdoemgmjbaa", sum := "5203e16a35955f70e912d2c7b011cd2aed0f33c357874ebd4e74dc65587ef40b", func := "lib-loomstrand/laws.FnRepeatNew", spec := "fnRepeatNew", unfollowed := true, recurses := true, apart := false }
def FnRepeatNewSaid : Prop := fnRepeatNewRow.holds Try.pinned (OpenSpec.ofChange fnRepeatNewSpec)

/-- ITS FALSE NEIGHBOUR: 'it returns false'. Refute it at one input. -/
def fnRepeatNewWrong : ChangeSpec := { name := "fnRepeatNew", fn := fun _ => fun
  | [d1, d2, d3] => { results := [.lit (.bool false)], args := [d1, d2, d3] }
  | _ => none }
def FnRepeatNewWrongFalsely : Prop := fnRepeatNewRow.holds Try.pinned (OpenSpec.ofChange fnRepeatNewWrong)

/-- 'laws.FnRepeatConcat': WHATEVER THE INPUT: true; the input reads as it did. -/
def fnRepeatConcatSpec : ChangeSpec := { name := "fnRepeatConcat", fn := fun _ => fun
  | [d1, d2] => { results := [.lit (.bool true)], args := [d1, d2] }
  | _ => none }
def fnRepeatConcatRow : OpenClaim := { program := "ytiihcdoemgmjbaa", sum := "5203e16a35955f70e912d2c7b011cd2aed0f33c357874ebd4e74dc65587ef40b", func := "lib-loomstrand/laws.FnRepeatConcat", spec := "fnRepeatConcat", unfollowed := true, recurses := true, apart := false }
def FnRepeatConcatSaid : Prop := fnRepeatConcatRow.holds Try.pinned (OpenSpec.ofChange fnRepeatConcatSpec)

/-- ITS FALSE NEIGHBOUR: 'it returns false'. Refute it at one input. -/
def fnRepeatConcatWrong : ChangeSpec := { name := "fnRepeatConcat", fn := fun _ => fun
  | [d1, d2] => { results := [.lit (.bool false)], args := [d1, d2] }
  | _ => none }
def FnRepeatConcatWrongFalsely : Prop := fnRepeatConcatRow.holds Try.pinned (OpenSpec.ofChange fnRepeatConcatWrong)

/-- 'laws.FnRepeatSum': WHATEVER THE INPUT: true; the input reads as it did. -/
def fnRepeatSumSpec : ChangeSpec := { name := "fnRepeatSum", fn := fun _ => fun
  | [d1, d2, d3] => { results := [.lit (.bool true)], args := [d1, d2, d3] }
  | _ => none }
def fnRepeatSumRow : OpenClaim := { program := "ytiihcdoemgmjbaa", sum := "5203e16a35955f70e912d2c7b011cd2aed0f33c357874ebd4e74dc65587ef40b", func := "lib-loomstrand/laws.FnRepeatSum", spec := "fnRepeatSum", unfollowed := true, recurses := true, apart := false }
def FnRepeatSumSaid : Prop := fnRepeatSumRow.holds Try.pinned (OpenSpec.ofChange fnRepeatSumSpec)

/-- ITS FALSE NEIGHBOUR: 'it returns false'. Refute it at one input. -/
def fnRepeatSumWrong : ChangeSpec := { name := "fnRepeatSum", fn := fun _ => fun
  | [d1, d2, d3] => { results := [.lit (.bool false)], args := [d1, d2, d3] }
  | _ => none }
def FnRepeatSumWrongFalsely : Prop := fnRepeatSumRow.holds Try.pinned (OpenSpec.ofChange fnRepeatSumWrong)

/- THE SECOND FORM. 'bulk': how many values and letters a reading holds, each counted each time it is reached (what is shared counts as often as it is met; a slice's spare places count too). A statement '..UptoSaid' is the law's where the arguments, and the package variables that the reading takes, are together of bulk at most 1048576: NARROWER than '..Said'. Prove '..Said' where nothing that the law and all that it calls make is longer than what came in: it says more and counts as full. Else prove '..UptoSaid'. A law counts once. -/
mutual
def uptoBulk {H : Type} : DataW H → Nat
  | .lit (.string bytes) => bytes.length + 1
  | .lit _ => 1
  | .nil => 1
  | .ptr d => uptoBulk d + 1
  | .slice elems spare => uptoBulkAll elems + uptoBulkAll spare + 1
  | .agg parts => uptoBulkAll parts + 1
  | .iface _ d => uptoBulk d + 1
  | .map entries => uptoBulkEntries entries + 1
  | .held _ => 1
def uptoBulkAll {H : Type} : List (DataW H) → Nat
  | [] => 0
  | d :: r => uptoBulk d + uptoBulkAll r
def uptoBulkEntries {H : Type} : List (Lit × DataW H) → Nat
  | [] => 0
  | x :: r => uptoBulkEntry x + uptoBulkEntries r
def uptoBulkEntry {H : Type} : Lit × DataW H → Nat
  | (.string bytes, d) => bytes.length + uptoBulk d + 1
  | (_, d) => uptoBulk d + 1
 end
def uptoSmall : (H : Type) → List (DataW H) → Bool := fun _ ds => decide (uptoBulkAll ds ≤ 1048576)
def OpenSpec.upto (s : _root_.Go.ChangeSpec) : _root_.Go.OpenSpec := { _root_.Go.OpenSpec.ofChange s with cond := some uptoSmall }

/-- 'laws.FnChunk', WHERE WHAT IT READS IS OF BULK AT MOST 1048576: true; the input reads as it did. -/
def fnChunkUptoRow : OpenClaim := { program := "ytiihcdoemgmjbaa", sum := "5203e16a35955f70e912d2c7b011cd2aed0f33c357874ebd4e74dc65587ef40b", func := "lib-loomstrand/laws.FnChunk", spec := "fnChunk", unfollowed := true, recurses := true, apart := false, narrowed := true }
def FnChunkUptoSaid : Prop := fnChunkUptoRow.holds Try.pinned (OpenSpec.upto fnChunkSpec)

/-- 'laws.FnChunkCount', WHERE WHAT IT READS IS OF BULK AT MOST 1048576: true; the input reads as it did. -/
def fnChunkCountUptoRow : OpenClaim := { program := "ytiihcdoemgmjbaa", sum := "5203e16a35955f70e912d2c7b011cd2aed0f33c357874ebd4e74dc65587ef40b", func := "lib-loomstrand/laws.FnChunkCount", spec := "fnChunkCount", unfollowed := true, recurses := true, apart := false, narrowed := true }
def FnChunkCountUptoSaid : Prop := fnChunkCountUptoRow.holds Try.pinned (OpenSpec.upto fnChunkCountSpec)

/-- 'laws.FnChunkAppend', WHERE WHAT IT READS IS OF BULK AT MOST 1048576: true; the input reads as it did. -/
def fnChunkAppendUptoRow : OpenClaim := { program := "ytiihcdoemgmjbaa", sum := "5203e16a35955f70e912d2c7b011cd2aed0f33c357874ebd4e74dc65587ef40b", func := "lib-loomstrand/laws.FnChunkAppend", spec := "fnChunkAppend", unfollowed := true, recurses := true, apart := false, narrowed := true }
def FnChunkAppendUptoSaid : Prop := fnChunkAppendUptoRow.holds Try.pinned (OpenSpec.upto fnChunkAppendSpec)

/-- 'laws.FnChunkWrite', WHERE WHAT IT READS IS OF BULK AT MOST 1048576: true; the input reads as it did. -/
def fnChunkWriteUptoRow : OpenClaim := { program := "ytiihcdoemgmjbaa", sum := "5203e16a35955f70e912d2c7b011cd2aed0f33c357874ebd4e74dc65587ef40b", func := "lib-loomstrand/laws.FnChunkWrite", spec := "fnChunkWrite", unfollowed := true, recurses := true, apart := false, narrowed := true }
def FnChunkWriteUptoSaid : Prop := fnChunkWriteUptoRow.holds Try.pinned (OpenSpec.upto fnChunkWriteSpec)

/-- 'laws.FnChunkJoined', WHERE WHAT IT READS IS OF BULK AT MOST 1048576: true; the input reads as it did. -/
def fnChunkJoinedUptoRow : OpenClaim := { program := "ytiihcdoemgmjbaa", sum := "5203e16a35955f70e912d2c7b011cd2aed0f33c357874ebd4e74dc65587ef40b", func := "lib-loomstrand/laws.FnChunkJoined", spec := "fnChunkJoined", unfollowed := true, recurses := true, apart := false, narrowed := true }
def FnChunkJoinedUptoSaid : Prop := fnChunkJoinedUptoRow.holds Try.pinned (OpenSpec.upto fnChunkJoinedSpec)

/-- 'laws.FnChunkOfChunk', WHERE WHAT IT READS IS OF BULK AT MOST 1048576: true; the input reads as it did. -/
def fnChunkOfChunkUptoRow : OpenClaim := { program := "ytiihcdoemgmjbaa", sum := "5203e16a35955f70e912d2c7b011cd2aed0f33c357874ebd4e74dc65587ef40b", func := "lib-loomstrand/laws.FnChunkOfChunk", spec := "fnChunkOfChunk", unfollowed := true, recurses := true, apart := false, narrowed := true }
def FnChunkOfChunkUptoSaid : Prop := fnChunkOfChunkUptoRow.holds Try.pinned (OpenSpec.upto fnChunkOfChunkSpec)

/-- 'laws.FnChunkOfRepeat', WHERE WHAT IT READS IS OF BULK AT MOST 1048576: true; the input reads as it did. -/
def fnChunkOfRepeatUptoRow : OpenClaim := { program := "ytiihcdoemgmjbaa", sum := "5203e16a35955f70e912d2c7b011cd2aed0f33c357874ebd4e74dc65587ef40b", func := "lib-loomstrand/laws.FnChunkOfRepeat", spec := "fnChunkOfRepeat", unfollowed := true, recurses := true, apart := false, narrowed := true }
def FnChunkOfRepeatUptoSaid : Prop := fnChunkOfRepeatUptoRow.holds Try.pinned (OpenSpec.upto fnChunkOfRepeatSpec)

/-- 'laws.FnRepeatUnits', WHERE WHAT IT READS IS OF BULK AT MOST 1048576: true; the input reads as it did. -/
def fnRepeatUnitsUptoRow : OpenClaim := { program := "ytiihcdoemgmjbaa", sum := "5203e16a35955f70e912d2c7b011cd2aed0f33c357874ebd4e74dc65587ef40b", func := "lib-loomstrand/laws.FnRepeatUnits", spec := "fnRepeatUnits", unfollowed := true, recurses := true, apart := false, narrowed := true }
def FnRepeatUnitsUptoSaid : Prop := fnRepeatUnitsUptoRow.holds Try.pinned (OpenSpec.upto fnRepeatUnitsSpec)

/-- 'laws.FnRepeat', WHERE WHAT IT READS IS OF BULK AT MOST 1048576: true; the input reads as it did. -/
def fnRepeatUptoRow : OpenClaim := { program := "ytiihcdoemgmjbaa", sum := "5203e16a35955f70e912d2c7b011cd2aed0f33c357874ebd4e74dc65587ef40b", func := "lib-loomstrand/laws.FnRepeat", spec := "fnRepeat", unfollowed := true, recurses := true, apart := false, narrowed := true }
def FnRepeatUptoSaid : Prop := fnRepeatUptoRow.holds Try.pinned (OpenSpec.upto fnRepeatSpec)

/-- 'laws.FnRepeatNew', WHERE WHAT IT READS IS OF BULK AT MOST 1048576: true; the input reads as it did. -/
def fnRepeatNewUptoRow : OpenClaim := { program := "ytiihcdoemgmjbaa", sum := "5203e16a35955f70e912d2c7b011cd2aed0f33c357874ebd4e74dc65587ef40b", func := "lib-loomstrand/laws.FnRepeatNew", spec := "fnRepeatNew", unfollowed := true, recurses := true, apart := false, narrowed := true }
def FnRepeatNewUptoSaid : Prop := fnRepeatNewUptoRow.holds Try.pinned (OpenSpec.upto fnRepeatNewSpec)

/-- 'laws.FnRepeatConcat', WHERE WHAT IT READS IS OF BULK AT MOST 1048576: true; the input reads as it did. -/
def fnRepeatConcatUptoRow : OpenClaim := { program := "ytiihcdoemgmjbaa", sum := "5203e16a35955f70e912d2c7b011cd2aed0f33c357874ebd4e74dc65587ef40b", func := "lib-loomstrand/laws.FnRepeatConcat", spec := "fnRepeatConcat", unfollowed := true, recurses := true, apart := false, narrowed := true }
def FnRepeatConcatUptoSaid : Prop := fnRepeatConcatUptoRow.holds Try.pinned (OpenSpec.upto fnRepeatConcatSpec)

/-- 'laws.FnRepeatSum', WHERE WHAT IT READS IS OF BULK AT MOST 1048576: true; the input reads as it did. -/
def fnRepeatSumUptoRow : OpenClaim := { program := "ytiihcdoemgmjbaa", sum := "5203e16a35955f70e912d2c7b011cd2aed0f33c357874ebd4e74dc65587ef40b", func := "lib-loomstrand/laws.FnRepeatSum", spec := "fnRepeatSum", unfollowed := true, recurses := true, apart := false, narrowed := true }
def FnRepeatSumUptoSaid : Prop := fnRepeatSumUptoRow.holds Try.pinned (OpenSpec.upto fnRepeatSumSpec)

end Rows
end Go.Proofs.Ytiihcdoemgmjbaa
