/-
  No cell of these rows narrows 'for every input' (looked for: loops, veiled, ifaces, maps, wideKeys, modest, calm, conditions, laid).
  DERIVED. THE GIVEN ROWS OF THIS SEAT. 10 by the template 'for every input the law returns true; each argument reads behind the call as it read before'; 0 by the template 'total and deterministic' (their statements: YthefajbahbmohaaTotals.lean).
  GIVEN WITH THE SEED: the statements are not yours to turn. If you find one false, say at which input.
  Laid BY PROGRAM, IN A SANDBOX (cutbox-rows.mjs): the forced cells as the released guide's own fill.sh prints them over the translation 92f547ba9de4dc64… (all of the seat's roots in one cut). By AI agents, Wed Nov 11 2026. No macro, syntax, notation, axiom, sorry.
-/
import Derived.Test.YthefajbahbmohaaChecked
import GoSem.Claim
import GoSem.ClaimJoined
import GoSem.ClaimMapViews
import Derived.JoinedTies
import Derived.KernelRfl
namespace Go.Proofs.Ythefajbahbmohaa
/- THE CELL 'sum', in the pinned program and in every row, IS THE sha256 OF THE DUMP (.gsa) THAT YthefajbahbmohaaProg.lean LOADS. Nothing in Lean hashes anything: it is a label: what it is worth is what the hold of that sum in a sandbox is worth. -/
noncomputable def Try.pinned : Pinned := { name := "ythefajbahbmohaa", sum := "92f547ba9de4dc64c71aaa77c2f6e3caa0862c72f75cca9efb43e378557f7468", checked := Try.checked }
namespace Rows
def none {H : Type} : Left H := { results := [], args := [] }

/-- 'laws.FnSorted': WHATEVER THE INPUT: true; the input reads as it did. -/
def fnSortedSpec : ChangeSpec := { name := "fnSorted", fn := fun _ => fun
  | [d] => { results := [.lit (.bool true)], args := [d] }
  | _ => none }
def fnSortedRow : OpenClaim := { program := "ythefajbahbmohaa", sum := "92f547ba9de4dc64c71aaa77c2f6e3caa0862c72f75cca9efb43e378557f7468", func := "lib-loomstrand/laws.FnSorted", spec := "fnSorted", unfollowed := true, recurses := true, apart := false }
def FnSortedSaid : Prop := fnSortedRow.holds Try.pinned (OpenSpec.ofChange fnSortedSpec)

/-- ITS FALSE NEIGHBOUR: 'it returns false'. Refute it at one input. -/
def fnSortedWrong : ChangeSpec := { name := "fnSorted", fn := fun _ => fun
  | [d] => { results := [.lit (.bool false)], args := [d] }
  | _ => none }
def FnSortedWrongFalsely : Prop := fnSortedRow.holds Try.pinned (OpenSpec.ofChange fnSortedWrong)

/-- 'laws.FnSortedAgain': WHATEVER THE INPUT: true; the input reads as it did. -/
def fnSortedAgainSpec : ChangeSpec := { name := "fnSortedAgain", fn := fun _ => fun
  | [d] => { results := [.lit (.bool true)], args := [d] }
  | _ => none }
def fnSortedAgainRow : OpenClaim := { program := "ythefajbahbmohaa", sum := "92f547ba9de4dc64c71aaa77c2f6e3caa0862c72f75cca9efb43e378557f7468", func := "lib-loomstrand/laws.FnSortedAgain", spec := "fnSortedAgain", unfollowed := true, recurses := true, apart := false }
def FnSortedAgainSaid : Prop := fnSortedAgainRow.holds Try.pinned (OpenSpec.ofChange fnSortedAgainSpec)

/-- ITS FALSE NEIGHBOUR: 'it returns false'. Refute it at one input. -/
def fnSortedAgainWrong : ChangeSpec := { name := "fnSortedAgain", fn := fun _ => fun
  | [d] => { results := [.lit (.bool false)], args := [d] }
  | _ => none }
def FnSortedAgainWrongFalsely : Prop := fnSortedAgainRow.holds Try.pinned (OpenSpec.ofChange fnSortedAgainWrong)

/-- 'laws.FnSortedCounted': WHATEVER THE INPUT: true; the input reads as it did. -/
def fnSortedCountedSpec : ChangeSpec := { name := "fnSortedCounted", fn := fun _ => fun
  | [d] => { results := [.lit (.bool true)], args := [d] }
  | _ => none }
def fnSortedCountedRow : OpenClaim := { program := "ythefajbahbmohaa", sum := "92f547ba9de4dc64c71aaa77c2f6e3caa0862c72f75cca9efb43e378557f7468", func := "lib-loomstrand/laws.FnSortedCounted", spec := "fnSortedCounted", unfollowed := true, recurses := true, apart := false }
def FnSortedCountedSaid : Prop := fnSortedCountedRow.holds Try.pinned (OpenSpec.ofChange fnSortedCountedSpec)

/-- ITS FALSE NEIGHBOUR: 'it returns false'. Refute it at one input. -/
def fnSortedCountedWrong : ChangeSpec := { name := "fnSortedCounted", fn := fun _ => fun
  | [d] => { results := [.lit (.bool false)], args := [d] }
  | _ => none }
def FnSortedCountedWrongFalsely : Prop := fnSortedCountedRow.holds Try.pinned (OpenSpec.ofChange fnSortedCountedWrong)

/-- 'laws.FnSortedJoined': WHATEVER THE INPUT: true; the input reads as it did. -/
def fnSortedJoinedSpec : ChangeSpec := { name := "fnSortedJoined", fn := fun _ => fun
  | [d1, d2] => { results := [.lit (.bool true)], args := [d1, d2] }
  | _ => none }
def fnSortedJoinedRow : OpenClaim := { program := "ythefajbahbmohaa", sum := "92f547ba9de4dc64c71aaa77c2f6e3caa0862c72f75cca9efb43e378557f7468", func := "lib-loomstrand/laws.FnSortedJoined", spec := "fnSortedJoined", unfollowed := true, recurses := true, apart := false }
def FnSortedJoinedSaid : Prop := fnSortedJoinedRow.holds Try.pinned (OpenSpec.ofChange fnSortedJoinedSpec)

/-- ITS FALSE NEIGHBOUR: 'it returns false'. Refute it at one input. -/
def fnSortedJoinedWrong : ChangeSpec := { name := "fnSortedJoined", fn := fun _ => fun
  | [d1, d2] => { results := [.lit (.bool false)], args := [d1, d2] }
  | _ => none }
def FnSortedJoinedWrongFalsely : Prop := fnSortedJoinedRow.holds Try.pinned (OpenSpec.ofChange fnSortedJoinedWrong)

/-- 'laws.FnSortedPermuted': WHATEVER THE INPUT: true; the input reads as it did. -/
def fnSortedPermutedSpec : ChangeSpec := { name := "fnSortedPermuted", fn := fun _ => fun
  | [d1, d2] => { results := [.lit (.bool true)], args := [d1, d2] }
  | _ => none }
def fnSortedPermutedRow : OpenClaim := { program := "ythefajbahbmohaa", sum := "92f547ba9de4dc64c71aaa77c2f6e3caa0862c72f75cca9efb43e378557f7468", func := "lib-loomstrand/laws.FnSortedPermuted", spec := "fnSortedPermuted", unfollowed := true, recurses := true, apart := false }
def FnSortedPermutedSaid : Prop := fnSortedPermutedRow.holds Try.pinned (OpenSpec.ofChange fnSortedPermutedSpec)

/-- ITS FALSE NEIGHBOUR: 'it returns false'. Refute it at one input. -/
def fnSortedPermutedWrong : ChangeSpec := { name := "fnSortedPermuted", fn := fun _ => fun
  | [d1, d2] => { results := [.lit (.bool false)], args := [d1, d2] }
  | _ => none }
def FnSortedPermutedWrongFalsely : Prop := fnSortedPermutedRow.holds Try.pinned (OpenSpec.ofChange fnSortedPermutedWrong)

/-- 'laws.FnSortedReversed': WHATEVER THE INPUT: true; the input reads as it did. -/
def fnSortedReversedSpec : ChangeSpec := { name := "fnSortedReversed", fn := fun _ => fun
  | [d] => { results := [.lit (.bool true)], args := [d] }
  | _ => none }
def fnSortedReversedRow : OpenClaim := { program := "ythefajbahbmohaa", sum := "92f547ba9de4dc64c71aaa77c2f6e3caa0862c72f75cca9efb43e378557f7468", func := "lib-loomstrand/laws.FnSortedReversed", spec := "fnSortedReversed", unfollowed := true, recurses := true, apart := false }
def FnSortedReversedSaid : Prop := fnSortedReversedRow.holds Try.pinned (OpenSpec.ofChange fnSortedReversedSpec)

/-- ITS FALSE NEIGHBOUR: 'it returns false'. Refute it at one input. -/
def fnSortedReversedWrong : ChangeSpec := { name := "fnSortedReversed", fn := fun _ => fun
  | [d] => { results := [.lit (.bool false)], args := [d] }
  | _ => none }
def FnSortedReversedWrongFalsely : Prop := fnSortedReversedRow.holds Try.pinned (OpenSpec.ofChange fnSortedReversedWrong)

/-- 'laws.FnSortedRising': WHATEVER THE INPUT: true; the input reads as it did. -/
def fnSortedRisingSpec : ChangeSpec := { name := "fnSortedRising", fn := fun _ => fun
  | [d] => { results := [.lit (.bool true)], args := [d] }
  | _ => none }
def fnSortedRisingRow : OpenClaim := { program := "ythefajbahbmohaa", sum := "92f547ba9de4dc64c71aaa77c2f6e3caa0862c72f75cca9efb43e378557f7468", func := "lib-loomstrand/laws.FnSortedRising", spec := "fnSortedRising", unfollowed := true, recurses := true, apart := false }
def FnSortedRisingSaid : Prop := fnSortedRisingRow.holds Try.pinned (OpenSpec.ofChange fnSortedRisingSpec)

/-- ITS FALSE NEIGHBOUR: 'it returns false'. Refute it at one input. -/
def fnSortedRisingWrong : ChangeSpec := { name := "fnSortedRising", fn := fun _ => fun
  | [d] => { results := [.lit (.bool false)], args := [d] }
  | _ => none }
def FnSortedRisingWrongFalsely : Prop := fnSortedRisingRow.holds Try.pinned (OpenSpec.ofChange fnSortedRisingWrong)

/-- 'laws.FnSortedStrings': WHATEVER THE INPUT: true; the input reads as it did. -/
def fnSortedStringsSpec : ChangeSpec := { name := "fnSortedStrings", fn := fun _ => fun
  | [d] => { results := [.lit (.bool true)], args := [d] }
  | _ => none }
def fnSortedStringsRow : OpenClaim := { program := "ythefajbahbmohaa", sum := "92f547ba9de4dc64c71aaa77c2f6e3caa0862c72f75cca9efb43e378557f7468", func := "lib-loomstrand/laws.FnSortedStrings", spec := "fnSortedStrings", unfollowed := true, recurses := true, apart := false }
def FnSortedStringsSaid : Prop := fnSortedStringsRow.holds Try.pinned (OpenSpec.ofChange fnSortedStringsSpec)

/-- ITS FALSE NEIGHBOUR: 'it returns false'. Refute it at one input. -/
def fnSortedStringsWrong : ChangeSpec := { name := "fnSortedStrings", fn := fun _ => fun
  | [d] => { results := [.lit (.bool false)], args := [d] }
  | _ => none }
def FnSortedStringsWrongFalsely : Prop := fnSortedStringsRow.holds Try.pinned (OpenSpec.ofChange fnSortedStringsWrong)

/-- 'laws.FnSortedFloats': WHATEVER THE INPUT: true; the input reads as it did. -/
def fnSortedFloatsSpec : ChangeSpec := { name := "fnSortedFloats", fn := fun _ => fun
  | [d] => { results := [.lit (.bool true)], args := [d] }
  | _ => none }
def fnSortedFloatsRow : OpenClaim := { program := "ythefajbahbmohaa", sum := "92f547ba9de4dc64c71aaa77c2f6e3caa0862c72f75cca9efb43e378557f7468", func := "lib-loomstrand/laws.FnSortedFloats", spec := "fnSortedFloats", inPlace := ["math.Float64frombits", "math.Float64bits"], unfollowed := true, recurses := true, apart := false }
def FnSortedFloatsSaid : Prop := fnSortedFloatsRow.holds Try.pinned (OpenSpec.ofChange fnSortedFloatsSpec)

/-- ITS FALSE NEIGHBOUR: 'it returns false'. Refute it at one input. -/
def fnSortedFloatsWrong : ChangeSpec := { name := "fnSortedFloats", fn := fun _ => fun
  | [d] => { results := [.lit (.bool false)], args := [d] }
  | _ => none }
def FnSortedFloatsWrongFalsely : Prop := fnSortedFloatsRow.holds Try.pinned (OpenSpec.ofChange fnSortedFloatsWrong)

/-- 'laws.FnSortedFloatsBits': WHATEVER THE INPUT: true; the input reads as it did. -/
def fnSortedFloatsBitsSpec : ChangeSpec := { name := "fnSortedFloatsBits", fn := fun _ => fun
  | [d] => { results := [.lit (.bool true)], args := [d] }
  | _ => none }
def fnSortedFloatsBitsRow : OpenClaim := { program := "ythefajbahbmohaa", sum := "92f547ba9de4dc64c71aaa77c2f6e3caa0862c72f75cca9efb43e378557f7468", func := "lib-loomstrand/laws.FnSortedFloatsBits", spec := "fnSortedFloatsBits", inPlace := ["math.Float64frombits", "math.Float64bits"], unfollowed := true, recurses := true, apart := false }
def FnSortedFloatsBitsSaid : Prop := fnSortedFloatsBitsRow.holds Try.pinned (OpenSpec.ofChange fnSortedFloatsBitsSpec)

/-- ITS FALSE NEIGHBOUR: 'it returns false'. Refute it at one input. -/
def fnSortedFloatsBitsWrong : ChangeSpec := { name := "fnSortedFloatsBits", fn := fun _ => fun
  | [d] => { results := [.lit (.bool false)], args := [d] }
  | _ => none }
def FnSortedFloatsBitsWrongFalsely : Prop := fnSortedFloatsBitsRow.holds Try.pinned (OpenSpec.ofChange fnSortedFloatsBitsWrong)

/- THE SECOND FORM. 'bulk': how many values and letters a reading holds, each counted each time it is reached (what is shared counts as often as it is met; a slice's spare places count too). A statement '..UptoSaid' is the law's where the arguments, and the package variables that the reading takes, are together of bulk at most 1048576: NARROWER than '..Said'. Prove '..Said' where nothing that the law and all that it calls make is longer than what came in: it says more and counts as full. Else prove '..UptoSaid'. A law counts once. -/
mutual
def uptoBulk {H : Type} : DataW H → Nat
  | .lit (.string bytes) => bytes.length + 1
  | .lit _ => 1
  | .nil => 1
  | .ptr d => uptoBulk d + 1
  | .slice elems spare => uptoBulkAll elems + uptoBulkAll spare + 1
  | .agg parts => uptoBulkAll parts + 1
  | .iface _ d => uptoBulk d + 1
  | .map entries => uptoBulkEntries entries + 1
  | .held _ => 1
def uptoBulkAll {H : Type} : List (DataW H) → Nat
  | [] => 0
  | d :: r => uptoBulk d + uptoBulkAll r
def uptoBulkEntries {H : Type} : List (Lit × DataW H) → Nat
  | [] => 0
  | x :: r => uptoBulkEntry x + uptoBulkEntries r
def uptoBulkEntry {H : Type} : Lit × DataW H → Nat
  | (.string bytes, d) => bytes.length + uptoBulk d + 1
  | (_, d) => uptoBulk d + 1
 end
def uptoSmall : (H : Type) → List (DataW H) → Bool := fun _ ds => decide (uptoBulkAll ds ≤ 1048576)
def OpenSpec.upto (s : _root_.Go.ChangeSpec) : _root_.Go.OpenSpec := { _root_.Go.OpenSpec.ofChange s with cond := some uptoSmall }

/-- 'laws.FnSorted', WHERE WHAT IT READS IS OF BULK AT MOST 1048576: true; the input reads as it did. -/
def fnSortedUptoRow : OpenClaim := { program := "ythefajbahbmohaa", sum := "92f547ba9de4dc64c71aaa77c2f6e3caa0862c72f75cca9efb43e378557f7468", func := "lib-loomstrand/laws.FnSorted", spec := "fnSorted", unfollowed := true, recurses := true, apart := false, narrowed := true }
def FnSortedUptoSaid : Prop := fnSortedUptoRow.holds Try.pinned (OpenSpec.upto fnSortedSpec)

/-- 'laws.FnSortedAgain', WHERE WHAT IT READS IS OF BULK AT MOST 1048576: true; the input reads as it did. -/
def fnSortedAgainUptoRow : OpenClaim := { program := "ythefajbahbmohaa", sum := "92f547ba9de4dc64c71aaa77c2f6e3caa0862c72f75cca9efb43e378557f7468", func := "lib-loomstrand/laws.FnSortedAgain", spec := "fnSortedAgain", unfollowed := true, recurses := true, apart := false, narrowed := true }
def FnSortedAgainUptoSaid : Prop := fnSortedAgainUptoRow.holds Try.pinned (OpenSpec.upto fnSortedAgainSpec)

/-- 'laws.FnSortedCounted', WHERE WHAT IT READS IS OF BULK AT MOST 1048576: true; the input reads as it did. -/
def fnSortedCountedUptoRow : OpenClaim := { program := "ythefajbahbmohaa", sum := "92f547ba9de4dc64c71aaa77c2f6e3caa0862c72f75cca9efb43e378557f7468", func := "lib-loomstrand/laws.FnSortedCounted", spec := "fnSortedCounted", unfollowed := true, recurses := true, apart := false, narrowed := true }
def FnSortedCountedUptoSaid : Prop := fnSortedCountedUptoRow.holds Try.pinned (OpenSpec.upto fnSortedCountedSpec)

/-- 'laws.FnSortedJoined', WHERE WHAT IT READS IS OF BULK AT MOST 1048576: true; the input reads as it did. -/
def fnSortedJoinedUptoRow : OpenClaim := { program := "ythefajbahbmohaa", sum := "92f547ba9de4dc64c71aaa77c2f6e3caa0862c72f75cca9efb43e378557f7468", func := "lib-loomstrand/laws.FnSortedJoined", spec := "fnSortedJoined", unfollowed := true, recurses := true, apart := false, narrowed := true }
def FnSortedJoinedUptoSaid : Prop := fnSortedJoinedUptoRow.holds Try.pinned (OpenSpec.upto fnSortedJoinedSpec)

/-- 'laws.FnSortedPermuted', WHERE WHAT IT READS IS OF BULK AT MOST 1048576: true; the input reads as it did. -/
def fnSortedPermutedUptoRow : OpenClaim := { program := "ythefajbahbmohaa", sum := "92f547ba9de4dc64c71aaa77c2f6e3caa0862c72f75cca9efb43e378557f7468", func := "lib-loomstrand/laws.FnSortedPermuted", spec := "fnSortedPermuted", unfollowed := true, recurses := true, apart := false, narrowed := true }
def FnSortedPermutedUptoSaid : Prop := fnSortedPermutedUptoRow.holds Try.pinned (OpenSpec.upto fnSortedPermutedSpec)

/-- 'laws.FnSortedReversed', WHERE WHAT IT READS IS OF BULK AT MOST 1048576: true; the input reads as it did. -/
def fnSortedReversedUptoRow : OpenClaim := { program := "ythefajbahbmohaa", sum := "92f547ba9de4dc64c71aaa77c2f6e3caa0862c72f75cca9efb43e378557f7468", func := "lib-loomstrand/laws.FnSortedReversed", spec := "fnSortedReversed", unfollowed := true, recurses := true, apart := false, narrowed := true }
def FnSortedReversedUptoSaid : Prop := fnSortedReversedUptoRow.holds Try.pinned (OpenSpec.upto fnSortedReversedSpec)

/-- 'laws.FnSortedRising', WHERE WHAT IT READS IS OF BULK AT MOST 1048576: true; the input reads as it did. -/
def fnSortedRisingUptoRow : OpenClaim := { program := "ythefajbahbmohaa", sum := "92f547ba9de4dc64c71aaa77c2f6e3caa0862c72f75cca9efb43e378557f7468", func := "lib-loomstrand/laws.FnSortedRising", spec := "fnSortedRising", unfollowed := true, recurses := true, apart := false, narrowed := true }
def FnSortedRisingUptoSaid : Prop := fnSortedRisingUptoRow.holds Try.pinned (OpenSpec.upto fnSortedRisingSpec)

/-- 'laws.FnSortedStrings', WHERE WHAT IT READS IS OF BULK AT MOST 1048576: true; the input reads as it did. -/
def fnSortedStringsUptoRow : OpenClaim := { program := "ythefajbahbmohaa", sum := "92f547ba9de4dc64c71aaa77c2f6e3caa0862c72f75cca9efb43e378557f7468", func := "lib-loomstrand/laws.FnSortedStrings", spec := "fnSortedStrings", unfollowed := true, recurses := true, apart := false, narrowed := true }
def FnSortedStringsUptoSaid : Prop := fnSortedStringsUptoRow.holds Try.pinned (OpenSpec.upto fnSortedStringsSpec)

/-- 'laws.FnSortedFloats', WHERE WHAT IT READS IS OF BULK AT MOST 1048576: true; the input reads as it did. -/
def fnSortedFloatsUptoRow : OpenClaim := { program := "ythefajbahbmohaa", sum := "92f547ba9de4dc64c71aaa77c2f6e3caa0862c72f75cca9efb43e378557f7468", func := "lib-loomstrand/laws.FnSortedFloats", spec := "fnSortedFloats", inPlace := ["math.Float64frombits", "math.Float64bits"], unfollowed := true, recurses := true, apart := false, narrowed := true }
def FnSortedFloatsUptoSaid : Prop := fnSortedFloatsUptoRow.holds Try.pinned (OpenSpec.upto fnSortedFloatsSpec)

/-- 'laws.FnSortedFloatsBits', WHERE WHAT IT READS IS OF BULK AT MOST 1048576: true; the input reads as it did. -/
def fnSortedFloatsBitsUptoRow : OpenClaim := { program := "ythefajbahbmohaa", sum := "92f547ba9de4dc64c71aaa77c2f6e3caa0862c72f75cca9efb43e378557f7468", func := "lib-loomstrand/laws.FnSortedFloatsBits", spec := "fnSortedFloatsBits", inPlace := ["math.Float64frombits", "math.Float64bits"], unfollowed := true, recurses := true, apart := false, narrowed := true }
def FnSortedFloatsBitsUptoSaid : Prop := fnSortedFloatsBitsUptoRow.holds Try.pinned (OpenSpec.upto fnSortedFloatsBitsSpec)

end Rows
end Go.Proofs.Ythefajbahbmohaa
