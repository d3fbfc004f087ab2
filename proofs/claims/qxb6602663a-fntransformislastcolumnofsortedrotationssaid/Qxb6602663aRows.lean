/-
  No cell of these rows narrows 'for every input' (looked for: loops, veiled, ifaces, maps, wideKeys, modest, calm, conditions, laid).
  DERIVED. THE GIVEN ROWS OF THIS SEAT. 7 by the template 'for every input the law returns true; each argument reads behind the call as it read before'; 0 by the template 'total and deterministic' (their statements: Qxb6602663aTotals.lean).
  GIVEN WITH THE SEED: the statements are not yours to turn. If you find one false, say at which input.
  Laid BY PROGRAM, IN A SANDBOX (cutbox-rows.mjs): the forced cells as the released guide's own fill.sh prints them over the translation fc0d6d23f7e0b107… (all of the seat's roots in one cut). By AI agents, Wed Nov 11 2026. No macro, syntax, notation, axiom, sorry.
-/
import Derived.Test.Qxb6602663aChecked
import GoSem.Claim
import GoSem.ClaimJoined
import GoSem.ClaimMapViews
import Derived.JoinedTies
import Derived.KernelRfl
namespace Go.Proofs.Qxb6602663a
/- THE CELL 'sum', in the pinned program and in every row, IS THE sha256 OF THE DUMP (.gsa) THAT Qxb6602663aProg.lean LOADS. Nothing in Lean hashes anything: it is a label: what it is worth is what the hold of that sum in a sandbox is worth. -/
noncomputable def Try.pinned : Pinned := { name := "qxb6602663a", sum := "fc0d6d23f7e0b10743502144029af570d57b034138a893f32a049b8b44228800", checked := Try.checked }
namespace Rows
def none {H : Type} : Left H := { results := [], args := [] }

/-- 'zzlaws_internal_compress_b1.FnLeastRotationIsFirstLeast': WHATEVER THE INPUT: true; the input reads as it did. -/
def fnLeastRotationIsFirstLeastSpec : ChangeSpec := { name := "fnLeastRotationIsFirstLeast", fn := fun _ => fun
  | [d] => { results := [.lit (.bool true)], args := [d] }
  | _ => none }
def fnLeastRotationIsFirstLeastRow : OpenClaim := { program := "qxb6602663a", sum := "fc0d6d23f7e0b10743502144029af570d57b034138a893f32a049b8b44228800", func := "example.com/buildwire/buildwire/zzlaws_internal_compress_b1.FnLeastRotationIsFirstLeast", spec := "fnLeastRotationIsFirstLeast", apart := false }
def FnLeastRotationIsFirstLeastSaid : Prop := fnLeastRotationIsFirstLeastRow.holds Try.pinned (OpenSpec.ofChange fnLeastRotationIsFirstLeastSpec)

/-- ITS FALSE NEIGHBOUR: 'it returns false'. Refute it at one input. -/
def fnLeastRotationIsFirstLeastWrong : ChangeSpec := { name := "fnLeastRotationIsFirstLeast", fn := fun _ => fun
  | [d] => { results := [.lit (.bool false)], args := [d] }
  | _ => none }
def FnLeastRotationIsFirstLeastWrongFalsely : Prop := fnLeastRotationIsFirstLeastRow.holds Try.pinned (OpenSpec.ofChange fnLeastRotationIsFirstLeastWrong)

/-- 'zzlaws_internal_compress_b1.FnLeastRotationSameForEveryRotation': WHATEVER THE INPUT: true; the input reads as it did. -/
def fnLeastRotationSameForEveryRotationSpec : ChangeSpec := { name := "fnLeastRotationSameForEveryRotation", fn := fun _ => fun
  | [d1, d2] => { results := [.lit (.bool true)], args := [d1, d2] }
  | _ => none }
def fnLeastRotationSameForEveryRotationRow : OpenClaim := { program := "qxb6602663a", sum := "fc0d6d23f7e0b10743502144029af570d57b034138a893f32a049b8b44228800", func := "example.com/buildwire/buildwire/zzlaws_internal_compress_b1.FnLeastRotationSameForEveryRotation", spec := "fnLeastRotationSameForEveryRotation", apart := false }
def FnLeastRotationSameForEveryRotationSaid : Prop := fnLeastRotationSameForEveryRotationRow.holds Try.pinned (OpenSpec.ofChange fnLeastRotationSameForEveryRotationSpec)

/-- ITS FALSE NEIGHBOUR: 'it returns false'. Refute it at one input. -/
def fnLeastRotationSameForEveryRotationWrong : ChangeSpec := { name := "fnLeastRotationSameForEveryRotation", fn := fun _ => fun
  | [d1, d2] => { results := [.lit (.bool false)], args := [d1, d2] }
  | _ => none }
def FnLeastRotationSameForEveryRotationWrongFalsely : Prop := fnLeastRotationSameForEveryRotationRow.holds Try.pinned (OpenSpec.ofChange fnLeastRotationSameForEveryRotationWrong)

/-- 'zzlaws_internal_compress_b1.FnTransformIsLastColumnOfSortedRotations': WHATEVER THE INPUT: true; the input reads as it did. -/
def fnTransformIsLastColumnOfSortedRotationsSpec : ChangeSpec := { name := "fnTransformIsLastColumnOfSortedRotations", fn := fun _ => fun
  | [d1, d2, d3] => { results := [.lit (.bool true)], args := [d1, d2, d3] }
  | _ => none }
def fnTransformIsLastColumnOfSortedRotationsRow : OpenClaim := { program := "qxb6602663a", sum := "fc0d6d23f7e0b10743502144029af570d57b034138a893f32a049b8b44228800", func := "example.com/buildwire/buildwire/zzlaws_internal_compress_b1.FnTransformIsLastColumnOfSortedRotations", spec := "fnTransformIsLastColumnOfSortedRotations", recurses := true, apart := false }
def FnTransformIsLastColumnOfSortedRotationsSaid : Prop := fnTransformIsLastColumnOfSortedRotationsRow.holds Try.pinned (OpenSpec.ofChange fnTransformIsLastColumnOfSortedRotationsSpec)

/-- ITS FALSE NEIGHBOUR: 'it returns false'. Refute it at one input. -/
def fnTransformIsLastColumnOfSortedRotationsWrong : ChangeSpec := { name := "fnTransformIsLastColumnOfSortedRotations", fn := fun _ => fun
  | [d1, d2, d3] => { results := [.lit (.bool false)], args := [d1, d2, d3] }
  | _ => none }
def FnTransformIsLastColumnOfSortedRotationsWrongFalsely : Prop := fnTransformIsLastColumnOfSortedRotationsRow.holds Try.pinned (OpenSpec.ofChange fnTransformIsLastColumnOfSortedRotationsWrong)

/-- 'zzlaws_internal_compress_b1.FnTransformInvertsByLastToFirst': WHATEVER THE INPUT: true; the input reads as it did. -/
def fnTransformInvertsByLastToFirstSpec : ChangeSpec := { name := "fnTransformInvertsByLastToFirst", fn := fun _ => fun
  | [d1, d2, d3] => { results := [.lit (.bool true)], args := [d1, d2, d3] }
  | _ => none }
def fnTransformInvertsByLastToFirstRow : OpenClaim := { program := "qxb6602663a", sum := "fc0d6d23f7e0b10743502144029af570d57b034138a893f32a049b8b44228800", func := "example.com/buildwire/buildwire/zzlaws_internal_compress_b1.FnTransformInvertsByLastToFirst", spec := "fnTransformInvertsByLastToFirst", recurses := true, apart := false }
def FnTransformInvertsByLastToFirstSaid : Prop := fnTransformInvertsByLastToFirstRow.holds Try.pinned (OpenSpec.ofChange fnTransformInvertsByLastToFirstSpec)

/-- ITS FALSE NEIGHBOUR: 'it returns false'. Refute it at one input. -/
def fnTransformInvertsByLastToFirstWrong : ChangeSpec := { name := "fnTransformInvertsByLastToFirst", fn := fun _ => fun
  | [d1, d2, d3] => { results := [.lit (.bool false)], args := [d1, d2, d3] }
  | _ => none }
def FnTransformInvertsByLastToFirstWrongFalsely : Prop := fnTransformInvertsByLastToFirstRow.holds Try.pinned (OpenSpec.ofChange fnTransformInvertsByLastToFirstWrong)

/-- 'zzlaws_internal_compress_b1.FnSymbolsIsMoveToFrontWithBinaryRuns': WHATEVER THE INPUT: true; the input reads as it did. -/
def fnSymbolsIsMoveToFrontWithBinaryRunsSpec : ChangeSpec := { name := "fnSymbolsIsMoveToFrontWithBinaryRuns", fn := fun _ => fun
  | [d1, d2, d3, d4] => { results := [.lit (.bool true)], args := [d1, d2, d3, d4] }
  | _ => none }
def fnSymbolsIsMoveToFrontWithBinaryRunsRow : OpenClaim := { program := "qxb6602663a", sum := "fc0d6d23f7e0b10743502144029af570d57b034138a893f32a049b8b44228800", func := "example.com/buildwire/buildwire/zzlaws_internal_compress_b1.FnSymbolsIsMoveToFrontWithBinaryRuns", spec := "fnSymbolsIsMoveToFrontWithBinaryRuns", apart := false }
def FnSymbolsIsMoveToFrontWithBinaryRunsSaid : Prop := fnSymbolsIsMoveToFrontWithBinaryRunsRow.holds Try.pinned (OpenSpec.ofChange fnSymbolsIsMoveToFrontWithBinaryRunsSpec)

/-- ITS FALSE NEIGHBOUR: 'it returns false'. Refute it at one input. -/
def fnSymbolsIsMoveToFrontWithBinaryRunsWrong : ChangeSpec := { name := "fnSymbolsIsMoveToFrontWithBinaryRuns", fn := fun _ => fun
  | [d1, d2, d3, d4] => { results := [.lit (.bool false)], args := [d1, d2, d3, d4] }
  | _ => none }
def FnSymbolsIsMoveToFrontWithBinaryRunsWrongFalsely : Prop := fnSymbolsIsMoveToFrontWithBinaryRunsRow.holds Try.pinned (OpenSpec.ofChange fnSymbolsIsMoveToFrontWithBinaryRunsWrong)

/-- 'zzlaws_internal_compress_b1.FnSymbolsDecodeToNumberedBytes': WHATEVER THE INPUT: true; the input reads as it did. -/
def fnSymbolsDecodeToNumberedBytesSpec : ChangeSpec := { name := "fnSymbolsDecodeToNumberedBytes", fn := fun _ => fun
  | [d1, d2, d3, d4] => { results := [.lit (.bool true)], args := [d1, d2, d3, d4] }
  | _ => none }
def fnSymbolsDecodeToNumberedBytesRow : OpenClaim := { program := "qxb6602663a", sum := "fc0d6d23f7e0b10743502144029af570d57b034138a893f32a049b8b44228800", func := "example.com/buildwire/buildwire/zzlaws_internal_compress_b1.FnSymbolsDecodeToNumberedBytes", spec := "fnSymbolsDecodeToNumberedBytes", apart := false }
def FnSymbolsDecodeToNumberedBytesSaid : Prop := fnSymbolsDecodeToNumberedBytesRow.holds Try.pinned (OpenSpec.ofChange fnSymbolsDecodeToNumberedBytesSpec)

/-- ITS FALSE NEIGHBOUR: 'it returns false'. Refute it at one input. -/
def fnSymbolsDecodeToNumberedBytesWrong : ChangeSpec := { name := "fnSymbolsDecodeToNumberedBytes", fn := fun _ => fun
  | [d1, d2, d3, d4] => { results := [.lit (.bool false)], args := [d1, d2, d3, d4] }
  | _ => none }
def FnSymbolsDecodeToNumberedBytesWrongFalsely : Prop := fnSymbolsDecodeToNumberedBytesRow.holds Try.pinned (OpenSpec.ofChange fnSymbolsDecodeToNumberedBytesWrong)

/-- 'zzlaws_internal_compress_b1.FnSymbolsStayBelowEndOfBlock': WHATEVER THE INPUT: true; the input reads as it did. -/
def fnSymbolsStayBelowEndOfBlockSpec : ChangeSpec := { name := "fnSymbolsStayBelowEndOfBlock", fn := fun _ => fun
  | [d1, d2, d3, d4] => { results := [.lit (.bool true)], args := [d1, d2, d3, d4] }
  | _ => none }
def fnSymbolsStayBelowEndOfBlockRow : OpenClaim := { program := "qxb6602663a", sum := "fc0d6d23f7e0b10743502144029af570d57b034138a893f32a049b8b44228800", func := "example.com/buildwire/buildwire/zzlaws_internal_compress_b1.FnSymbolsStayBelowEndOfBlock", spec := "fnSymbolsStayBelowEndOfBlock", apart := false }
def FnSymbolsStayBelowEndOfBlockSaid : Prop := fnSymbolsStayBelowEndOfBlockRow.holds Try.pinned (OpenSpec.ofChange fnSymbolsStayBelowEndOfBlockSpec)

/-- ITS FALSE NEIGHBOUR: 'it returns false'. Refute it at one input. -/
def fnSymbolsStayBelowEndOfBlockWrong : ChangeSpec := { name := "fnSymbolsStayBelowEndOfBlock", fn := fun _ => fun
  | [d1, d2, d3, d4] => { results := [.lit (.bool false)], args := [d1, d2, d3, d4] }
  | _ => none }
def FnSymbolsStayBelowEndOfBlockWrongFalsely : Prop := fnSymbolsStayBelowEndOfBlockRow.holds Try.pinned (OpenSpec.ofChange fnSymbolsStayBelowEndOfBlockWrong)

end Rows
end Go.Proofs.Qxb6602663a
