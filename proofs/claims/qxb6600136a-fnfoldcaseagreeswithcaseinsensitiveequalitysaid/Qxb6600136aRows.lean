/-
  No cell of these rows narrows 'for every input' (looked for: loops, veiled, ifaces, maps, wideKeys, modest, calm, conditions, laid).
  DERIVED. THE GIVEN ROWS OF THIS SEAT. 7 by the template 'for every input the law returns true; each argument reads behind the call as it read before'; 0 by the template 'total and deterministic' (their statements: Qxb6600136aTotals.lean).
  GIVEN WITH THE SEED: the statements are not yours to turn. If you find one false, say at which input.
  Laid BY PROGRAM, IN A SANDBOX (cutbox-rows.mjs): the forced cells as the released guide's own fill.sh prints them over the translation b947aabc240c6583… (all of the seat's roots in one cut). By AI agents, Wed Nov 11 2026. No macro, syntax, notation, axiom, sorry.
-/
import Derived.Test.Qxb6600136aChecked
import GoSem.Claim
import GoSem.ClaimJoined
import GoSem.ClaimMapViews
import Derived.JoinedTies
import Derived.KernelRfl
namespace Go.Proofs.Qxb6600136a
/- THE CELL 'sum', in the pinned program and in every row, IS THE sha256 OF THE DUMP (.gsa) THAT Qxb6600136aProg.lean LOADS. Nothing in Lean hashes anything: it is a label: what it is worth is what the hold of that sum in a sandbox is worth. -/
noncomputable def Try.pinned : Pinned := { name := "qxb6600136a", sum := "b947aabc240c6583cc3b6d52374e1092b30977f6467d466eb1774d4328ddec89", checked := Try.checked }
namespace Rows
def none {H : Type} : Left H := { results := [], args := [] }

/-- 'zzlaws_internal_sql_b1.FnNumberIsLongestNumeral': WHATEVER THE INPUT: true; the input reads as it did. -/
def fnNumberIsLongestNumeralSpec : ChangeSpec := { name := "fnNumberIsLongestNumeral", fn := fun _ => fun
  | [d1, d2] => { results := [.lit (.bool true)], args := [d1, d2] }
  | _ => none }
def fnNumberIsLongestNumeralRow : OpenClaim := { program := "qxb6600136a", sum := "b947aabc240c6583cc3b6d52374e1092b30977f6467d466eb1774d4328ddec89", func := "example.com/coprime/coprime/zzlaws_internal_sql_b1.FnNumberIsLongestNumeral", spec := "fnNumberIsLongestNumeral", apart := false }
def FnNumberIsLongestNumeralSaid : Prop := fnNumberIsLongestNumeralRow.holds Try.pinned (OpenSpec.ofChange fnNumberIsLongestNumeralSpec)

/-- ITS FALSE NEIGHBOUR: 'it returns false'. Refute it at one input. -/
def fnNumberIsLongestNumeralWrong : ChangeSpec := { name := "fnNumberIsLongestNumeral", fn := fun _ => fun
  | [d1, d2] => { results := [.lit (.bool false)], args := [d1, d2] }
  | _ => none }
def FnNumberIsLongestNumeralWrongFalsely : Prop := fnNumberIsLongestNumeralRow.holds Try.pinned (OpenSpec.ofChange fnNumberIsLongestNumeralWrong)

/-- 'zzlaws_internal_sql_b1.FnNumberRelexesItsOwnText': WHATEVER THE INPUT: true; the input reads as it did. -/
def fnNumberRelexesItsOwnTextSpec : ChangeSpec := { name := "fnNumberRelexesItsOwnText", fn := fun _ => fun
  | [d1, d2] => { results := [.lit (.bool true)], args := [d1, d2] }
  | _ => none }
def fnNumberRelexesItsOwnTextRow : OpenClaim := { program := "qxb6600136a", sum := "b947aabc240c6583cc3b6d52374e1092b30977f6467d466eb1774d4328ddec89", func := "example.com/coprime/coprime/zzlaws_internal_sql_b1.FnNumberRelexesItsOwnText", spec := "fnNumberRelexesItsOwnText", apart := false }
def FnNumberRelexesItsOwnTextSaid : Prop := fnNumberRelexesItsOwnTextRow.holds Try.pinned (OpenSpec.ofChange fnNumberRelexesItsOwnTextSpec)

/-- ITS FALSE NEIGHBOUR: 'it returns false'. Refute it at one input. -/
def fnNumberRelexesItsOwnTextWrong : ChangeSpec := { name := "fnNumberRelexesItsOwnText", fn := fun _ => fun
  | [d1, d2] => { results := [.lit (.bool false)], args := [d1, d2] }
  | _ => none }
def FnNumberRelexesItsOwnTextWrongFalsely : Prop := fnNumberRelexesItsOwnTextRow.holds Try.pinned (OpenSpec.ofChange fnNumberRelexesItsOwnTextWrong)

/-- 'zzlaws_internal_sql_b1.FnNumberLooksAtMostThreeBytesAhead': WHATEVER THE INPUT: true; the input reads as it did. -/
def fnNumberLooksAtMostThreeBytesAheadSpec : ChangeSpec := { name := "fnNumberLooksAtMostThreeBytesAhead", fn := fun _ => fun
  | [d1, d2, d3] => { results := [.lit (.bool true)], args := [d1, d2, d3] }
  | _ => none }
def fnNumberLooksAtMostThreeBytesAheadRow : OpenClaim := { program := "qxb6600136a", sum := "b947aabc240c6583cc3b6d52374e1092b30977f6467d466eb1774d4328ddec89", func := "example.com/coprime/coprime/zzlaws_internal_sql_b1.FnNumberLooksAtMostThreeBytesAhead", spec := "fnNumberLooksAtMostThreeBytesAhead", apart := false }
def FnNumberLooksAtMostThreeBytesAheadSaid : Prop := fnNumberLooksAtMostThreeBytesAheadRow.holds Try.pinned (OpenSpec.ofChange fnNumberLooksAtMostThreeBytesAheadSpec)

/-- ITS FALSE NEIGHBOUR: 'it returns false'. Refute it at one input. -/
def fnNumberLooksAtMostThreeBytesAheadWrong : ChangeSpec := { name := "fnNumberLooksAtMostThreeBytesAhead", fn := fun _ => fun
  | [d1, d2, d3] => { results := [.lit (.bool false)], args := [d1, d2, d3] }
  | _ => none }
def FnNumberLooksAtMostThreeBytesAheadWrongFalsely : Prop := fnNumberLooksAtMostThreeBytesAheadRow.holds Try.pinned (OpenSpec.ofChange fnNumberLooksAtMostThreeBytesAheadWrong)

/-- 'zzlaws_internal_sql_b1.FnFoldCaseIsIdempotentLowerAndLengthKeeping': WHATEVER THE INPUT: true; the input reads as it did. -/
def fnFoldCaseIsIdempotentLowerAndLengthKeepingSpec : ChangeSpec := { name := "fnFoldCaseIsIdempotentLowerAndLengthKeeping", fn := fun _ => fun
  | [d] => { results := [.lit (.bool true)], args := [d] }
  | _ => none }
def fnFoldCaseIsIdempotentLowerAndLengthKeepingRow : OpenClaim := { program := "qxb6600136a", sum := "b947aabc240c6583cc3b6d52374e1092b30977f6467d466eb1774d4328ddec89", func := "example.com/coprime/coprime/zzlaws_internal_sql_b1.FnFoldCaseIsIdempotentLowerAndLengthKeeping", spec := "fnFoldCaseIsIdempotentLowerAndLengthKeeping", apart := false }
def FnFoldCaseIsIdempotentLowerAndLengthKeepingSaid : Prop := fnFoldCaseIsIdempotentLowerAndLengthKeepingRow.holds Try.pinned (OpenSpec.ofChange fnFoldCaseIsIdempotentLowerAndLengthKeepingSpec)

/-- ITS FALSE NEIGHBOUR: 'it returns false'. Refute it at one input. -/
def fnFoldCaseIsIdempotentLowerAndLengthKeepingWrong : ChangeSpec := { name := "fnFoldCaseIsIdempotentLowerAndLengthKeeping", fn := fun _ => fun
  | [d] => { results := [.lit (.bool false)], args := [d] }
  | _ => none }
def FnFoldCaseIsIdempotentLowerAndLengthKeepingWrongFalsely : Prop := fnFoldCaseIsIdempotentLowerAndLengthKeepingRow.holds Try.pinned (OpenSpec.ofChange fnFoldCaseIsIdempotentLowerAndLengthKeepingWrong)

/-- 'zzlaws_internal_sql_b1.FnFoldCaseDistributesOverConcatenation': WHATEVER THE INPUT: true; the input reads as it did. -/
def fnFoldCaseDistributesOverConcatenationSpec : ChangeSpec := { name := "fnFoldCaseDistributesOverConcatenation", fn := fun _ => fun
  | [d1, d2] => { results := [.lit (.bool true)], args := [d1, d2] }
  | _ => none }
def fnFoldCaseDistributesOverConcatenationRow : OpenClaim := { program := "qxb6600136a", sum := "b947aabc240c6583cc3b6d52374e1092b30977f6467d466eb1774d4328ddec89", func := "example.com/coprime/coprime/zzlaws_internal_sql_b1.FnFoldCaseDistributesOverConcatenation", spec := "fnFoldCaseDistributesOverConcatenation", apart := false }
def FnFoldCaseDistributesOverConcatenationSaid : Prop := fnFoldCaseDistributesOverConcatenationRow.holds Try.pinned (OpenSpec.ofChange fnFoldCaseDistributesOverConcatenationSpec)

/-- ITS FALSE NEIGHBOUR: 'it returns false'. Refute it at one input. -/
def fnFoldCaseDistributesOverConcatenationWrong : ChangeSpec := { name := "fnFoldCaseDistributesOverConcatenation", fn := fun _ => fun
  | [d1, d2] => { results := [.lit (.bool false)], args := [d1, d2] }
  | _ => none }
def FnFoldCaseDistributesOverConcatenationWrongFalsely : Prop := fnFoldCaseDistributesOverConcatenationRow.holds Try.pinned (OpenSpec.ofChange fnFoldCaseDistributesOverConcatenationWrong)

/-- 'zzlaws_internal_sql_b1.FnFoldCaseAgreesWithCaseInsensitiveEquality': WHATEVER THE INPUT: true; the input reads as it did. -/
def fnFoldCaseAgreesWithCaseInsensitiveEqualitySpec : ChangeSpec := { name := "fnFoldCaseAgreesWithCaseInsensitiveEquality", fn := fun _ => fun
  | [d1, d2] => { results := [.lit (.bool true)], args := [d1, d2] }
  | _ => none }
def fnFoldCaseAgreesWithCaseInsensitiveEqualityRow : OpenClaim := { program := "qxb6600136a", sum := "b947aabc240c6583cc3b6d52374e1092b30977f6467d466eb1774d4328ddec89", func := "example.com/coprime/coprime/zzlaws_internal_sql_b1.FnFoldCaseAgreesWithCaseInsensitiveEquality", spec := "fnFoldCaseAgreesWithCaseInsensitiveEquality", apart := false }
def FnFoldCaseAgreesWithCaseInsensitiveEqualitySaid : Prop := fnFoldCaseAgreesWithCaseInsensitiveEqualityRow.holds Try.pinned (OpenSpec.ofChange fnFoldCaseAgreesWithCaseInsensitiveEqualitySpec)

/-- ITS FALSE NEIGHBOUR: 'it returns false'. Refute it at one input. -/
def fnFoldCaseAgreesWithCaseInsensitiveEqualityWrong : ChangeSpec := { name := "fnFoldCaseAgreesWithCaseInsensitiveEquality", fn := fun _ => fun
  | [d1, d2] => { results := [.lit (.bool false)], args := [d1, d2] }
  | _ => none }
def FnFoldCaseAgreesWithCaseInsensitiveEqualityWrongFalsely : Prop := fnFoldCaseAgreesWithCaseInsensitiveEqualityRow.holds Try.pinned (OpenSpec.ofChange fnFoldCaseAgreesWithCaseInsensitiveEqualityWrong)

/-- 'zzlaws_internal_sql_b1.FnIsolationNamesAreDistinct': WHATEVER THE INPUT: true; the input reads as it did. -/
def fnIsolationNamesAreDistinctSpec : ChangeSpec := { name := "fnIsolationNamesAreDistinct", fn := fun _ => fun
  | [d1, d2] => { results := [.lit (.bool true)], args := [d1, d2] }
  | _ => none }
def fnIsolationNamesAreDistinctRow : OpenClaim := { program := "qxb6600136a", sum := "b947aabc240c6583cc3b6d52374e1092b30977f6467d466eb1774d4328ddec89", func := "example.com/coprime/coprime/zzlaws_internal_sql_b1.FnIsolationNamesAreDistinct", spec := "fnIsolationNamesAreDistinct", apart := false }
def FnIsolationNamesAreDistinctSaid : Prop := fnIsolationNamesAreDistinctRow.holds Try.pinned (OpenSpec.ofChange fnIsolationNamesAreDistinctSpec)

/-- ITS FALSE NEIGHBOUR: 'it returns false'. Refute it at one input. -/
def fnIsolationNamesAreDistinctWrong : ChangeSpec := { name := "fnIsolationNamesAreDistinct", fn := fun _ => fun
  | [d1, d2] => { results := [.lit (.bool false)], args := [d1, d2] }
  | _ => none }
def FnIsolationNamesAreDistinctWrongFalsely : Prop := fnIsolationNamesAreDistinctRow.holds Try.pinned (OpenSpec.ofChange fnIsolationNamesAreDistinctWrong)

end Rows
end Go.Proofs.Qxb6600136a
