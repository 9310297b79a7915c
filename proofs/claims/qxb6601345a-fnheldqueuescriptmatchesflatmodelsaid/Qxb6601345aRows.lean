/-
  No cell of these rows narrows 'for every input' (looked for: loops, veiled, ifaces, maps, wideKeys, modest, calm, conditions, laid).
  DERIVED. THE GIVEN ROWS OF THIS SEAT. 6 by the template 'for every input the law returns true; each argument reads behind the call as it read before'; 0 by the template 'total and deterministic' (their statements: Qxb6601345aTotals.lean).
  GIVEN WITH THE SEED: the statements are not yours to turn. If you find one false, say at which input.
  Laid BY PROGRAM, IN A SANDBOX (cutbox-rows.mjs): the forced cells as the released guide's own fill.sh prints them over the translation 8ed8025347735573… (all of the seat's roots in one cut). By AI agents, Wed Nov 11 2026. No macro, syntax, notation, axiom, sorry.
-/
import Derived.Test.Qxb6601345aChecked
import GoSem.Claim
import GoSem.ClaimJoined
import GoSem.ClaimMapViews
import Derived.JoinedTies
import Derived.KernelRfl
namespace Go.Proofs.Qxb6601345a
/- THE CELL 'sum', in the pinned program and in every row, IS THE sha256 OF THE DUMP (.gsa) THAT Qxb6601345aProg.lean LOADS. Nothing in Lean hashes anything: it is a label: what it is worth is what the hold of that sum in a sandbox is worth. -/
noncomputable def Try.pinned : Pinned := { name := "qxb6601345a", sum := "8ed802534773557329c7b8e8b0556f53d4e75abc3409c6f1369ad9bf34742b74", checked := Try.checked }
namespace Rows
def none {H : Type} : Left H := { results := [], args := [] }

/-- 'zzlaws_root_b1.FnWithoutMatchesBitmapModel': WHATEVER THE INPUT: true; the input reads as it did. -/
def fnWithoutMatchesBitmapModelSpec : ChangeSpec := { name := "fnWithoutMatchesBitmapModel", fn := fun _ => fun
  | [d1, d2] => { results := [.lit (.bool true)], args := [d1, d2] }
  | _ => none }
def fnWithoutMatchesBitmapModelRow : OpenClaim := { program := "qxb6601345a", sum := "8ed802534773557329c7b8e8b0556f53d4e75abc3409c6f1369ad9bf34742b74", func := "example.com/seriatim/seriatim/zzlaws_root_b1.FnWithoutMatchesBitmapModel", spec := "fnWithoutMatchesBitmapModel", apart := false }
def FnWithoutMatchesBitmapModelSaid : Prop := fnWithoutMatchesBitmapModelRow.holds Try.pinned (OpenSpec.ofChange fnWithoutMatchesBitmapModelSpec)

/-- ITS FALSE NEIGHBOUR: 'it returns false'. Refute it at one input. -/
def fnWithoutMatchesBitmapModelWrong : ChangeSpec := { name := "fnWithoutMatchesBitmapModel", fn := fun _ => fun
  | [d1, d2] => { results := [.lit (.bool false)], args := [d1, d2] }
  | _ => none }
def FnWithoutMatchesBitmapModelWrongFalsely : Prop := fnWithoutMatchesBitmapModelRow.holds Try.pinned (OpenSpec.ofChange fnWithoutMatchesBitmapModelWrong)

/-- 'zzlaws_root_b1.FnWithoutCommutes': WHATEVER THE INPUT: true; the input reads as it did. -/
def fnWithoutCommutesSpec : ChangeSpec := { name := "fnWithoutCommutes", fn := fun _ => fun
  | [d1, d2, d3] => { results := [.lit (.bool true)], args := [d1, d2, d3] }
  | _ => none }
def fnWithoutCommutesRow : OpenClaim := { program := "qxb6601345a", sum := "8ed802534773557329c7b8e8b0556f53d4e75abc3409c6f1369ad9bf34742b74", func := "example.com/seriatim/seriatim/zzlaws_root_b1.FnWithoutCommutes", spec := "fnWithoutCommutes", apart := false }
def FnWithoutCommutesSaid : Prop := fnWithoutCommutesRow.holds Try.pinned (OpenSpec.ofChange fnWithoutCommutesSpec)

/-- ITS FALSE NEIGHBOUR: 'it returns false'. Refute it at one input. -/
def fnWithoutCommutesWrong : ChangeSpec := { name := "fnWithoutCommutes", fn := fun _ => fun
  | [d1, d2, d3] => { results := [.lit (.bool false)], args := [d1, d2, d3] }
  | _ => none }
def FnWithoutCommutesWrongFalsely : Prop := fnWithoutCommutesRow.holds Try.pinned (OpenSpec.ofChange fnWithoutCommutesWrong)

/-- 'zzlaws_root_b1.FnWithoutWellFormedIdempotentInside': WHATEVER THE INPUT: true; the input reads as it did. -/
def fnWithoutWellFormedIdempotentInsideSpec : ChangeSpec := { name := "fnWithoutWellFormedIdempotentInside", fn := fun _ => fun
  | [d1, d2] => { results := [.lit (.bool true)], args := [d1, d2] }
  | _ => none }
def fnWithoutWellFormedIdempotentInsideRow : OpenClaim := { program := "qxb6601345a", sum := "8ed802534773557329c7b8e8b0556f53d4e75abc3409c6f1369ad9bf34742b74", func := "example.com/seriatim/seriatim/zzlaws_root_b1.FnWithoutWellFormedIdempotentInside", spec := "fnWithoutWellFormedIdempotentInside", apart := false }
def FnWithoutWellFormedIdempotentInsideSaid : Prop := fnWithoutWellFormedIdempotentInsideRow.holds Try.pinned (OpenSpec.ofChange fnWithoutWellFormedIdempotentInsideSpec)

/-- ITS FALSE NEIGHBOUR: 'it returns false'. Refute it at one input. -/
def fnWithoutWellFormedIdempotentInsideWrong : ChangeSpec := { name := "fnWithoutWellFormedIdempotentInside", fn := fun _ => fun
  | [d1, d2] => { results := [.lit (.bool false)], args := [d1, d2] }
  | _ => none }
def FnWithoutWellFormedIdempotentInsideWrongFalsely : Prop := fnWithoutWellFormedIdempotentInsideRow.holds Try.pinned (OpenSpec.ofChange fnWithoutWellFormedIdempotentInsideWrong)

/-- 'zzlaws_root_b1.FnTakeMatchesFlatModel': WHATEVER THE INPUT: true; the input reads as it did. -/
def fnTakeMatchesFlatModelSpec : ChangeSpec := { name := "fnTakeMatchesFlatModel", fn := fun _ => fun
  | [d1, d2] => { results := [.lit (.bool true)], args := [d1, d2] }
  | _ => none }
def fnTakeMatchesFlatModelRow : OpenClaim := { program := "qxb6601345a", sum := "8ed802534773557329c7b8e8b0556f53d4e75abc3409c6f1369ad9bf34742b74", func := "example.com/seriatim/seriatim/zzlaws_root_b1.FnTakeMatchesFlatModel", spec := "fnTakeMatchesFlatModel", apart := false }
def FnTakeMatchesFlatModelSaid : Prop := fnTakeMatchesFlatModelRow.holds Try.pinned (OpenSpec.ofChange fnTakeMatchesFlatModelSpec)

/-- ITS FALSE NEIGHBOUR: 'it returns false'. Refute it at one input. -/
def fnTakeMatchesFlatModelWrong : ChangeSpec := { name := "fnTakeMatchesFlatModel", fn := fun _ => fun
  | [d1, d2] => { results := [.lit (.bool false)], args := [d1, d2] }
  | _ => none }
def FnTakeMatchesFlatModelWrongFalsely : Prop := fnTakeMatchesFlatModelRow.holds Try.pinned (OpenSpec.ofChange fnTakeMatchesFlatModelWrong)

/-- 'zzlaws_root_b1.FnDiscardMatchesFlatModel': WHATEVER THE INPUT: true; the input reads as it did. -/
def fnDiscardMatchesFlatModelSpec : ChangeSpec := { name := "fnDiscardMatchesFlatModel", fn := fun _ => fun
  | [d1, d2, d3, d4] => { results := [.lit (.bool true)], args := [d1, d2, d3, d4] }
  | _ => none }
def fnDiscardMatchesFlatModelRow : OpenClaim := { program := "qxb6601345a", sum := "8ed802534773557329c7b8e8b0556f53d4e75abc3409c6f1369ad9bf34742b74", func := "example.com/seriatim/seriatim/zzlaws_root_b1.FnDiscardMatchesFlatModel", spec := "fnDiscardMatchesFlatModel", apart := false }
def FnDiscardMatchesFlatModelSaid : Prop := fnDiscardMatchesFlatModelRow.holds Try.pinned (OpenSpec.ofChange fnDiscardMatchesFlatModelSpec)

/-- ITS FALSE NEIGHBOUR: 'it returns false'. Refute it at one input. -/
def fnDiscardMatchesFlatModelWrong : ChangeSpec := { name := "fnDiscardMatchesFlatModel", fn := fun _ => fun
  | [d1, d2, d3, d4] => { results := [.lit (.bool false)], args := [d1, d2, d3, d4] }
  | _ => none }
def FnDiscardMatchesFlatModelWrongFalsely : Prop := fnDiscardMatchesFlatModelRow.holds Try.pinned (OpenSpec.ofChange fnDiscardMatchesFlatModelWrong)

/-- 'zzlaws_root_b1.FnHeldQueueScriptMatchesFlatModel': WHATEVER THE INPUT: true; the input reads as it did. -/
def fnHeldQueueScriptMatchesFlatModelSpec : ChangeSpec := { name := "fnHeldQueueScriptMatchesFlatModel", fn := fun _ => fun
  | [d1, d2] => { results := [.lit (.bool true)], args := [d1, d2] }
  | _ => none }
def fnHeldQueueScriptMatchesFlatModelRow : OpenClaim := { program := "qxb6601345a", sum := "8ed802534773557329c7b8e8b0556f53d4e75abc3409c6f1369ad9bf34742b74", func := "example.com/seriatim/seriatim/zzlaws_root_b1.FnHeldQueueScriptMatchesFlatModel", spec := "fnHeldQueueScriptMatchesFlatModel", apart := false }
def FnHeldQueueScriptMatchesFlatModelSaid : Prop := fnHeldQueueScriptMatchesFlatModelRow.holds Try.pinned (OpenSpec.ofChange fnHeldQueueScriptMatchesFlatModelSpec)

/-- ITS FALSE NEIGHBOUR: 'it returns false'. Refute it at one input. -/
def fnHeldQueueScriptMatchesFlatModelWrong : ChangeSpec := { name := "fnHeldQueueScriptMatchesFlatModel", fn := fun _ => fun
  | [d1, d2] => { results := [.lit (.bool false)], args := [d1, d2] }
  | _ => none }
def FnHeldQueueScriptMatchesFlatModelWrongFalsely : Prop := fnHeldQueueScriptMatchesFlatModelRow.holds Try.pinned (OpenSpec.ofChange fnHeldQueueScriptMatchesFlatModelWrong)

end Rows
end Go.Proofs.Qxb6601345a
