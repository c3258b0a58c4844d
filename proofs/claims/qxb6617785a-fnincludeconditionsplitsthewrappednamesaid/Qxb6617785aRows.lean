/-
  No cell of these rows narrows 'for every input' (looked for: loops, veiled, ifaces, maps, wideKeys, modest, calm, conditions, laid).
  DERIVED. THE GIVEN ROWS OF THIS SEAT. 3 by the template 'for every input the law returns true; each argument reads behind the call as it read before'; 0 by the template 'total and deterministic' (their statements: Qxb6617785aTotals.lean).
  GIVEN WITH THE SEED: the statements are not yours to turn. If you find one false, say at which input.
  Laid BY PROGRAM, IN A SANDBOX (cutbox-rows.mjs): the forced cells as the released guide's own fill.sh prints them over the translation aee5eeed77a2df35… (all of the seat's roots in one cut). By AI agents, Wed Nov 11 2026. No macro, syntax, notation, axiom, sorry.
-/
import Derived.Test.Qxb6617785aChecked
import GoSem.Claim
import GoSem.ClaimJoined
import GoSem.ClaimMapViews
import Derived.JoinedTies
import Derived.KernelRfl
namespace Go.Proofs.Qxb6617785a
/- THE CELL 'sum', in the pinned program and in every row, IS THE sha256 OF THE DUMP (.gsa) THAT Qxb6617785aProg.lean LOADS. Nothing in Lean hashes anything: it is a label: what it is worth is what the hold of that sum in a sandbox is worth. -/
noncomputable def Try.pinned : Pinned := { name := "qxb6617785a", sum := "aee5eeed77a2df35990106d528c96843e4ab6721d5b1991443a54e031c0d0c02", checked := Try.checked }
namespace Rows
def none {H : Type} : Left H := { results := [], args := [] }

/-- 'zzlaws_internal_repo_b1.FnIncludeConditionSplitsTheWrappedName': WHATEVER THE INPUT: true; the input reads as it did. -/
def fnIncludeConditionSplitsTheWrappedNameSpec : ChangeSpec := { name := "fnIncludeConditionSplitsTheWrappedName", fn := fun _ => fun
  | [d] => { results := [.lit (.bool true)], args := [d] }
  | _ => none }
def fnIncludeConditionSplitsTheWrappedNameRow : OpenClaim := { program := "qxb6617785a", sum := "aee5eeed77a2df35990106d528c96843e4ab6721d5b1991443a54e031c0d0c02", func := "example.com/objectwell/objectwell/zzlaws_internal_repo_b1.FnIncludeConditionSplitsTheWrappedName", spec := "fnIncludeConditionSplitsTheWrappedName", apart := false }
def FnIncludeConditionSplitsTheWrappedNameSaid : Prop := fnIncludeConditionSplitsTheWrappedNameRow.holds Try.pinned (OpenSpec.ofChange fnIncludeConditionSplitsTheWrappedNameSpec)

/-- ITS FALSE NEIGHBOUR: 'it returns false'. Refute it at one input. -/
def fnIncludeConditionSplitsTheWrappedNameWrong : ChangeSpec := { name := "fnIncludeConditionSplitsTheWrappedName", fn := fun _ => fun
  | [d] => { results := [.lit (.bool false)], args := [d] }
  | _ => none }
def FnIncludeConditionSplitsTheWrappedNameWrongFalsely : Prop := fnIncludeConditionSplitsTheWrappedNameRow.holds Try.pinned (OpenSpec.ofChange fnIncludeConditionSplitsTheWrappedNameWrong)

/-- 'zzlaws_internal_repo_b1.FnDigitValueCountsEachValue': WHATEVER THE INPUT: true; the input reads as it did. -/
def fnDigitValueCountsEachValueSpec : ChangeSpec := { name := "fnDigitValueCountsEachValue", fn := fun _ => fun
  | [d] => { results := [.lit (.bool true)], args := [d] }
  | _ => none }
def fnDigitValueCountsEachValueRow : OpenClaim := { program := "qxb6617785a", sum := "aee5eeed77a2df35990106d528c96843e4ab6721d5b1991443a54e031c0d0c02", func := "example.com/objectwell/objectwell/zzlaws_internal_repo_b1.FnDigitValueCountsEachValue", spec := "fnDigitValueCountsEachValue", apart := false }
def FnDigitValueCountsEachValueSaid : Prop := fnDigitValueCountsEachValueRow.holds Try.pinned (OpenSpec.ofChange fnDigitValueCountsEachValueSpec)

/-- ITS FALSE NEIGHBOUR: 'it returns false'. Refute it at one input. -/
def fnDigitValueCountsEachValueWrong : ChangeSpec := { name := "fnDigitValueCountsEachValue", fn := fun _ => fun
  | [d] => { results := [.lit (.bool false)], args := [d] }
  | _ => none }
def FnDigitValueCountsEachValueWrongFalsely : Prop := fnDigitValueCountsEachValueRow.holds Try.pinned (OpenSpec.ofChange fnDigitValueCountsEachValueWrong)

/-- 'zzlaws_internal_repo_b1.FnDigitValueStepsAndFoldsCase': WHATEVER THE INPUT: true; the input reads as it did. -/
def fnDigitValueStepsAndFoldsCaseSpec : ChangeSpec := { name := "fnDigitValueStepsAndFoldsCase", fn := fun _ => fun
  | [d] => { results := [.lit (.bool true)], args := [d] }
  | _ => none }
def fnDigitValueStepsAndFoldsCaseRow : OpenClaim := { program := "qxb6617785a", sum := "aee5eeed77a2df35990106d528c96843e4ab6721d5b1991443a54e031c0d0c02", func := "example.com/objectwell/objectwell/zzlaws_internal_repo_b1.FnDigitValueStepsAndFoldsCase", spec := "fnDigitValueStepsAndFoldsCase", apart := false }
def FnDigitValueStepsAndFoldsCaseSaid : Prop := fnDigitValueStepsAndFoldsCaseRow.holds Try.pinned (OpenSpec.ofChange fnDigitValueStepsAndFoldsCaseSpec)

/-- ITS FALSE NEIGHBOUR: 'it returns false'. Refute it at one input. -/
def fnDigitValueStepsAndFoldsCaseWrong : ChangeSpec := { name := "fnDigitValueStepsAndFoldsCase", fn := fun _ => fun
  | [d] => { results := [.lit (.bool false)], args := [d] }
  | _ => none }
def FnDigitValueStepsAndFoldsCaseWrongFalsely : Prop := fnDigitValueStepsAndFoldsCaseRow.holds Try.pinned (OpenSpec.ofChange fnDigitValueStepsAndFoldsCaseWrong)

end Rows
end Go.Proofs.Qxb6617785a
