/-
  No cell of these rows narrows 'for every input' (looked for: loops, veiled, ifaces, maps, wideKeys, modest, calm, conditions, laid).
  DERIVED. THE GIVEN ROWS OF THIS SEAT. 1 by the template 'for every input the law returns true; each argument reads behind the call as it read before'; 0 by the template 'total and deterministic' (their statements: Qxb6619011aTotals.lean).
  GIVEN WITH THE SEED: the statements are not yours to turn. If you find one false, say at which input.
  Laid BY PROGRAM, IN A SANDBOX (cutbox-rows.mjs): the forced cells as the released guide's own fill.sh prints them over the translation d01ea22e1192d3a8… (all of the seat's roots in one cut). By AI agents, Wed Nov 11 2026. No macro, syntax, notation, axiom, sorry.
-/
import Derived.Test.Qxb6619011aChecked
import GoSem.Claim
import GoSem.ClaimJoined
import GoSem.ClaimMapViews
import Derived.JoinedTies
import Derived.KernelRfl
namespace Go.Proofs.Qxb6619011a
/- THE CELL 'sum', in the pinned program and in every row, IS THE sha256 OF THE DUMP (.gsa) THAT Qxb6619011aProg.lean LOADS. Nothing in Lean hashes anything: it is a label: what it is worth is what the hold of that sum in a sandbox is worth. -/
noncomputable def Try.pinned : Pinned := { name := "qxb6619011a", sum := "d01ea22e1192d3a8142ab3fbc08c30d14887dbeee5e0b2e3a781d633b9abe338", checked := Try.checked }
namespace Rows
def none {H : Type} : Left H := { results := [], args := [] }

/-- 'zzlaws_root_b1.FnQosSetRebuiltFromLevels': WHATEVER THE INPUT: true; the input reads as it did. -/
def fnQosSetRebuiltFromLevelsSpec : ChangeSpec := { name := "fnQosSetRebuiltFromLevels", fn := fun _ => fun
  | [d1, d2] => { results := [.lit (.bool true)], args := [d1, d2] }
  | _ => none }
def fnQosSetRebuiltFromLevelsRow : OpenClaim := { program := "qxb6619011a", sum := "d01ea22e1192d3a8142ab3fbc08c30d14887dbeee5e0b2e3a781d633b9abe338", func := "example.com/topicward/topicward/zzlaws_root_b1.FnQosSetRebuiltFromLevels", spec := "fnQosSetRebuiltFromLevels", apart := false }
def FnQosSetRebuiltFromLevelsSaid : Prop := fnQosSetRebuiltFromLevelsRow.holds Try.pinned (OpenSpec.ofChange fnQosSetRebuiltFromLevelsSpec)

/-- ITS FALSE NEIGHBOUR: 'it returns false'. Refute it at one input. -/
def fnQosSetRebuiltFromLevelsWrong : ChangeSpec := { name := "fnQosSetRebuiltFromLevels", fn := fun _ => fun
  | [d1, d2] => { results := [.lit (.bool false)], args := [d1, d2] }
  | _ => none }
def FnQosSetRebuiltFromLevelsWrongFalsely : Prop := fnQosSetRebuiltFromLevelsRow.holds Try.pinned (OpenSpec.ofChange fnQosSetRebuiltFromLevelsWrong)

end Rows
end Go.Proofs.Qxb6619011a
