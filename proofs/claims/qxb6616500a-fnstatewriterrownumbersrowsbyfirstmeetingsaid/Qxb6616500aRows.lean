/-
  No cell of these rows narrows 'for every input' (looked for: loops, veiled, ifaces, maps, wideKeys, modest, calm, conditions, laid).
  DERIVED. THE GIVEN ROWS OF THIS SEAT. 3 by the template 'for every input the law returns true; each argument reads behind the call as it read before'; 0 by the template 'total and deterministic' (their statements: Qxb6616500aTotals.lean).
  GIVEN WITH THE SEED: the statements are not yours to turn. If you find one false, say at which input.
  Laid BY PROGRAM, IN A SANDBOX (cutbox-rows.mjs): the forced cells as the released guide's own fill.sh prints them over the translation 61082fec5c10a4d8… (all of the seat's roots in one cut). By AI agents, Wed Nov 11 2026. No macro, syntax, notation, axiom, sorry.
-/
import Derived.Test.Qxb6616500aChecked
import GoSem.Claim
import GoSem.ClaimJoined
import GoSem.ClaimMapViews
import Derived.JoinedTies
import Derived.KernelRfl
namespace Go.Proofs.Qxb6616500a
/- THE CELL 'sum', in the pinned program and in every row, IS THE sha256 OF THE DUMP (.gsa) THAT Qxb6616500aProg.lean LOADS. Nothing in Lean hashes anything: it is a label: what it is worth is what the hold of that sum in a sandbox is worth. -/
noncomputable def Try.pinned : Pinned := { name := "qxb6616500a", sum := "61082fec5c10a4d8262541b916969f0e4346033fbb4ed159865c04ee8f6bb76f", checked := Try.checked }
namespace Rows
def none {H : Type} : Left H := { results := [], args := [] }

/-- 'zzlaws_pkg_engine_b1.FnStateWriterRowNumbersRowsByFirstMeeting': WHATEVER THE INPUT: true; the input reads as it did. -/
def fnStateWriterRowNumbersRowsByFirstMeetingSpec : ChangeSpec := { name := "fnStateWriterRowNumbersRowsByFirstMeeting", fn := fun _ => fun
  | [d1, d2, d3] => { results := [.lit (.bool true)], args := [d1, d2, d3] }
  | _ => none }
def fnStateWriterRowNumbersRowsByFirstMeetingRow : OpenClaim := { program := "qxb6616500a", sum := "61082fec5c10a4d8262541b916969f0e4346033fbb4ed159865c04ee8f6bb76f", func := "example.com/lockweave/lockweave/zzlaws_pkg_engine_b1.FnStateWriterRowNumbersRowsByFirstMeeting", spec := "fnStateWriterRowNumbersRowsByFirstMeeting", apart := false }
def FnStateWriterRowNumbersRowsByFirstMeetingSaid : Prop := fnStateWriterRowNumbersRowsByFirstMeetingRow.holds Try.pinned (OpenSpec.ofChange fnStateWriterRowNumbersRowsByFirstMeetingSpec)

/-- ITS FALSE NEIGHBOUR: 'it returns false'. Refute it at one input. -/
def fnStateWriterRowNumbersRowsByFirstMeetingWrong : ChangeSpec := { name := "fnStateWriterRowNumbersRowsByFirstMeeting", fn := fun _ => fun
  | [d1, d2, d3] => { results := [.lit (.bool false)], args := [d1, d2, d3] }
  | _ => none }
def FnStateWriterRowNumbersRowsByFirstMeetingWrongFalsely : Prop := fnStateWriterRowNumbersRowsByFirstMeetingRow.holds Try.pinned (OpenSpec.ofChange fnStateWriterRowNumbersRowsByFirstMeetingWrong)

/-- 'zzlaws_pkg_engine_b1.FnProjectReadsEveryColumnAsItsViewSeesItAtAnyCut': WHATEVER THE INPUT: true; the input reads as it did. -/
def fnProjectReadsEveryColumnAsItsViewSeesItAtAnyCutSpec : ChangeSpec := { name := "fnProjectReadsEveryColumnAsItsViewSeesItAtAnyCut", fn := fun _ => fun
  | [d1, d2, d3, d4, d5, d6, d7, d8] => { results := [.lit (.bool true)], args := [d1, d2, d3, d4, d5, d6, d7, d8] }
  | _ => none }
def fnProjectReadsEveryColumnAsItsViewSeesItAtAnyCutRow : OpenClaim := { program := "qxb6616500a", sum := "61082fec5c10a4d8262541b916969f0e4346033fbb4ed159865c04ee8f6bb76f", func := "example.com/lockweave/lockweave/zzlaws_pkg_engine_b1.FnProjectReadsEveryColumnAsItsViewSeesItAtAnyCut", spec := "fnProjectReadsEveryColumnAsItsViewSeesItAtAnyCut", unfollowed := true, recurses := true, apart := false }
def FnProjectReadsEveryColumnAsItsViewSeesItAtAnyCutSaid : Prop := fnProjectReadsEveryColumnAsItsViewSeesItAtAnyCutRow.holds Try.pinned (OpenSpec.ofChange fnProjectReadsEveryColumnAsItsViewSeesItAtAnyCutSpec)

/-- ITS FALSE NEIGHBOUR: 'it returns false'. Refute it at one input. -/
def fnProjectReadsEveryColumnAsItsViewSeesItAtAnyCutWrong : ChangeSpec := { name := "fnProjectReadsEveryColumnAsItsViewSeesItAtAnyCut", fn := fun _ => fun
  | [d1, d2, d3, d4, d5, d6, d7, d8] => { results := [.lit (.bool false)], args := [d1, d2, d3, d4, d5, d6, d7, d8] }
  | _ => none }
def FnProjectReadsEveryColumnAsItsViewSeesItAtAnyCutWrongFalsely : Prop := fnProjectReadsEveryColumnAsItsViewSeesItAtAnyCutRow.holds Try.pinned (OpenSpec.ofChange fnProjectReadsEveryColumnAsItsViewSeesItAtAnyCutWrong)

/-- 'zzlaws_pkg_engine_b1.FnProjectAViewThatSeesEveryCommitReadsNoHistory': WHATEVER THE INPUT: true; the input reads as it did. -/
def fnProjectAViewThatSeesEveryCommitReadsNoHistorySpec : ChangeSpec := { name := "fnProjectAViewThatSeesEveryCommitReadsNoHistory", fn := fun _ => fun
  | [d1, d2, d3, d4, d5, d6, d7] => { results := [.lit (.bool true)], args := [d1, d2, d3, d4, d5, d6, d7] }
  | _ => none }
def fnProjectAViewThatSeesEveryCommitReadsNoHistoryRow : OpenClaim := { program := "qxb6616500a", sum := "61082fec5c10a4d8262541b916969f0e4346033fbb4ed159865c04ee8f6bb76f", func := "example.com/lockweave/lockweave/zzlaws_pkg_engine_b1.FnProjectAViewThatSeesEveryCommitReadsNoHistory", spec := "fnProjectAViewThatSeesEveryCommitReadsNoHistory", unfollowed := true, recurses := true, apart := false }
def FnProjectAViewThatSeesEveryCommitReadsNoHistorySaid : Prop := fnProjectAViewThatSeesEveryCommitReadsNoHistoryRow.holds Try.pinned (OpenSpec.ofChange fnProjectAViewThatSeesEveryCommitReadsNoHistorySpec)

/-- ITS FALSE NEIGHBOUR: 'it returns false'. Refute it at one input. -/
def fnProjectAViewThatSeesEveryCommitReadsNoHistoryWrong : ChangeSpec := { name := "fnProjectAViewThatSeesEveryCommitReadsNoHistory", fn := fun _ => fun
  | [d1, d2, d3, d4, d5, d6, d7] => { results := [.lit (.bool false)], args := [d1, d2, d3, d4, d5, d6, d7] }
  | _ => none }
def FnProjectAViewThatSeesEveryCommitReadsNoHistoryWrongFalsely : Prop := fnProjectAViewThatSeesEveryCommitReadsNoHistoryRow.holds Try.pinned (OpenSpec.ofChange fnProjectAViewThatSeesEveryCommitReadsNoHistoryWrong)

end Rows
end Go.Proofs.Qxb6616500a
