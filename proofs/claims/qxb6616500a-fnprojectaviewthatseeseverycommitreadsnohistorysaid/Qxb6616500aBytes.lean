/-
  The contract of the law's own bound on lengths (26): a bool, and nothing turns.
-/
import Derived.Test.Qxb6616500aMem
import Derived.Test.Qxb6616500aRows
namespace Go.Proofs.Qxb6616500a
open Go.RowKit
set_option linter.unusedVariables false
/-- A bool comes back, the world as it was. -/
def SaysB (w w' : World) (e : Ending) : Prop := ∃ b, e = .returned (.bool b) ∧ w' = w
theorem SaysB.mk {w : World} {e : Ending} (b : Bool) (h : e = .returned (.bool b)) : SaysB w w e := ⟨b, h, rfl⟩
set_option maxRecDepth 100000 in
set_option maxHeartbeats 4000000 in
theorem bytes26 (a0 a1 a2 a3 a4 a6 : Option Addr) (n0 n1 n2 n3 n4 n6 q0 q1 q2 q3 q4 q6 : Nat) (upTo : Int) (w : World) :
    Calls Try.prog 26 #[.slice a0 n0 q0, .slice a1 n1 q1, .slice a2 n2 q2, .slice a3 n3 q3, .slice a4 n4 q4, .int .u64 upTo, .slice a6 n6 q6] w fun e w' => SaysB w w' e := by
  go_enter Try.func26, Try.ntmps26
  go_wp2
  all_goals
    go_ret
    first | exact SaysB.mk true rfl | exact SaysB.mk false rfl
end Go.Proofs.Qxb6616500a
