/-
  The contract of repo.ZZdigitValue (function 8) over the seat's program: for every byte it returns dv, and the world stands.
-/
import Derived.Test.Qxb6617785aRows
import Derived.WalkKit
import Derived.ProofKit
import Derived.OpenShut
import Derived.ShutString
namespace Go.Proofs.Qxb6617785a
open Go.ChangeShapes Go.WideShapes Go.ChangeAt Go.RowKit
def dv (c : Int) : Int := if 48 ≤ c ∧ c ≤ 57 then c - 48 else if 97 ≤ c ∧ c ≤ 102 then c - 87 else if 65 ≤ c ∧ c ≤ 70 then c - 55 else 16
theorem ret_int {k : IntKind} {a b : Int} (h : a = b) : Ending.returned (.int k a) = .returned (.int k b) := by rw [h]
set_option maxHeartbeats 400000 in
theorem digit_any (c : Int) (h0 : 0 ≤ c) (h1 : c ≤ 255) (w : World) :
    Calls Try.prog 8 #[.int .u8 c] w fun e w' => e = .returned (.int .u64 (dv c)) ∧ w' = w := by
  by_cases a : 48 ≤ c ∧ c ≤ 57
  · obtain ⟨a1, a2⟩ := a
    go_enter Try.func8, Try.ntmps8
    go_wp2
    go_ret
    exact ⟨ret_int (by unfold dv; rw [if_pos ⟨a1, a2⟩]), rfl⟩
  · by_cases b : 97 ≤ c ∧ c ≤ 102
    · obtain ⟨b1, b2⟩ := b
      have a' : 57 < c := by omega
      go_enter Try.func8, Try.ntmps8
      go_wp2
      go_ret
      exact ⟨ret_int (by unfold dv; rw [if_neg (by omega), if_pos ⟨b1, b2⟩]; omega), rfl⟩
    · by_cases d : 65 ≤ c ∧ c ≤ 70
      · obtain ⟨d1, d2⟩ := d
        have a' : 57 < c := by omega
        have b' : c < 97 := by omega
        go_enter Try.func8, Try.ntmps8
        go_wp2
        go_ret
        exact ⟨ret_int (by unfold dv; rw [if_neg (by omega), if_neg (by omega), if_pos ⟨d1, d2⟩]; omega), rfl⟩
      · have e : (16 : Int) = dv c := by unfold dv; rw [if_neg a, if_neg b, if_neg d]
        have E : Hid ((16 : Int) = dv c) := e
        clear e
        go_enter Try.func8, Try.ntmps8
        go_wp2
        all_goals
          go_ret
          exact ⟨ret_int E.out, rfl⟩
end Go.Proofs.Qxb6617785a
