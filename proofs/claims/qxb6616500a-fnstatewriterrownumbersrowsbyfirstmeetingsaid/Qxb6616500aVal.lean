/-
  The contract of toValue (25).
-/
import Derived.Test.Qxb6616500aRows
import Derived.Test.Qxb6616500aMem
namespace Go.Proofs.Qxb6616500a
open Go.RowKit
/-- What toValue makes of a Val: its kind and its number. -/
def tvp (v : Bool × Int) : Int × Int := if v.1 then (0, 0) else (1, v.2)
theorem tvp_null (i : Int) : tvp (true, i) = (0, 0) := rfl
theorem tvp_int (i : Int) : tvp (false, i) = (1, i) := rfl

set_option maxHeartbeats 400000 in
theorem zzint_any (i : Int) (w : World) :
    Calls Try.prog 32 #[.int .i64 i] w fun e w' => e = .returned (.agg #[.int .u8 1, .int .i64 i, .pointer none]) ∧ w' = w.alloc (.cells #[.int .u8 1, .int .i64 i, .pointer none] 53) := by
  go_enter Try.func32, Try.ntmps32
  go_wp2
  exact bodyPost_ret (v := .agg #[.int .u8 1, .int .i64 i, .pointer none]) (by simp [results, Try.results32, go_sem]) rfl ⟨rfl, rfl⟩

theorem tv_null (i : Int) (w : World) :
    Calls Try.prog 25 #[.agg #[.bool true, .int .i64 i]] w fun e w' => e = .returned (.agg #[.int .u8 0, .int .i64 0, .pointer none]) ∧ Below w.heap.size w w' := by
  go_enter Try.func25, Try.ntmps25
  go_wp2
  exact bodyPost_ret (v := .agg #[.int .u8 0, .int .i64 0, .pointer none]) (by simp [results, Try.results25, go_sem]) rfl ⟨rfl, ((Below.refl _ _).alloc (Nat.le_refl _) _).alloc (by simp) _⟩
theorem tv_int (i : Int) (w : World) :
    Calls Try.prog 25 #[.agg #[.bool false, .int .i64 i]] w fun e w' => e = .returned (.agg #[.int .u8 1, .int .i64 i, .pointer none]) ∧ Below w.heap.size w w' := by
  go_enter Try.func25, Try.ntmps25
  go_wp2_with (go_at_call 32; refine (zzint_any _ _).mono ?_; rintro e w1 ⟨rfl, rfl⟩)
  exact bodyPost_ret (v := .agg #[.int .u8 1, .int .i64 i, .pointer none]) (by simp [results, Try.results25, go_sem]) rfl ⟨rfl, (((Below.refl _ _).alloc (Nat.le_refl _) _).alloc (by simp) _).alloc (by simp; omega) _⟩
/-- toValue: whatever the Val. -/
theorem tv_any (b : Bool) (i : Int) (w : World) :
    Calls Try.prog 25 #[.agg #[.bool b, .int .i64 i]] w fun e w' => e = .returned (.agg #[.int .u8 (tvp (b, i)).1, .int .i64 (tvp (b, i)).2, .pointer none]) ∧ Below w.heap.size w w' := by
  cases b
  · exact tv_int i w
  · exact tv_null i w
end Go.Proofs.Qxb6616500a
