/-
  A proof of Rows.FnQosSetRebuiltFromLevelsSaid: the walk of the law and of its callees, and the row's step (the frame is the seat's given shell).
-/
import Derived.Test.Qxb6619011aRows
import Derived.WalkKit
import Derived.ProofKit
import Derived.OpenShut
import Derived.ShutString
namespace Go.Proofs.Qxb6619011a.fnQosSetRebuiltFromLevels
open Go.ChangeShapes Go.WideShapes Go.ChangeAt Go.RowKit
open Go.ChangeMaps (open_string shut_string)
set_option linter.unusedVariables false      -- a walk need not use every 'w<i>' (that an integer argument fits its kind)

theorem own : ownKnob Try.prog.godebug = none := by kernel_rfl

/-- What 'has' answers, as the walk writes it. -/
def hasB (s q : Int) : Bool := bits .and .u8 s (2 ^ min q.toNat 8 % 256) != 0
theorem ret_bool {a b : Bool} (h : a = b) : Ending.returned (.bool a) = .returned (.bool b) := by rw [h]
theorem table : ∀ s : Fin 256, ∀ k : Fin 8,
    (if hasB (s.val : Int) (k.val : Int) then bits .or .u8 ((s.val : Int) % 2 ^ k.val) (2 ^ min ((k.val : Nat) : Int).toNat 8 % 256) else (s.val : Int) % 2 ^ k.val) = (s.val : Int) % 2 ^ (k.val + 1) := by
  decide +kernel
theorem round_yes (s : Int) (k : Nat) (h0 : 0 ≤ s) (h1 : s < 256) (hk : k < 8) (h : hasB s k = true) :
    bits .or .u8 (s % 2 ^ k) (2 ^ min ((k : Nat) : Int).toNat 8 % 256) = s % 2 ^ (k + 1) := by
  obtain ⟨n, rfl⟩ := Int.eq_ofNat_of_zero_le h0
  have t := table ⟨n, by omega⟩ ⟨k, hk⟩
  simp only [h, if_true] at t
  exact t
theorem round_yes' (s : Int) (k : Nat) (h0 : 0 ≤ s) (h1 : s < 256) (hk : k < 8) (h : hasB s k = true) :
    bits .or .u8 (s % 2 ^ k) (2 ^ k % 256) = s % 2 ^ (k + 1) := by
  have e : min ((k : Nat) : Int).toNat 8 = k := by omega
  rw [← round_yes s k h0 h1 hk h, e]
theorem round_no (s : Int) (k : Nat) (h0 : 0 ≤ s) (h1 : s < 256) (hk : k < 8) (h : hasB s k = false) :
    s % 2 ^ k = s % 2 ^ (k + 1) := by
  obtain ⟨n, rfl⟩ := Int.eq_ofNat_of_zero_le h0
  have t := table ⟨n, by omega⟩ ⟨k, hk⟩
  simp only [h, Bool.false_eq_true, if_false] at t
  exact t
theorem has_far (s q : Int) (hq : 8 ≤ q) : hasB s q = false := by
  unfold hasB
  have e : min q.toNat 8 = 8 := by omega
  rw [e]
  simp [bits]
  decide
set_option maxHeartbeats 400000 in
theorem has_any (s q : Int) (hq : 0 ≤ q) (w : World) :
    Calls Try.prog 4 #[.int .u8 s, .int .i64 q] w fun e w' => e = .returned (.bool (hasB s q)) ∧ w' = w := by
  go_enter Try.func4, Try.ntmps4
  go_wp2
  go_ret
  exact ⟨rfl, rfl⟩

set_option maxHeartbeats 400000 in
theorem walk (a0 : Int) (a1 : Int) (w0 : (Lit.int .u8 a0).wf = true) (w1 : (Lit.int .i64 a1).wf = true) (w : World) :
    Calls Try.prog 3 #[.int .u8 a0, .int .i64 a1] w fun e w' => e = .returned (.bool true) ∧ Grown w w' := by
  obtain ⟨hs0, hs1⟩ := bounds_u8 w0
  clear w0 w1
  by_cases hn : a1 < 0
  · go_enter Try.func3, Try.ntmps3
    go_wp2
    go_ret
    exact ⟨rfl, by repeat (first | exact Grown.refl _ | apply Grown.drew | apply Grown.alloc)⟩
  · go_enter Try.func3, Try.ntmps3
    go_wp2
    go_loop [5, 6] (fun r i => ∃ k : Nat, k ≤ 8 ∧ i = .int .i64 k ∧ r = .int .u8 (a0 % 2 ^ k)) (fun _ i => 8 - (intOf i).toNat)
    case atStart => exact ⟨0, by omega, rfl, by simp [Int.emod_one]⟩
    case round =>
      obtain ⟨k, hk, rfl, rfl⟩ := hrel
      by_cases hlt : k < 8
      · by_cases hh : hasB a0 k = true
        · have HS : Hid (bits .or .u8 (a0 % 2 ^ k) (2 ^ k % 256) = a0 % 2 ^ (k + 1)) := round_yes' a0 k hs0 (by omega) hlt hh
          go_wp2_with (go_at_call 4; refine (has_any _ _ (by omega) _).mono ?_; rintro e w' ⟨rfl, rfl⟩)
          go_round
          case rel => exact ⟨k + 1, by omega, by go_num, by rw [HS.out]⟩
          case measure => simp [intOf]; omega
        · have hf : hasB a0 k = false := by simpa using hh
          have HS : Hid (a0 % 2 ^ k = a0 % 2 ^ (k + 1)) := round_no a0 k hs0 (by omega) hlt hf
          clear hh
          go_wp2_with (go_at_call 4; refine (has_any _ _ (by omega) _).mono ?_; rintro e w' ⟨rfl, rfl⟩)
          go_round
          case rel => exact ⟨k + 1, by omega, by go_num, by rw [HS.out]⟩
          case measure => simp [intOf]; omega
      · have hk8 : k = 8 := by omega
        subst hk8
        have hm : a0 % 2 ^ 8 = a0 := by omega
        by_cases hq : 8 ≤ a1
        · have hf := has_far a0 a1 hq
          go_wp2_with (go_at_call 4; refine (has_any _ _ (by omega) _).mono ?_; rintro e w' ⟨rfl, rfl⟩)
          go_ret
          exact ⟨rfl, Grown.refl _⟩
        · go_wp2_with (go_at_call 4; refine (has_any _ _ (by omega) _).mono ?_; rintro e w' ⟨rfl, rfl⟩)
          go_ret
          exact ⟨rfl, Grown.refl _⟩

/-! ### THE ROW's STEP: WRITTEN OUT: LEAVE IT -/
set_option maxRecDepth 100000 in
theorem lifted (os : Os) (started : os.Started) (H : Type) (enc : TypeId × Value → H) :
    ReturnsInHanded {} Try.checked os 3 .any (Rows.fnQosSetRebuiltFromLevelsSpec.pre6 enc Try.prog Try.f3 Rows.fnQosSetRebuiltFromLevelsRow.domain false) (Rows.fnQosSetRebuiltFromLevelsSpec.post enc Try.prog Try.f3 false true false false) := by
  refine returnsInHanded_of_change (C := Try.checked) own started (by kernel_rfl) Try.func3
    (ChangeSpec.witness6 (enc := enc) (C := Try.checked) false ⟨#[], #[.int .u8 0, .int .i64 0], []⟩ 8 (by kernel_rfl) (by kernel_rfl) (by kernel_rfl) (by kernel_rfl)) ?_
  intro W base args ds gs before hval0 hW hcnd _
  have hval : ∀ (j : Nat) t v, Try.f3.params[j]? = some t → args[j]? = some v → Value.okWide Try.prog W .any base t v := hval0
  have hW' := hW
  obtain ⟨p, q, hA0, hV, rfl, hfz, hnd⟩ := hW
  have hA : DataW.TrodAll enc Try.prog W 0 (fun _ => true) true Try.f3.params.toList args.toList ds p := hA0
  rw [Try.params3] at hA hval
  obtain ⟨v0, vs0, d0, ds0, p0, q0, hargs, rfl, rfl, h0, r0⟩ := trodAll_cons hA
  obtain ⟨v1, vs1, d1, ds1, p1, q1, rfl, rfl, rfl, h1, r1⟩ := trodAll_cons r0
  obtain ⟨rfl, rfl, rfl⟩ := trodAll_nil r1
  obtain rfl : args = #[v0, v1] := by cases args; simp_all
  obtain ⟨rfl, rfl⟩ := trodVars_none hV
  obtain ⟨a0, rfl, rfl, rfl, w0⟩ := open_int Try.underlying5 (hval 0 5 v0 rfl rfl) h0
  obtain ⟨a1, rfl, rfl, rfl, w1⟩ := open_int Try.underlying3 (hval 1 3 v1 rfl rfl) h1
  clear hA0 hval0
  simp only [List.append_nil] at hW'
  refine (walk a0 a1 w0 w1 W).mono fun e W' ⟨he, hg⟩ => ?_
  subst he
  exact ⟨_, rfl, post_of_same (pa := []) (pv := []) hW' (fun _ _ _ => (trodAll_cons_mk (shut_bool Try.underlying4 _) trodAll_mk0)) (fun sp _ => (trodAll_cons_mk (shut_int Try.underlying5 w0) (trodAll_cons_mk (shut_int Try.underlying3 w1) trodAll_mk0))) (fun _ _ => rfl) rfl
    (hg.frame _) hg.2.1 (ok_one (by kernel_rfl) rfl (okWide_bool_mk Try.underlying4 _))⟩

theorem over : Rows.fnQosSetRebuiltFromLevelsRow.holds Try.pinned (OpenSpec.ofChange Rows.fnQosSetRebuiltFromLevelsSpec) :=
  OpenClaim.holds_of_wide 3 Try.f3 rfl rfl rfl rfl rfl rfl rfl ⟨rfl, rfl, rfl, rfl, rfl⟩ rfl rfl rfl rfl rfl (by kernel_rfl) Try.func3 (by kernel_rfl)
    (of_decide_eq_true (by kernel_rfl)) (by unfold Func.isWrapper; first | (rw [if_pos (by decide +kernel)]; kernel_rfl) | (rw [if_neg (by decide +kernel)]; exact ⟨rfl, rfl⟩))
    (fun os started H enc _ => lifted os started H enc)

/-- ████ THE STATEMENT ████ -/
theorem proved : Rows.FnQosSetRebuiltFromLevelsSaid :=
  over
end Go.Proofs.Qxb6619011a.fnQosSetRebuiltFromLevels
