/-
  A proof of Rows.FnDigitValueCountsEachValueSaid: the plain count, the walk of the law over the contract of ZZdigitValue, and the row's step (the frame is the seat's given shell).
-/
import Derived.Test.Qxb6617785aRows
import Derived.WalkKit
import Derived.Test.Qxb6617785aDigit
import Derived.ProofKit
import Derived.OpenShut
import Derived.ShutString
namespace Go.Proofs.Qxb6617785a.fnDigitValueCountsEachValue
open Go.ChangeShapes Go.WideShapes Go.ChangeAt Go.RowKit
open Go.ChangeMaps (open_string shut_string)
set_option linter.unusedVariables false      -- a walk need not use every 'w<i>' (that an integer argument fits its kind)

theorem own : ownKnob Try.prog.godebug = none := by kernel_rfl

/-- How many of the first k bytes have the value v. -/
def cnt (v : Int) : Nat → Nat
  | 0 => 0
  | k + 1 => cnt v k + (if dv (k : Int) = v then 1 else 0)
theorem cnt_yes {v : Int} {k : Nat} (h : dv (k : Int) = v) : cnt v (k + 1) = cnt v k + 1 := by
  show cnt v k + _ = _; rw [if_pos h]
theorem cnt_no {v : Int} {k : Nat} (h : ¬ dv (k : Int) = v) : cnt v (k + 1) = cnt v k := by
  show cnt v k + _ = _; rw [if_neg h]; rfl
theorem cnt_le (v : Int) (k : Nat) : cnt v k ≤ k := by
  induction k with
  | zero => exact Nat.le_refl _
  | succ k ih => unfold cnt; split <;> omega
theorem dv_le (c : Int) : 0 ≤ dv c ∧ dv c ≤ 16 := by unfold dv; split <;> (try split) <;> (try split) <;> omega
theorem cnt_far (v : Int) (h : 16 < v) (k : Nat) : cnt v k = 0 := by
  induction k with
  | zero => rfl
  | succ k ih =>
    unfold cnt
    have := dv_le (k : Int)
    rw [ih, if_neg (by omega)]
theorem cnt_table : ∀ v : Fin 17, cnt (v.val : Int) 256 = if v.val < 10 then 1 else if v.val < 16 then 2 else 234 := by
  decide +kernel
def want (v : Int) : Int := if v < 10 then 1 else if v < 16 then 2 else if v = 16 then 234 else 0
theorem cnt_want (v : Int) (h0 : 0 ≤ v) : (cnt v 256 : Int) = want v := by
  unfold want
  by_cases h : v ≤ 16
  · obtain ⟨n, rfl⟩ := Int.eq_ofNat_of_zero_le h0
    have t := cnt_table ⟨n, by omega⟩
    simp only at t
    by_cases a : n < 10
    · rw [t, if_pos a, if_pos (show (n : Int) < 10 by omega)]; rfl
    · by_cases b : n < 16
      · rw [t, if_neg a, if_pos b, if_neg (show ¬ (n : Int) < 10 by omega), if_pos (show (n : Int) < 16 by omega)]; rfl
      · rw [t, if_neg a, if_neg b, if_neg (show ¬ (n : Int) < 10 by omega), if_neg (show ¬ (n : Int) < 16 by omega), if_pos (show (n : Int) = 16 by omega)]; rfl
  · rw [cnt_far v (by omega), if_neg (by omega), if_neg (by omega), if_neg (by omega)]; rfl

set_option maxRecDepth 100000 in
set_option maxHeartbeats 400000 in
theorem walk (a0 : Int) (w0 : (Lit.int .u64 a0).wf = true) (w : World) :
    Calls Try.prog 4 #[.int .u64 a0] w fun e w' => e = .returned (.bool true) ∧ Grown w w' := by
  obtain ⟨hv0, hv1⟩ := bounds_u64 w0
  clear w0 hv1
  go_enter Try.func4, Try.ntmps4
  go_wp2
  go_loop [3, 4] (fun n i => ∃ k : Nat, k ≤ 256 ∧ i = .int .i64 k ∧ n = .int .i64 (cnt a0 k)) (fun _ i => 256 - (intOf i).toNat)
  case atStart => exact ⟨0, by omega, rfl, rfl⟩
  case round =>
    obtain ⟨k, hk, rfl, rfl⟩ := hrel
    have hcl := cnt_le a0 k
    by_cases hlt : k < 256
    · have hk0 : (0 : Int) ≤ k := by omega
      by_cases hd : dv k = a0
      · have HS : Hid (cnt a0 (k + 1) = cnt a0 k + 1) := cnt_yes hd
        have hb : (dv (k : Int) == a0) = true := by simpa using hd
        clear hd
        go_wp2_with (go_at_call 8; refine (digit_any _ (by omega) (by omega) _).mono ?_; rintro e w' ⟨rfl, rfl⟩)
        go_round
        case rel => exact ⟨k + 1, by omega, by go_num, by rw [HS.out]; go_num⟩
        case measure => simp [intOf]; omega
      · have HS : Hid (cnt a0 (k + 1) = cnt a0 k) := cnt_no hd
        have hb : (dv (k : Int) == a0) = false := by simpa using hd
        clear hd
        go_wp2_with (go_at_call 8; refine (digit_any _ (by omega) (by omega) _).mono ?_; rintro e w' ⟨rfl, rfl⟩)
        go_round
        case rel => exact ⟨k + 1, by omega, by go_num, by rw [HS.out]⟩
        case measure => simp [intOf]; omega
    · have hk2 : k = 256 := by omega
      subst hk2
      have hx := cnt_want a0 hv0
      unfold want at hx
      by_cases h10 : a0 < 10
      · rw [if_pos h10] at hx
        go_wp2
        go_ret
        exact ⟨rfl, Grown.refl _⟩
      · rw [if_neg h10] at hx
        by_cases h16 : a0 < 16
        · rw [if_pos h16] at hx
          go_wp2
          go_ret
          exact ⟨rfl, Grown.refl _⟩
        · rw [if_neg h16] at hx
          by_cases he : a0 = 16
          · rw [if_pos he] at hx
            have hb : (a0 == 16) = true := by simpa using he
            clear he
            go_wp2
            go_ret
            exact ⟨rfl, Grown.refl _⟩
          · rw [if_neg he] at hx
            have hb : (a0 == 16) = false := by simpa using he
            clear he
            go_wp2
            go_ret
            exact ⟨rfl, Grown.refl _⟩

/-! ### THE ROW's STEP: WRITTEN OUT: LEAVE IT -/
set_option maxRecDepth 100000 in
theorem lifted (os : Os) (started : os.Started) (H : Type) (enc : TypeId × Value → H) :
    ReturnsInHanded {} Try.checked os 4 .any (Rows.fnDigitValueCountsEachValueSpec.pre6 enc Try.prog Try.f4 Rows.fnDigitValueCountsEachValueRow.domain false) (Rows.fnDigitValueCountsEachValueSpec.post enc Try.prog Try.f4 false true false false) := by
  refine returnsInHanded_of_change (C := Try.checked) own started (by kernel_rfl) Try.func4
    (ChangeSpec.witness6 (enc := enc) (C := Try.checked) false ⟨#[], #[.int .u64 0], []⟩ 8 (by kernel_rfl) (by kernel_rfl) (by kernel_rfl) (by kernel_rfl)) ?_
  intro W base args ds gs before hval0 hW hcnd _
  have hval : ∀ (j : Nat) t v, Try.f4.params[j]? = some t → args[j]? = some v → Value.okWide Try.prog W .any base t v := hval0
  have hW' := hW
  obtain ⟨p, q, hA0, hV, rfl, hfz, hnd⟩ := hW
  have hA : DataW.TrodAll enc Try.prog W 0 (fun _ => true) true Try.f4.params.toList args.toList ds p := hA0
  rw [Try.params4] at hA hval
  obtain ⟨v0, vs0, d0, ds0, p0, q0, hargs, rfl, rfl, h0, r0⟩ := trodAll_cons hA
  obtain ⟨rfl, rfl, rfl⟩ := trodAll_nil r0
  obtain rfl : args = #[v0] := by cases args; simp_all
  obtain ⟨rfl, rfl⟩ := trodVars_none hV
  obtain ⟨a0, rfl, rfl, rfl, w0⟩ := open_int Try.underlying25 (hval 0 25 v0 rfl rfl) h0
  clear hA0 hval0
  simp only [List.append_nil] at hW'
  refine (walk a0 w0 W).mono fun e W' ⟨he, hg⟩ => ?_
  subst he
  exact ⟨_, rfl, post_of_same (pa := []) (pv := []) hW' (fun _ _ _ => (trodAll_cons_mk (shut_bool Try.underlying4 _) trodAll_mk0)) (fun sp _ => (trodAll_cons_mk (shut_int Try.underlying25 w0) trodAll_mk0)) (fun _ _ => rfl) rfl
    (hg.frame _) hg.2.1 (ok_one (by kernel_rfl) rfl (okWide_bool_mk Try.underlying4 _))⟩

theorem over : Rows.fnDigitValueCountsEachValueRow.holds Try.pinned (OpenSpec.ofChange Rows.fnDigitValueCountsEachValueSpec) :=
  OpenClaim.holds_of_wide 4 Try.f4 rfl rfl rfl rfl rfl rfl rfl ⟨rfl, rfl, rfl, rfl, rfl⟩ rfl rfl rfl rfl rfl (by kernel_rfl) Try.func4 (by kernel_rfl)
    (of_decide_eq_true (by kernel_rfl)) (by unfold Func.isWrapper; first | (rw [if_pos (by decide +kernel)]; kernel_rfl) | (rw [if_neg (by decide +kernel)]; exact ⟨rfl, rfl⟩))
    (fun os started H enc _ => lifted os started H enc)

/-- ████ THE STATEMENT ████ -/
theorem proved : Rows.FnDigitValueCountsEachValueSaid :=
  over
end Go.Proofs.Qxb6617785a.fnDigitValueCountsEachValue
