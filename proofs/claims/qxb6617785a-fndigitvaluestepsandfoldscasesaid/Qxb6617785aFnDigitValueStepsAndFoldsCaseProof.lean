/-
  A proof of Rows.FnDigitValueStepsAndFoldsCaseSaid: the table of all bytes, the walks of the law over the contract of ZZdigitValue, and the row's step (the frame is the seat's given shell).
-/
import Derived.Test.Qxb6617785aRows
import Derived.WalkKit
import Derived.Test.Qxb6617785aDigit
import Derived.ProofKit
import Derived.OpenShut
import Derived.ShutString
namespace Go.Proofs.Qxb6617785a.fnDigitValueStepsAndFoldsCase
open Go.ChangeShapes Go.WideShapes Go.ChangeAt Go.RowKit
open Go.ChangeMaps (open_string shut_string)
set_option linter.unusedVariables false      -- a walk need not use every 'w<i>' (that an integer argument fits its kind)

theorem own : ownKnob Try.prog.godebug = none := by kernel_rfl

/-- What the law says of one byte: the value at c (d) and at the next byte (e). -/
def steps (d e : Int) : Bool :=
  (d == 16 && (e == 16 || e == 0 || e == 10)) || (decide (0 ≤ d) && decide (d < 16) && (d != 9) && (d != 15) && (e == d + 1)) || ((d == 9 || d == 15) && e == 16)
/-- What the law says of a letter and of its other case. -/
def folds (c : Int) : Bool :=
  decide (0 ≤ bits .xor .u8 c 32) && decide (bits .xor .u8 c 32 ≤ 255) && (!(decide (97 ≤ bits .or .u8 c 32) && decide (bits .or .u8 c 32 ≤ 122)) || dv (bits .xor .u8 c 32) == dv c)
theorem table : ∀ c : Fin 256, (steps (dv (c.val : Int)) (dv (((c.val : Int) + 1) % 256)) && folds (c.val : Int)) = true := by
  decide +kernel
theorem facts (c : Int) (h0 : 0 ≤ c) (h1 : c ≤ 255) : steps (dv c) (dv ((c + 1) % 256)) = true ∧ folds c = true := by
  obtain ⟨n, rfl⟩ := Int.eq_ofNat_of_zero_le h0
  have t := table ⟨n, by omega⟩
  simpa only [Bool.and_eq_true] using t
theorem steps_cases {d e : Int} (h : steps d e = true) :
    (d = 16 ∧ e = 16) ∨ (d = 16 ∧ e = 0) ∨ (d = 16 ∧ e = 10) ∨ (0 ≤ d ∧ d < 16 ∧ d ≠ 9 ∧ d ≠ 15 ∧ e = d + 1) ∨ (d = 9 ∧ e = 16) ∨ (d = 15 ∧ e = 16) := by
  simp [steps] at h
  omega
theorem folds_facts {c : Int} (h : folds c = true) : 0 ≤ bits .xor .u8 c 32 ∧ bits .xor .u8 c 32 ≤ 255 ∧ (97 ≤ bits .or .u8 c 32 → bits .or .u8 c 32 ≤ 122 → dv (bits .xor .u8 c 32) = dv c) := by
  simp [folds] at h
  obtain ⟨⟨a, b⟩, f⟩ := h
  refine ⟨a, b, fun x y => ?_⟩
  rcases f with f | f
  · omega
  · exact f

set_option maxHeartbeats 1000000 in
theorem ends_yes (c d e : Int) (h0 : 0 ≤ c) (h1 : c ≤ 255) (hx0 : 0 ≤ bits .xor .u8 c 32) (hx1 : bits .xor .u8 c 32 ≤ 255)
    (hd : dv c = d) (he : dv ((c + 1) % 256) = e) (hl0 : 97 ≤ bits .or .u8 c 32) (hl1 : bits .or .u8 c 32 ≤ 122) (hfd : dv (bits .xor .u8 c 32) = d)
    (hs : (d = 16 ∧ e = 16) ∨ (d = 16 ∧ e = 0) ∨ (d = 16 ∧ e = 10) ∨ (d = 9 ∧ e = 16) ∨ (d = 15 ∧ e = 16)) (w : World) :
    Calls Try.prog 5 #[.int .u8 c] w fun r w' => r = .returned (.bool true) ∧ w' = w := by
  rcases hs with ⟨rfl, rfl⟩ | ⟨rfl, rfl⟩ | ⟨rfl, rfl⟩ | ⟨rfl, rfl⟩ | ⟨rfl, rfl⟩
  all_goals
    go_enter Try.func5, Try.ntmps5
    go_wp2_with (go_at_call 8; refine (digit_any _ (by omega) (by omega) _).mono ?_; rintro e w' ⟨rfl, rfl⟩)
    go_ret
    exact ⟨rfl, rfl⟩
set_option maxHeartbeats 1000000 in
theorem next_yes (c d e : Int) (h0 : 0 ≤ c) (h1 : c ≤ 255) (hx0 : 0 ≤ bits .xor .u8 c 32) (hx1 : bits .xor .u8 c 32 ≤ 255)
    (hd : dv c = d) (he : dv ((c + 1) % 256) = e) (hl0 : 97 ≤ bits .or .u8 c 32) (hl1 : bits .or .u8 c 32 ≤ 122) (hfd : dv (bits .xor .u8 c 32) = d)
    (a : 0 ≤ d) (b : d + 1 < 16) (n9 : (d == 9) = false) (n15 : (d == 15) = false) (m0 : (d + 1 == 0) = false) (m10 : (d + 1 == 10) = false) (p0 : (d + 1 != 0) = true) (p10 : (d + 1 != 10) = true) (hde : e = d + 1) (w : World) :
    Calls Try.prog 5 #[.int .u8 c] w fun r w' => r = .returned (.bool true) ∧ w' = w := by
  subst hde
  go_enter Try.func5, Try.ntmps5
  go_wp2_with (go_at_call 8; refine (digit_any _ (by omega) (by omega) _).mono ?_; rintro e w' ⟨rfl, rfl⟩)
  go_ret
  exact ⟨rfl, rfl⟩
set_option maxHeartbeats 1000000 in
theorem ends_low (c d e : Int) (h0 : 0 ≤ c) (h1 : c ≤ 255) (hx0 : 0 ≤ bits .xor .u8 c 32) (hx1 : bits .xor .u8 c 32 ≤ 255)
    (hd : dv c = d) (he : dv ((c + 1) % 256) = e) (hl : bits .or .u8 c 32 < 97)
    (hs : (d = 16 ∧ e = 16) ∨ (d = 16 ∧ e = 0) ∨ (d = 16 ∧ e = 10) ∨ (d = 9 ∧ e = 16) ∨ (d = 15 ∧ e = 16)) (w : World) :
    Calls Try.prog 5 #[.int .u8 c] w fun r w' => r = .returned (.bool true) ∧ w' = w := by
  rcases hs with ⟨rfl, rfl⟩ | ⟨rfl, rfl⟩ | ⟨rfl, rfl⟩ | ⟨rfl, rfl⟩ | ⟨rfl, rfl⟩
  all_goals
    go_enter Try.func5, Try.ntmps5
    go_wp2_with (go_at_call 8; refine (digit_any _ (by omega) (by omega) _).mono ?_; rintro e w' ⟨rfl, rfl⟩)
    go_ret
    exact ⟨rfl, rfl⟩
set_option maxHeartbeats 1000000 in
theorem next_low (c d e : Int) (h0 : 0 ≤ c) (h1 : c ≤ 255) (hx0 : 0 ≤ bits .xor .u8 c 32) (hx1 : bits .xor .u8 c 32 ≤ 255)
    (hd : dv c = d) (he : dv ((c + 1) % 256) = e) (hl : bits .or .u8 c 32 < 97)
    (a : 0 ≤ d) (b : d + 1 < 16) (n9 : (d == 9) = false) (n15 : (d == 15) = false) (m0 : (d + 1 == 0) = false) (m10 : (d + 1 == 10) = false) (p0 : (d + 1 != 0) = true) (p10 : (d + 1 != 10) = true) (hde : e = d + 1) (w : World) :
    Calls Try.prog 5 #[.int .u8 c] w fun r w' => r = .returned (.bool true) ∧ w' = w := by
  subst hde
  go_enter Try.func5, Try.ntmps5
  go_wp2_with (go_at_call 8; refine (digit_any _ (by omega) (by omega) _).mono ?_; rintro e w' ⟨rfl, rfl⟩)
  go_ret
  exact ⟨rfl, rfl⟩
set_option maxHeartbeats 1000000 in
theorem ends_high (c d e : Int) (h0 : 0 ≤ c) (h1 : c ≤ 255) (hx0 : 0 ≤ bits .xor .u8 c 32) (hx1 : bits .xor .u8 c 32 ≤ 255)
    (hd : dv c = d) (he : dv ((c + 1) % 256) = e) (hl : 122 < bits .or .u8 c 32)
    (hs : (d = 16 ∧ e = 16) ∨ (d = 16 ∧ e = 0) ∨ (d = 16 ∧ e = 10) ∨ (d = 9 ∧ e = 16) ∨ (d = 15 ∧ e = 16)) (w : World) :
    Calls Try.prog 5 #[.int .u8 c] w fun r w' => r = .returned (.bool true) ∧ w' = w := by
  rcases hs with ⟨rfl, rfl⟩ | ⟨rfl, rfl⟩ | ⟨rfl, rfl⟩ | ⟨rfl, rfl⟩ | ⟨rfl, rfl⟩
  all_goals
    go_enter Try.func5, Try.ntmps5
    go_wp2_with (go_at_call 8; refine (digit_any _ (by omega) (by omega) _).mono ?_; rintro e w' ⟨rfl, rfl⟩)
    go_ret
    exact ⟨rfl, rfl⟩
set_option maxHeartbeats 1000000 in
theorem next_high (c d e : Int) (h0 : 0 ≤ c) (h1 : c ≤ 255) (hx0 : 0 ≤ bits .xor .u8 c 32) (hx1 : bits .xor .u8 c 32 ≤ 255)
    (hd : dv c = d) (he : dv ((c + 1) % 256) = e) (hl : 122 < bits .or .u8 c 32)
    (a : 0 ≤ d) (b : d + 1 < 16) (n9 : (d == 9) = false) (n15 : (d == 15) = false) (m0 : (d + 1 == 0) = false) (m10 : (d + 1 == 10) = false) (p0 : (d + 1 != 0) = true) (p10 : (d + 1 != 10) = true) (hde : e = d + 1) (w : World) :
    Calls Try.prog 5 #[.int .u8 c] w fun r w' => r = .returned (.bool true) ∧ w' = w := by
  subst hde
  go_enter Try.func5, Try.ntmps5
  go_wp2_with (go_at_call 8; refine (digit_any _ (by omega) (by omega) _).mono ?_; rintro e w' ⟨rfl, rfl⟩)
  go_ret
  exact ⟨rfl, rfl⟩
theorem core (c d e : Int) (h0 : 0 ≤ c) (h1 : c ≤ 255) (hx0 : 0 ≤ bits .xor .u8 c 32) (hx1 : bits .xor .u8 c 32 ≤ 255)
    (hd : dv c = d) (he : dv ((c + 1) % 256) = e) (hf : 97 ≤ bits .or .u8 c 32 → bits .or .u8 c 32 ≤ 122 → dv (bits .xor .u8 c 32) = d)
    (hs : (d = 16 ∧ e = 16) ∨ (d = 16 ∧ e = 0) ∨ (d = 16 ∧ e = 10) ∨ (0 ≤ d ∧ d < 16 ∧ d ≠ 9 ∧ d ≠ 15 ∧ e = d + 1) ∨ (d = 9 ∧ e = 16) ∨ (d = 15 ∧ e = 16)) (w : World) :
    Calls Try.prog 5 #[.int .u8 c] w fun r w' => r = .returned (.bool true) ∧ w' = w := by
  by_cases hn : 0 ≤ d ∧ d < 16 ∧ d ≠ 9 ∧ d ≠ 15 ∧ e = d + 1
  · obtain ⟨a, b, n9, n15, hde⟩ := hn
    have b9 : (d == 9) = false := by simpa using n9
    have b15 : (d == 15) = false := by simpa using n15
    have m0 : (d + 1 == 0) = false := by simp; omega
    have m10 : (d + 1 == 10) = false := by simp; omega
    have p0 : (d + 1 != 0) = true := by simp; omega
    have p10 : (d + 1 != 10) = true := by simp; omega
    by_cases hl : 97 ≤ bits .or .u8 c 32
    · by_cases hk : bits .or .u8 c 32 ≤ 122
      · exact next_yes c d e h0 h1 hx0 hx1 hd he hl hk (hf hl hk) a (by omega) b9 b15 m0 m10 p0 p10 hde w
      · exact next_high c d e h0 h1 hx0 hx1 hd he (by omega) a (by omega) b9 b15 m0 m10 p0 p10 hde w
    · exact next_low c d e h0 h1 hx0 hx1 hd he (by omega) a (by omega) b9 b15 m0 m10 p0 p10 hde w
  · have hs' : (d = 16 ∧ e = 16) ∨ (d = 16 ∧ e = 0) ∨ (d = 16 ∧ e = 10) ∨ (d = 9 ∧ e = 16) ∨ (d = 15 ∧ e = 16) := by omega
    by_cases hl : 97 ≤ bits .or .u8 c 32
    · by_cases hk : bits .or .u8 c 32 ≤ 122
      · exact ends_yes c d e h0 h1 hx0 hx1 hd he hl hk (hf hl hk) hs' w
      · exact ends_high c d e h0 h1 hx0 hx1 hd he (by omega) hs' w
    · exact ends_low c d e h0 h1 hx0 hx1 hd he (by omega) hs' w

theorem walk (a0 : Int) (w0 : (Lit.int .u8 a0).wf = true) (w : World) :
    Calls Try.prog 5 #[.int .u8 a0] w fun e w' => e = .returned (.bool true) ∧ Grown w w' := by
  obtain ⟨h0, h1⟩ := bounds_u8 w0
  obtain ⟨f1, f2⟩ := facts a0 h0 h1
  obtain ⟨x0, x1, x2⟩ := folds_facts f2
  refine (core a0 _ _ h0 h1 x0 x1 rfl rfl x2 (steps_cases f1) w).mono ?_
  rintro e w' ⟨rfl, rfl⟩
  exact ⟨rfl, Grown.refl _⟩

/-! ### THE ROW's STEP: WRITTEN OUT: LEAVE IT -/
set_option maxRecDepth 100000 in
theorem lifted (os : Os) (started : os.Started) (H : Type) (enc : TypeId × Value → H) :
    ReturnsInHanded {} Try.checked os 5 .any (Rows.fnDigitValueStepsAndFoldsCaseSpec.pre6 enc Try.prog Try.f5 Rows.fnDigitValueStepsAndFoldsCaseRow.domain false) (Rows.fnDigitValueStepsAndFoldsCaseSpec.post enc Try.prog Try.f5 false true false false) := by
  refine returnsInHanded_of_change (C := Try.checked) own started (by kernel_rfl) Try.func5
    (ChangeSpec.witness6 (enc := enc) (C := Try.checked) false ⟨#[], #[.int .u8 0], []⟩ 8 (by kernel_rfl) (by kernel_rfl) (by kernel_rfl) (by kernel_rfl)) ?_
  intro W base args ds gs before hval0 hW hcnd _
  have hval : ∀ (j : Nat) t v, Try.f5.params[j]? = some t → args[j]? = some v → Value.okWide Try.prog W .any base t v := hval0
  have hW' := hW
  obtain ⟨p, q, hA0, hV, rfl, hfz, hnd⟩ := hW
  have hA : DataW.TrodAll enc Try.prog W 0 (fun _ => true) true Try.f5.params.toList args.toList ds p := hA0
  rw [Try.params5] at hA hval
  obtain ⟨v0, vs0, d0, ds0, p0, q0, hargs, rfl, rfl, h0, r0⟩ := trodAll_cons hA
  obtain ⟨rfl, rfl, rfl⟩ := trodAll_nil r0
  obtain rfl : args = #[v0] := by cases args; simp_all
  obtain ⟨rfl, rfl⟩ := trodVars_none hV
  obtain ⟨a0, rfl, rfl, rfl, w0⟩ := open_int Try.underlying5 (hval 0 5 v0 rfl rfl) h0
  clear hA0 hval0
  simp only [List.append_nil] at hW'
  refine (walk a0 w0 W).mono fun e W' ⟨he, hg⟩ => ?_
  subst he
  exact ⟨_, rfl, post_of_same (pa := []) (pv := []) hW' (fun _ _ _ => (trodAll_cons_mk (shut_bool Try.underlying4 _) trodAll_mk0)) (fun sp _ => (trodAll_cons_mk (shut_int Try.underlying5 w0) trodAll_mk0)) (fun _ _ => rfl) rfl
    (hg.frame _) hg.2.1 (ok_one (by kernel_rfl) rfl (okWide_bool_mk Try.underlying4 _))⟩

theorem over : Rows.fnDigitValueStepsAndFoldsCaseRow.holds Try.pinned (OpenSpec.ofChange Rows.fnDigitValueStepsAndFoldsCaseSpec) :=
  OpenClaim.holds_of_wide 5 Try.f5 rfl rfl rfl rfl rfl rfl rfl ⟨rfl, rfl, rfl, rfl, rfl⟩ rfl rfl rfl rfl rfl (by kernel_rfl) Try.func5 (by kernel_rfl)
    (of_decide_eq_true (by kernel_rfl)) (by unfold Func.isWrapper; first | (rw [if_pos (by decide +kernel)]; kernel_rfl) | (rw [if_neg (by decide +kernel)]; exact ⟨rfl, rfl⟩))
    (fun os started H enc _ => lifted os started H enc)

/-- ████ THE STATEMENT ████ -/
theorem proved : Rows.FnDigitValueStepsAndFoldsCaseSaid :=
  over
end Go.Proofs.Qxb6617785a.fnDigitValueStepsAndFoldsCase
