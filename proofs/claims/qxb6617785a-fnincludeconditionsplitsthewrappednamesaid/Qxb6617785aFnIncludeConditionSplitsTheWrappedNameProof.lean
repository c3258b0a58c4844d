/-
  A proof of Rows.FnIncludeConditionSplitsTheWrappedNameSaid: a contract of ZZincludeCondition at every string, the walks of the law's ways, and the row's step (the frame is the seat's given shell).
-/
import Derived.Test.Qxb6617785aRows
import Derived.WalkKit
import Derived.Test.Qxb6617785aCond
import Derived.WalkSpells
import Derived.ProofKit
import Derived.OpenShut
import Derived.ShutString
namespace Go.Proofs.Qxb6617785a.fnIncludeConditionSplitsTheWrappedName
open Go.ChangeShapes Go.WideShapes Go.ChangeAt Go.RowKit
open Go.ChangeMaps (open_string shut_string)
set_option linter.unusedVariables false      -- a walk need not use every 'w<i>' (that an integer argument fits its kind)

theorem own : ownKnob Try.prog.godebug = none := by kernel_rfl

theorem ret_two {s t : ByteArray} {a b : Bool} (hs : s = t) (h : a = b) : Ending.returned (.tuple #[.string s, .bool a]) = .returned (.tuple #[.string t, .bool b]) := by rw [hs, h]
set_option maxHeartbeats 1000000 in
theorem ic_any (s : ByteArray) (hs : s.size ≤ 9223372036854775807) (w : World) :
    Calls Try.prog 7 #[.string s] w fun e w' => e = .returned (.tuple #[.string (cond s).1, .bool (cond s).2]) ∧ w' = w := by
  by_cases c1 : (s.toList == [105, 110, 99, 108, 117, 100, 101, 46, 112, 97, 116, 104]) = true
  · have E : Hid (cond s = (⟨#[]⟩, true)) := by show cond s = _; unfold cond; rw [if_pos c1]
    go_enter Try.func7, Try.ntmps7
    go_wp2
    go_ret2
    exact ⟨ret_two (by rw [E.out]) (by rw [E.out]), rfl⟩
  · have c1' : (s.toList == [105, 110, 99, 108, 117, 100, 101, 46, 112, 97, 116, 104]) = false := by simpa using c1
    by_cases c2 : s.size < 10
    · have E : Hid (cond s = (⟨#[]⟩, false)) := by show cond s = _; unfold cond; rw [if_neg c1, if_pos c2]
      clear c1
      go_enter Try.func7, Try.ntmps7
      go_wp2
      go_ret2
      exact ⟨ret_two (by rw [E.out]) (by rw [E.out]), rfl⟩
    · by_cases c3 : ((s.extract 0 10).toList == [105, 110, 99, 108, 117, 100, 101, 105, 102, 46]) = true
      · by_cases c4 : s.size - 10 < 5
        · have E : Hid (cond s = (s.extract 10 s.size, false)) := by show cond s = _; unfold cond; rw [if_neg c1, if_neg c2, if_pos c3, if_pos c4]
          clear c1
          go_enter Try.func7, Try.ntmps7
          go_wp2
          go_ret2
          exact ⟨ret_two (by rw [E.out]) (by rw [E.out]), rfl⟩
        · by_cases c5 : (((s.extract 10 s.size).extract (s.size - 10 - 5) (s.size - 10)).toList == [46, 112, 97, 116, 104]) = true
          · have E : Hid (cond s = ((s.extract 10 s.size).extract 0 (s.size - 10 - 5), true)) := by show cond s = _; unfold cond; rw [if_neg c1, if_neg c2, if_pos c3, if_neg c4, if_pos c5]
            clear c1
            go_enter Try.func7, Try.ntmps7
            go_wp2
            go_ret2
            exact ⟨ret_two (by rw [E.out]) (by rw [E.out]), rfl⟩
          · have E : Hid (cond s = (s.extract 10 s.size, false)) := by show cond s = _; unfold cond; rw [if_neg c1, if_neg c2, if_pos c3, if_neg c4, if_neg c5]
            have c5' : (((s.extract 10 s.size).extract (s.size - 10 - 5) (s.size - 10)).toList == [46, 112, 97, 116, 104]) = false := by simpa using c5
            clear c1 c5
            go_enter Try.func7, Try.ntmps7
            go_wp2
            go_ret2
            exact ⟨ret_two (by rw [E.out]) (by rw [E.out]), rfl⟩
      · have E : Hid (cond s = (⟨#[]⟩, false)) := by show cond s = _; unfold cond; rw [if_neg c1, if_neg c2, if_neg c3]
        have c3' : ((s.extract 0 10).toList == [105, 110, 99, 108, 117, 100, 101, 105, 102, 46]) = false := by simpa using c3
        clear c1 c3
        go_enter Try.func7, Try.ntmps7
        go_wp2
        go_ret2
        exact ⟨ret_two (by rw [E.out]) (by rw [E.out]), rfl⟩
theorem ic_is (s r : ByteArray) (b : Bool) (hs : s.size ≤ 9223372036854775807) (h : cond s = (r, b)) (w : World) :
    Calls Try.prog 7 #[.string s] w fun e w' => e = .returned (.tuple #[.string r, .bool b]) ∧ w' = w := by
  refine (ic_any s hs w).mono ?_
  rintro e w' ⟨rfl, rfl⟩
  exact ⟨by rw [h], rfl⟩

theorem path_of {n : ByteArray} (h : (n.toList == [105, 110, 99, 108, 117, 100, 101, 46, 112, 97, 116, 104]) = true) : n = ⟨#[105, 110, 99, 108, 117, 100, 101, 46, 112, 97, 116, 104]⟩ := by
  apply ext_toList
  rw [beq_iff_eq.1 h]
  simp [Lib.toList_data]
theorem size_one (n : ByteArray) : (⟨#[105, 110, 99, 108, 117, 100, 101, 105, 102, 46]⟩ ++ n ++ ⟨#[46, 112, 97, 116, 104]⟩ : ByteArray).size = 10 + n.size + 5 := by
  rw [ByteArray.size_append, ByteArray.size_append]; rfl
theorem size_two (n : ByteArray) : (⟨#[105, 110, 99, 108, 117, 100, 101, 73, 102, 46]⟩ ++ n ++ ⟨#[46, 112, 97, 116, 104]⟩ : ByteArray).size = 10 + n.size + 5 := by
  rw [ByteArray.size_append, ByteArray.size_append]; rfl

set_option maxHeartbeats 1000000 in
theorem long (n : ByteArray) (hz : 1048576 < n.size) (hm : n.size ≤ 9223372036854775807) (w : World) :
    Calls Try.prog 3 #[.string n] w fun e w' => e = .returned (.bool true) ∧ w' = w := by
  go_enter Try.func3, Try.ntmps3
  go_wp2
  go_ret
  exact ⟨rfl, rfl⟩
theorem small (n : ByteArray) (hz : n.size ≤ 1048576) (w : World) : Calls Try.prog 6 #[.string n] w fun e w' => e = .returned (.bool true) ∧ w' = w := by
  go_enter Try.func6, Try.ntmps6
  go_wp2
  go_ret
  exact ⟨rfl, rfl⟩
set_option maxHeartbeats 1000000 in
theorem at_path (n : ByteArray) (hz : n.size ≤ 1048576) (h : n = ⟨#[105, 110, 99, 108, 117, 100, 101, 46, 112, 97, 116, 104]⟩) (w : World) :
    Calls Try.prog 3 #[.string n] w fun e w' => e = .returned (.bool true) ∧ w' = w := by
  have HC : Hid (cond n = (⟨#[]⟩, true)) := by show cond n = _; rw [h]; exact cond_path
  have hb : (n.toList == [105, 110, 99, 108, 117, 100, 101, 46, 112, 97, 116, 104]) = true := by rw [h]; simp [Lib.toList_data]
  clear h
  go_enter Try.func3, Try.ntmps3
  go_wp2_with (go_at_call 6; refine (small _ hz _).mono ?_; rintro e w' ⟨rfl, rfl⟩)
  refine (ic_is _ n true ?hs1 (cond_wrapped n) _).mono ?_
  case hs1 => rw [size_one]; omega
  rintro e w' ⟨rfl, rfl⟩
  go_wp2_with fail
  refine (ic_is _ ⟨#[]⟩ false ?hs2 (cond_upper n) _).mono ?_
  case hs2 => rw [size_two]; omega
  rintro e w' ⟨rfl, rfl⟩
  go_wp2_with fail
  refine (ic_is _ _ _ (by omega) HC.out _).mono ?_
  rintro e w' ⟨rfl, rfl⟩
  go_wp2
  go_ret
  exact ⟨rfl, rfl⟩
set_option maxHeartbeats 1000000 in
theorem at_short (n : ByteArray) (hz : n.size ≤ 1048576) (h : (n.toList == [105, 110, 99, 108, 117, 100, 101, 46, 112, 97, 116, 104]) = false) (hs : n.size < 10) (w : World) :
    Calls Try.prog 3 #[.string n] w fun e w' => e = .returned (.bool true) ∧ w' = w := by
  have HC : Hid (cond n = (⟨#[]⟩, false)) := cond_none h (by unfold pre; simp; omega)
  go_enter Try.func3, Try.ntmps3
  go_wp2_with (go_at_call 6; refine (small _ hz _).mono ?_; rintro e w' ⟨rfl, rfl⟩)
  refine (ic_is _ n true ?hs1 (cond_wrapped n) _).mono ?_
  case hs1 => rw [size_one]; omega
  rintro e w' ⟨rfl, rfl⟩
  go_wp2_with fail
  refine (ic_is _ ⟨#[]⟩ false ?hs2 (cond_upper n) _).mono ?_
  case hs2 => rw [size_two]; omega
  rintro e w' ⟨rfl, rfl⟩
  go_wp2_with fail
  refine (ic_is _ _ _ (by omega) HC.out _).mono ?_
  rintro e w' ⟨rfl, rfl⟩
  go_wp2
  go_ret
  exact ⟨rfl, rfl⟩
set_option maxHeartbeats 1000000 in
theorem at_none (n : ByteArray) (hz : n.size ≤ 1048576) (h : (n.toList == [105, 110, 99, 108, 117, 100, 101, 46, 112, 97, 116, 104]) = false) (h10 : 10 ≤ n.size) (hp : ((n.extract 0 10).toList == [105, 110, 99, 108, 117, 100, 101, 105, 102, 46]) = false) (w : World) :
    Calls Try.prog 3 #[.string n] w fun e w' => e = .returned (.bool true) ∧ w' = w := by
  have HC : Hid (cond n = (⟨#[]⟩, false)) := cond_none h (by unfold pre; simp [hp])
  go_enter Try.func3, Try.ntmps3
  go_wp2_with (go_at_call 6; refine (small _ hz _).mono ?_; rintro e w' ⟨rfl, rfl⟩)
  refine (ic_is _ n true ?hs1 (cond_wrapped n) _).mono ?_
  case hs1 => rw [size_one]; omega
  rintro e w' ⟨rfl, rfl⟩
  go_wp2_with fail
  refine (ic_is _ ⟨#[]⟩ false ?hs2 (cond_upper n) _).mono ?_
  case hs2 => rw [size_two]; omega
  rintro e w' ⟨rfl, rfl⟩
  go_wp2_with fail
  refine (ic_is _ _ _ (by omega) HC.out _).mono ?_
  rintro e w' ⟨rfl, rfl⟩
  go_wp2
  go_ret
  exact ⟨rfl, rfl⟩
set_option maxHeartbeats 1000000 in
theorem at_yes (n : ByteArray) (hz : n.size ≤ 1048576) (h : (n.toList == [105, 110, 99, 108, 117, 100, 101, 46, 112, 97, 116, 104]) = false) (h15 : 15 ≤ n.size) (hp : ((n.extract 0 10).toList == [105, 110, 99, 108, 117, 100, 101, 105, 102, 46]) = true) (hs : ((n.extract (n.size - 5) n.size).toList == [46, 112, 97, 116, 104]) = true) (w : World) :
    Calls Try.prog 3 #[.string n] w fun e w' => e = .returned (.bool true) ∧ w' = w := by
  have p1 : pre n = true := by unfold pre; simp [hp]; omega
  have p2 : suf n = true := by unfold suf; simp [hs]; omega
  have HC : Hid (cond n = (n.extract 10 (n.size - 5), true)) := cond_yes h p1 p2
  have hr : ((⟨#[105, 110, 99, 108, 117, 100, 101, 105, 102, 46]⟩ ++ n.extract 10 (n.size - 5) ++ ⟨#[46, 112, 97, 116, 104]⟩ : ByteArray).toList == n.toList) = true := by rw [rebuilt p1 p2]; simp
  clear p1 p2
  go_enter Try.func3, Try.ntmps3
  go_wp2_with (go_at_call 6; refine (small _ hz _).mono ?_; rintro e w' ⟨rfl, rfl⟩)
  refine (ic_is _ n true ?hs1 (cond_wrapped n) _).mono ?_
  case hs1 => rw [size_one]; omega
  rintro e w' ⟨rfl, rfl⟩
  go_wp2_with fail
  refine (ic_is _ ⟨#[]⟩ false ?hs2 (cond_upper n) _).mono ?_
  case hs2 => rw [size_two]; omega
  rintro e w' ⟨rfl, rfl⟩
  go_wp2_with fail
  refine (ic_is _ _ _ (by omega) HC.out _).mono ?_
  rintro e w' ⟨rfl, rfl⟩
  go_wp2
  go_ret
  exact ⟨rfl, rfl⟩
set_option maxHeartbeats 1000000 in
theorem at_mid (n : ByteArray) (hz : n.size ≤ 1048576) (h : (n.toList == [105, 110, 99, 108, 117, 100, 101, 46, 112, 97, 116, 104]) = false) (h10 : 10 ≤ n.size) (h15 : n.size < 15) (hp : ((n.extract 0 10).toList == [105, 110, 99, 108, 117, 100, 101, 105, 102, 46]) = true) (w : World) :
    Calls Try.prog 3 #[.string n] w fun e w' => e = .returned (.bool true) ∧ w' = w := by
  have HC : Hid (cond n = (n.extract 10 n.size, false)) := cond_no h (by unfold pre; simp [hp]; omega) (by unfold suf; simp; omega)
  go_enter Try.func3, Try.ntmps3
  go_wp2_with (go_at_call 6; refine (small _ hz _).mono ?_; rintro e w' ⟨rfl, rfl⟩)
  refine (ic_is _ n true ?hs1 (cond_wrapped n) _).mono ?_
  case hs1 => rw [size_one]; omega
  rintro e w' ⟨rfl, rfl⟩
  go_wp2_with fail
  refine (ic_is _ ⟨#[]⟩ false ?hs2 (cond_upper n) _).mono ?_
  case hs2 => rw [size_two]; omega
  rintro e w' ⟨rfl, rfl⟩
  go_wp2_with fail
  refine (ic_is _ _ _ (by omega) HC.out _).mono ?_
  rintro e w' ⟨rfl, rfl⟩
  go_wp2
  go_ret
  exact ⟨rfl, rfl⟩
set_option maxHeartbeats 1000000 in
theorem at_no (n : ByteArray) (hz : n.size ≤ 1048576) (h : (n.toList == [105, 110, 99, 108, 117, 100, 101, 46, 112, 97, 116, 104]) = false) (h15 : 15 ≤ n.size) (hp : ((n.extract 0 10).toList == [105, 110, 99, 108, 117, 100, 101, 105, 102, 46]) = true) (hs : ((n.extract (n.size - 5) n.size).toList == [46, 112, 97, 116, 104]) = false) (w : World) :
    Calls Try.prog 3 #[.string n] w fun e w' => e = .returned (.bool true) ∧ w' = w := by
  have HC : Hid (cond n = (n.extract 10 n.size, false)) := cond_no h (by unfold pre; simp [hp]; omega) (by unfold suf; simp [hs])
  go_enter Try.func3, Try.ntmps3
  go_wp2_with (go_at_call 6; refine (small _ hz _).mono ?_; rintro e w' ⟨rfl, rfl⟩)
  refine (ic_is _ n true ?hs1 (cond_wrapped n) _).mono ?_
  case hs1 => rw [size_one]; omega
  rintro e w' ⟨rfl, rfl⟩
  go_wp2_with fail
  refine (ic_is _ ⟨#[]⟩ false ?hs2 (cond_upper n) _).mono ?_
  case hs2 => rw [size_two]; omega
  rintro e w' ⟨rfl, rfl⟩
  go_wp2_with fail
  refine (ic_is _ _ _ (by omega) HC.out _).mono ?_
  rintro e w' ⟨rfl, rfl⟩
  go_wp2
  go_ret
  exact ⟨rfl, rfl⟩
theorem whole (n : ByteArray) (hz : n.size ≤ 1048576) (w : World) :
    Calls Try.prog 3 #[.string n] w fun e w' => e = .returned (.bool true) ∧ w' = w := by
  cases h : (n.toList == [105, 110, 99, 108, 117, 100, 101, 46, 112, 97, 116, 104])
  · by_cases h10 : n.size < 10
    · exact at_short n hz h h10 w
    · cases hp : ((n.extract 0 10).toList == [105, 110, 99, 108, 117, 100, 101, 105, 102, 46])
      · exact at_none n hz h (by omega) hp w
      · by_cases h15 : n.size < 15
        · exact at_mid n hz h (by omega) h15 hp w
        · cases hs : ((n.extract (n.size - 5) n.size).toList == [46, 112, 97, 116, 104])
          · exact at_no n hz h (by omega) hp hs w
          · exact at_yes n hz h (by omega) hp hs w
  · exact at_path n hz (path_of h) w
theorem walk (a0 : ByteArray) (w0 : a0.size ≤ maxLen) (w : World) :
    Calls Try.prog 3 #[.string a0] w fun e w' => e = .returned (.bool true) ∧ Grown w w' := by
  unfold maxLen at w0
  by_cases hz : a0.size ≤ 1048576
  · refine (whole a0 hz w).mono ?_
    rintro e w' ⟨rfl, rfl⟩
    exact ⟨rfl, Grown.refl _⟩
  · refine (long a0 (by omega) (by omega) w).mono ?_
    rintro e w' ⟨rfl, rfl⟩
    exact ⟨rfl, Grown.refl _⟩

/-! ### THE ROW's STEP: WRITTEN OUT: LEAVE IT -/
set_option maxRecDepth 100000 in
theorem lifted (os : Os) (started : os.Started) (H : Type) (enc : TypeId × Value → H) :
    ReturnsInHanded {} Try.checked os 3 .any (Rows.fnIncludeConditionSplitsTheWrappedNameSpec.pre6 enc Try.prog Try.f3 Rows.fnIncludeConditionSplitsTheWrappedNameRow.domain false) (Rows.fnIncludeConditionSplitsTheWrappedNameSpec.post enc Try.prog Try.f3 false true false false) := by
  refine returnsInHanded_of_change (C := Try.checked) own started (by kernel_rfl) Try.func3
    (ChangeSpec.witness6 (enc := enc) (C := Try.checked) false ⟨#[], #[.string ByteArray.empty], []⟩ 8 (by kernel_rfl) (by kernel_rfl) (by kernel_rfl) (by kernel_rfl)) ?_
  intro W base args ds gs before hval0 hW hcnd _
  have hval : ∀ (j : Nat) t v, Try.f3.params[j]? = some t → args[j]? = some v → Value.okWide Try.prog W .any base t v := hval0
  have hW' := hW
  obtain ⟨p, q, hA0, hV, rfl, hfz, hnd⟩ := hW
  have hA : DataW.TrodAll enc Try.prog W 0 (fun _ => true) true Try.f3.params.toList args.toList ds p := hA0
  rw [Try.params3] at hA hval
  obtain ⟨v0, vs0, d0, ds0, p0, q0, hargs, rfl, rfl, h0, r0⟩ := trodAll_cons hA
  obtain ⟨rfl, rfl, rfl⟩ := trodAll_nil r0
  obtain rfl : args = #[v0] := by cases args; simp_all
  obtain ⟨rfl, rfl⟩ := trodVars_none hV
  obtain ⟨a0, rfl, rfl, rfl, w0⟩ := open_string Try.underlying9 (hval 0 9 v0 rfl rfl) h0
  clear hA0 hval0
  simp only [List.append_nil] at hW'
  refine (walk a0 w0 W).mono fun e W' ⟨he, hg⟩ => ?_
  subst he
  exact ⟨_, rfl, post_of_same (pa := []) (pv := []) hW' (fun _ _ _ => (trodAll_cons_mk (shut_bool Try.underlying4 _) trodAll_mk0)) (fun sp _ => (trodAll_cons_mk (shut_string Try.underlying9 w0) trodAll_mk0)) (fun _ _ => rfl) rfl
    (hg.frame _) hg.2.1 (ok_one (by kernel_rfl) rfl (okWide_bool_mk Try.underlying4 _))⟩

theorem over : Rows.fnIncludeConditionSplitsTheWrappedNameRow.holds Try.pinned (OpenSpec.ofChange Rows.fnIncludeConditionSplitsTheWrappedNameSpec) :=
  OpenClaim.holds_of_wide 3 Try.f3 rfl rfl rfl rfl rfl rfl rfl ⟨rfl, rfl, rfl, rfl, rfl⟩ rfl rfl rfl rfl rfl (by kernel_rfl) Try.func3 (by kernel_rfl)
    (of_decide_eq_true (by kernel_rfl)) (by unfold Func.isWrapper; first | (rw [if_pos (by decide +kernel)]; kernel_rfl) | (rw [if_neg (by decide +kernel)]; exact ⟨rfl, rfl⟩))
    (fun os started H enc _ => lifted os started H enc)

/-- ████ THE STATEMENT ████ -/
theorem proved : Rows.FnIncludeConditionSplitsTheWrappedNameSaid :=
  over
end Go.Proofs.Qxb6617785a.fnIncludeConditionSplitsTheWrappedName
