/-
  The contract of imageFits (21).
-/
import Derived.Test.Qxb6616500aSl
namespace Go.Proofs.Qxb6616500a
open Go.RowKit
set_option linter.unusedVariables false
theorem cols_of {hc : Nat → Int} {nh nd : Nat} (h1 : ∀ j, j < nh → 0 ≤ hc j ∧ hc j < nd) (h2 : ∀ j, j + 1 < nh → hc j < hc (j + 1)) : Cols hc nh nd := by
  refine ⟨h1, fun j k hjk => ?_⟩
  induction k with
  | zero => omega
  | succ k ih =>
    intro hk
    by_cases e : j = k
    · subst e; exact h2 j hk
    · have := ih (by omega) (by omega)
      have := h2 k hk
      omega

/-- What imageFits says. -/
def Fits (w w' : World) (e : Ending) (hc cc : Nat → Int) (nh nd nc : Nat) : Prop := ∃ b, e = .returned (.bool b) ∧ Below w.heap.size w w' ∧ (b = true → Cols hc nh nd ∧ ∀ k, k < nc → 0 ≤ cc k ∧ cc k < nd)
theorem Fits.no {w w' : World} {e : Ending} {hc cc : Nat → Int} {nh nd nc : Nat} (h : e = .returned (.bool false)) (hb : Below w.heap.size w w') : Fits w w' e hc cc nh nd nc := ⟨false, h, hb, fun h => by cases h⟩

set_option maxRecDepth 100000 in
set_option maxHeartbeats 4000000 in
theorem fits_any {w : World} {a0 a1 a4 a6 : Option Addr} {nd nh nH nc b1 o1 b4 o4 b6 o6 : Nat} (q0 q1 q4 q6 : Nat) {hv Hv : Nat → Bool × Int} {hc Hc Hs cc : Nat → Int}
    (Hd : SlC w a1 nh b1 o1 hc hv) (Hy : SlH w a4 nH b4 o4 Hc Hs Hv) (C : SlI w a6 nc b6 o6 cc)
    (hnd : nd ≤ 16384) (hnh : nh ≤ 8192) (hnH : nH ≤ 4096) (hnc : nc ≤ 16384) :
    Calls Try.prog 21 #[.slice a0 nd q0, .slice a1 nh q1, .slice a4 nH q4, .slice a6 nc q6] w
      fun e w' => Fits w w' e hc cc nh nd nc := by
  have hmk0 := makeB nd (by omega)
  have hmk1 := makeU nd (by omega)
  go_enter Try.func21, Try.ntmps21
  go_wp2
  go_loopw [22] (fun i wr => ∃ k : Nat, k ≤ nh ∧ i = .int .i64 k ∧ Below w.heap.size w wr ∧ (∀ j, j < k → 0 ≤ hc j ∧ hc j < nd) ∧ (∀ j, j + 1 < k → hc j < hc (j + 1))) (fun i _ => nh - (intOf i).toNat)
  case atStart => exact ⟨0, by omega, rfl, Below.refl _ _, by omega, by omega⟩
  case round =>
    obtain ⟨k, hk, rfl, hbw, hr1, hr2⟩ := hrel
    by_cases hlt : k < nh
    · have hix := Hd.index q1 hlt
      have e0 := keep_all hbw (Hd.c0 k hlt)
      have e1 := keep_all hbw (Hd.c1 k hlt)
      have e2 := keep_all hbw (Hd.c2 k hlt)
      have HR1 : Hid (∀ j, j < k → 0 ≤ hc j ∧ hc j < nd) := hr1
      have HR2 : Hid (∀ j, j + 1 < k → hc j < hc (j + 1)) := hr2
      clear hr1 hr2
      by_cases h1 : hc k < 0
      · go_wp2
        go_ret
        exact Fits.no rfl (hbw.alloc hbw.size _)
      · by_cases h2 : (nd : Int) ≤ hc k
        · go_wp2
          go_ret
          exact Fits.no rfl (hbw.alloc hbw.size _)
        · have h1' : 0 ≤ hc k := by omega
          have h2' : hc k < nd := by omega
          by_cases hz : k = 0
          · have HZ : Hid (k = 0) := hz
            have hd0 : decide ((0 : Int) < (k : Int)) = false := by simp; omega
            have hd1 : decide (0 < k) = false := by simp; omega
            clear hz
            go_wp2_with fail
            go_quiet (fail)
            go_wp2
            go_roundw
            case rel => exact ⟨k + 1, by omega, by go_num, drawn (hbw.alloc hbw.size _) _, (fun j hj => by have := HZ.out; obtain rfl : j = k := (by omega); exact ⟨h1', h2'⟩), (fun j hj => by have := HZ.out; omega)⟩
            case measure => simp [intOf]; omega
          · have p0 : (0 : Int) < (k : Int) := by omega
            have p1 : 0 < k := by omega
            have hwr : IntKind.i64.wrap ((k : Int) - 1) = (k : Int) - 1 := by rw [IntKind.wrap_i64]; omega
            have hix2 : ∀ W, (Instr.indexAt 41 (.slice a1 nh q1) (.int .i64 ((k : Int) - 1))).run Try.prog W = .ok (.pointer (some ⟨b1, o1 + (k - 1) * 3, none⟩)) W := fun W => by
              have := Hd.index q1 (show k - 1 < nh by omega) W
              rwa [show ((k - 1 : Nat) : Int) = (k : Int) - 1 by omega] at this
            have ep : ∀ A, (wr.alloc A).cell? ⟨b1, o1 + (k - 1) * 3, none⟩ = some (.int .i64 (hc (k - 1))) := fun A => keep_all (hbw.alloc hbw.size A) (Hd.c0 (k - 1) (by omega))
            by_cases h3 : hc k ≤ hc (k - 1)
            · go_wp2_with fail
              go_quiet (fail)
              go_wp2
              go_ret
              exact Fits.no rfl (drawn (hbw.alloc hbw.size _) _)
            · have h3' : hc (k - 1) < hc k := by omega
              go_wp2_with fail
              go_quiet (fail)
              go_wp2
              go_roundw
              case rel =>
                refine ⟨k + 1, by omega, by go_num, drawn (hbw.alloc hbw.size _) _, fun j hj => ?_, fun j hj => ?_⟩
                · by_cases e : j = k
                  · subst e; exact ⟨h1', h2'⟩
                  · exact HR1.out j (by omega)
                · by_cases e : j + 1 = k
                  · have : k - 1 = j := by omega
                    rw [this] at h3'
                    rw [e]; exact h3'
                  · exact HR2.out j (by omega)
              case measure => simp [intOf]; omega
    · have hk' : nh = k := by omega
      subst hk'
      obtain ⟨wA, rfl⟩ : ∃ x : World, x = wr := ⟨_, rfl⟩
      have HC : Hid (Cols hc nh nd) := cols_of hr1 hr2
      have hbA := hbw
      clear hr1 hr2 hlt hk hbw
      go_wp2
      go_loopw [56] (fun i wr => ∃ k : Nat, k ≤ nH ∧ i = .int .i64 k ∧ Below w.heap.size w wr ∧ wA.heap.size + 1 < wr.heap.size ∧ (∃ fb : Nat → Bool, Own wr wA.heap.size nd (gB fb)) ∧ (∃ fu : Nat → Int, Own wr (wA.heap.size + 1) nd (gU fu))) (fun i _ => nH - (intOf i).toNat)
      case atStart =>
        refine ⟨0, by omega, rfl, (hbA.alloc hbA.size _).alloc (by simp; have := hbA.size; omega) _, by simp, ⟨_, (ownB wA nd).alloc _⟩, ⟨fun _ => 0, ?_⟩⟩
        have := ownU (wA.alloc (zB nd)) nd
        rwa [World.size_alloc] at this
      case round =>
        obtain ⟨k, hk, rfl, hbw, hsz, ⟨fb, hB⟩, ⟨fu, hU⟩⟩ := hrel
        by_cases hlt : k < nH
        · have hix := Hy.index q4 hlt
          have e0 := keep_all hbw (Hy.c0 k hlt)
          have e1 := keep_all hbw (Hy.c1 k hlt)
          have e2 := keep_all hbw (Hy.c2 k hlt)
          have e3 := keep_all hbw (Hy.c3 k hlt)
          have hzA := hbA.size
          by_cases h1 : Hc k < 0
          · go_wp2
            go_ret
            exact Fits.no rfl (hbw.alloc hbw.size _)
          · by_cases h2 : (nd : Int) ≤ Hc k
            · go_wp2
              go_ret
              exact Fits.no rfl (hbw.alloc hbw.size _)
            · obtain ⟨m, hm⟩ := Int.eq_ofNat_of_zero_le (show 0 ≤ Hc k by omega)
              have hmn : m < nd := by omega
              rw [hm] at e0
              have b0 : ∀ A, (wr.alloc A).cell? ⟨wA.heap.size, m, none⟩ = some (.bool (fb m)) := fun A => ((hB.alloc A) m hmn).1
              have u0 : ∀ A, (wr.alloc A).cell? ⟨wA.heap.size + 1, m, none⟩ = some (.int .u64 (fu m)) := fun A => ((hU.alloc A) m hmn).1
              have b0' : wr.cell? ⟨wA.heap.size, m, none⟩ = some (.bool (fb m)) := (hB m hmn).1
              have u0' : wr.cell? ⟨wA.heap.size + 1, m, none⟩ = some (.int .u64 (fu m)) := (hU m hmn).1
              have b1' := (hB m hmn).2
              have u1' := (hU m hmn).2
              have hsA : wA.heap.size < wr.heap.size := by omega
              have hmI : (m : Int) < (nd : Int) := by omega
              have hmI0 : (0 : Int) ≤ (m : Int) := by omega
              clear h1 h2 hm
              cases hf : fb m
              · rw [hf] at b0 b0'
                clear hf
                go_wp2_with fail
                go_quiet (fail)
                go_wp2
                go_roundw
                case rel =>
                  have hBd := (hB.alloc (.cells #[.int .i64 (m : Int), .int .u64 (Hs k), .bool (Hv k).1, .int .i64 (Hv k).2] 59)).grown (drawn (Below.refl _ _) nq)
                  have hUd := (hU.alloc (.cells #[.int .i64 (m : Int), .int .u64 (Hs k), .bool (Hv k).1, .int .i64 (Hv k).2] 59)).grown (drawn (Below.refl _ _) nq)
                  exact ⟨k + 1, by omega, by go_num, ((drawn (hbw.alloc hbw.size _) _).setCell (p := ⟨wA.heap.size, m, none⟩) (by simp; omega) _).setCell (p := ⟨wA.heap.size + 1, m, none⟩) (by simp; omega) _, by simp; omega,
                    ⟨_, (hBd.setB hmn true).other (by omega) _ _⟩, ⟨_, (hUd.other (by omega) _ _).setU hmn _⟩⟩
                case measure => simp [intOf]; omega
              · rw [hf] at b0 b0'
                clear hf
                by_cases h3 : Hs k ≤ fu m
                · go_wp2_with fail
                  go_quiet (fail)
                  go_wp2
                  go_ret
                  exact Fits.no rfl (drawn (hbw.alloc hbw.size _) _)
                · have h3' : fu m < Hs k := by omega
                  go_wp2_with fail
                  go_quiet (fail)
                  go_wp2
                  go_roundw
                  case rel =>
                    have hBd := (hB.alloc (.cells #[.int .i64 (m : Int), .int .u64 (Hs k), .bool (Hv k).1, .int .i64 (Hv k).2] 59)).grown (drawn (Below.refl _ _) nq)
                    have hUd := (hU.alloc (.cells #[.int .i64 (m : Int), .int .u64 (Hs k), .bool (Hv k).1, .int .i64 (Hv k).2] 59)).grown (drawn (Below.refl _ _) nq)
                    exact ⟨k + 1, by omega, by go_num, ((drawn (hbw.alloc hbw.size _) _).setCell (p := ⟨wA.heap.size, m, none⟩) (by simp; omega) _).setCell (p := ⟨wA.heap.size + 1, m, none⟩) (by simp; omega) _, by simp; omega,
                      ⟨_, (hBd.setB hmn true).other (by omega) _ _⟩, ⟨_, (hUd.other (by omega) _ _).setU hmn _⟩⟩
                  case measure => simp [intOf]; omega
        · have hk' : nH = k := by omega
          subst hk'
          obtain ⟨wB, rfl⟩ : ∃ x : World, x = wr := ⟨_, rfl⟩
          have hbB := hbw
          clear hbw hlt hk hB hU hsz
          go_wp2
          go_loopw [97] (fun i wr => ∃ k : Nat, k ≤ nc ∧ i = .int .i64 k ∧ Below w.heap.size w wr ∧ (∀ j, j < k → 0 ≤ cc j ∧ cc j < nd)) (fun i _ => nc - (intOf i).toNat)
          case atStart => exact ⟨0, by omega, rfl, hbB, by omega⟩
          case round =>
            obtain ⟨k, hk, rfl, hbw, hr⟩ := hrel
            have HR : Hid (∀ j, j < k → 0 ≤ cc j ∧ cc j < nd) := hr
            clear hr
            by_cases hlt : k < nc
            · have hix := C.index q6 hlt
              have e0 := keep_all hbw (C.cell k hlt)
              by_cases h1 : cc k < 0
              · go_wp2
                go_ret
                exact Fits.no rfl hbw
              · by_cases h2 : (nd : Int) ≤ cc k
                · go_wp2
                  go_ret
                  exact Fits.no rfl hbw
                · have h1' : 0 ≤ cc k := by omega
                  have h2' : cc k < nd := by omega
                  go_wp2
                  go_roundw
                  case rel =>
                    refine ⟨k + 1, by omega, by go_num, hbw, fun j hj => ?_⟩
                    by_cases e : j = k
                    · subst e; exact ⟨h1', h2'⟩
                    · exact HR.out j (by omega)
                  case measure => simp [intOf]; omega
            · have hk' : nc = k := by omega
              subst hk'
              go_wp2
              go_ret
              exact ⟨true, rfl, hbw, fun _ => ⟨HC.out, HR.out⟩⟩
end Go.Proofs.Qxb6616500a
