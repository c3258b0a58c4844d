/-
  The contract of (*record).find (40): a binary search over increasing columns.
-/
import Derived.Test.Qxb6616500aVal
import Derived.Deep.QuietTactic
import Derived.BigQuiet
namespace Go.Proofs.Qxb6616500a
open Go.RowKit
set_option linter.unusedVariables false
/-- Draws turn no block. -/
theorem drawn {B : Nat} {a w : World} (h : Below B a w) (n : Nat) : Below B a (w.drewN n) := h.trans ⟨rfl, rfl, rfl, Nat.le_refl _, fun _ _ => rfl⟩

/-- The columns of a layout: increasing, from 0 on, below nd. -/
def Cols (hc : Nat → Int) (nh nd : Nat) : Prop := (∀ j, j < nh → 0 ≤ hc j ∧ hc j < nd) ∧ ∀ j k, j < k → k < nh → hc j < hc k
theorem Cols.ge {hc : Nat → Int} {nh nd : Nat} (h : Cols hc nh nd) : ∀ j, j < nh → (j : Int) ≤ hc j := by
  intro j
  induction j with
  | zero => intro hj; exact (h.1 0 hj).1
  | succ j ih =>
    intro hj
    have := ih (by omega)
    have := h.2 j (j + 1) (by omega) hj
    omega
theorem Cols.le {hc : Nat → Int} {nh nd : Nat} (h : Cols hc nh nd) : ∀ d j, j + d + 1 = nh → hc j + (d : Int) + 1 ≤ nd := by
  intro d
  induction d with
  | zero => intro j hj; have := (h.1 j (by omega)).2; omega
  | succ d ih =>
    intro j hj
    have := ih (j + 1) (by omega)
    have := h.2 j (j + 1) (by omega) (by omega)
    omega
/-- Where the layout holds every column, column k stands at k. -/
theorem Cols.full {hc : Nat → Int} {n : Nat} (h : Cols hc n n) {j : Nat} (hj : j < n) : hc j = j := by
  have h1 := h.ge j hj
  have h2 := h.le (n - 1 - j) j (by omega)
  omega

/-- What find answers. -/
def Found (hc : Nat → Int) (nh : Nat) (i : Int) (k : Nat) (b : Bool) : Prop := (b = true → k < nh ∧ hc k = i) ∧ (b = false → ∀ j, j < nh → hc j ≠ i)

set_option maxHeartbeats 400000 in
theorem find_full (hc : Nat → Int) (n : Nat) (h : Cols hc n n) (i : Nat) (hi : i < n) (br bl bc bd c1 c2 : Nat) (w : World)
    (r0 : w.cell? ⟨br, 0, none⟩ = some (.pointer (some ⟨bl, 0, none⟩)))
    (l0 : w.cell? ⟨bl, 0, none⟩ = some (.slice (some ⟨bc, 0, none⟩) n c1)) (l1 : w.cell? ⟨bl, 1, none⟩ = some (.slice (some ⟨bd, 0, none⟩) n c2)) :
    Calls Try.prog 40 #[.pointer (some ⟨br, 0, none⟩), .int .i64 i] w fun e w' => ∃ (k : Nat) (b : Bool), e = .returned (.tuple #[.int .i64 k, .bool b]) ∧ Found hc n i k b ∧ Below w.heap.size w w' := by
  go_enter Try.func40, Try.ntmps40
  go_wp2
  go_ret2
  exact ⟨i, true, rfl, ⟨fun _ => ⟨hi, h.full hi⟩, fun h' => by cases h'⟩, Below.refl _ _⟩

set_option maxHeartbeats 1000000 in
theorem find_part (hc : Nat → Int) (nh nd : Nat) (hh : nh ≤ 8192) (hd : nd ≤ 16384) (hne : nh ≠ nd) (h : Cols hc nh nd) (i : Nat) (hi : i < nd) (br bl bc bd c1 c2 : Nat) (w : World)
    (r0 : w.cell? ⟨br, 0, none⟩ = some (.pointer (some ⟨bl, 0, none⟩)))
    (l0 : w.cell? ⟨bl, 0, none⟩ = some (.slice (some ⟨bc, 0, none⟩) nh c1)) (l1 : w.cell? ⟨bl, 1, none⟩ = some (.slice (some ⟨bd, 0, none⟩) nd c2)) (hO : Own w bc nh (gI hc)) :
    Calls Try.prog 40 #[.pointer (some ⟨br, 0, none⟩), .int .i64 i] w fun e w' => ∃ (k : Nat) (b : Bool), e = .returned (.tuple #[.int .i64 k, .bool b]) ∧ Found hc nh i k b ∧ Below w.heap.size w w' := by
  have hb : (((nh : Nat) : Int) == ((nd : Nat) : Int)) = false := by simp; omega
  go_enter Try.func40, Try.ntmps40
  go_wp2
  go_loop [7, 8] (fun lo hi => ∃ a b : Nat, a ≤ b ∧ b ≤ nh ∧ lo = .int .i64 a ∧ hi = .int .i64 b ∧ (∀ j, j < a → hc j < i) ∧ (∀ j, b ≤ j → j < nh → (i : Int) ≤ hc j)) (fun lo hi => (intOf hi).toNat - (intOf lo).toNat)
  case atStart => exact ⟨0, nh, by omega, by omega, rfl, rfl, by omega, by omega⟩
  case round =>
    obtain ⟨a, b, hab, hbn, rfl, rfl, hlo, hhi⟩ := hrel
    by_cases hlt : a < b
    · have hcell : w.cell? ⟨bc, (a + b) / 2, none⟩ = some (.int .i64 (hc ((a + b) / 2))) := (hO ((a + b) / 2) (by omega)).1
      by_cases hx : hc ((a + b) / 2) < i
      · have HH : Hid (∀ j, j < (a + b) / 2 + 1 → hc j < i) := fun j hj => by
          by_cases e : j = (a + b) / 2
          · rw [e]; exact hx
          · have := h.2 j ((a + b) / 2) (by omega) (by omega)
            omega
        go_wp2
        go_round
        case rel => exact ⟨(a + b) / 2 + 1, b, by omega, by omega, by go_num, rfl, HH.out, hhi⟩
        case measure => simp [intOf]; omega
      · have HH : Hid (∀ j, (a + b) / 2 ≤ j → j < nh → (i : Int) ≤ hc j) := fun j hj hjn => by
          by_cases e : j = (a + b) / 2
          · rw [e]; omega
          · have := h.2 ((a + b) / 2) j (by omega) hjn
            omega
        go_wp2
        go_round
        case rel => exact ⟨a, (a + b) / 2, by omega, by omega, rfl, by go_num, hlo, HH.out⟩
        case measure => simp [intOf]; omega
    · have hab' : a = b := by omega
      subst hab'
      by_cases ha : a < nh
      · have hcell : w.cell? ⟨bc, a, none⟩ = some (.int .i64 (hc a)) := (hO a ha).1
        have HF : Hid (Found hc nh i a (hc a == (i : Int))) := by
          refine ⟨fun e => ⟨ha, by simpa using e⟩, fun e j hj => ?_⟩
          have e' : ¬ hc a = (i : Int) := by simpa using e
          rcases Nat.lt_trichotomy j a with h1 | h1 | h1
          · have := hlo j h1; omega
          · rw [h1]; exact e'
          · have := h.2 a j h1 hj
            have := hhi a (Nat.le_refl _) ha
            omega
        clear hlo hhi
        have ha' : ((a : Nat) : Int) < ((nh : Nat) : Int) := by omega
        go_wp2_with fail
        go_quiet (fail)
        go_wp2
        go_ret2
        exact ⟨a, hc a == (i : Int), rfl, HF.out, drawn (Below.refl _ _) _⟩
      · have HF : Hid (Found hc nh i a false) := by
          refine ⟨(fun e => by cases e), fun _ j hj => ?_⟩
          have := hlo j (by omega)
          omega
        clear hlo hhi
        have hd0 : decide (((a : Nat) : Int) < ((nh : Nat) : Int)) = false := by simp; omega
        go_wp2_with fail
        go_quiet (fail)
        go_wp2
        go_ret2
        exact ⟨a, false, rfl, HF.out, drawn (Below.refl _ _) _⟩

/-- find: whatever the layout. -/
theorem find_any (hc : Nat → Int) (nh nd : Nat) (hh : nh ≤ 8192) (hd : nd ≤ 16384) (h : Cols hc nh nd) (i : Nat) (hi : i < nd) (br bl bc bd c1 c2 : Nat) (w : World)
    (r0 : w.cell? ⟨br, 0, none⟩ = some (.pointer (some ⟨bl, 0, none⟩)))
    (l0 : w.cell? ⟨bl, 0, none⟩ = some (.slice (some ⟨bc, 0, none⟩) nh c1)) (l1 : w.cell? ⟨bl, 1, none⟩ = some (.slice (some ⟨bd, 0, none⟩) nd c2)) (hO : Own w bc nh (gI hc)) :
    Calls Try.prog 40 #[.pointer (some ⟨br, 0, none⟩), .int .i64 i] w fun e w' => ∃ (k : Nat) (b : Bool), e = .returned (.tuple #[.int .i64 k, .bool b]) ∧ Found hc nh i k b ∧ Below w.heap.size w w' := by
  by_cases e : nh = nd
  · subst e
    exact find_full hc nh h i hi br bl bc bd c1 c2 w r0 l0 l1
  · exact find_part hc nh nd hh hd e h i hi br bl bc bd c1 c2 w r0 l0 l1 hO
end Go.Proofs.Qxb6616500a
