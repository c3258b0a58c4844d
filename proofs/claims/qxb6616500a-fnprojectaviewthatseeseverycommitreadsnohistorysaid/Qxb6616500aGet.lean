/-
  The contract of (image).get (34), where the view sees every change that the history holds.
-/
import Derived.Test.Qxb6616500aValue
namespace Go.Proofs.Qxb6616500a
open Go.RowKit
set_option linter.unusedVariables false
/-- What the history's map holds at a key: a slice that is not empty, its last change of a commit up to upTo. -/
def Hval (w : World) (upTo : Int) (N : Nat) (v : Value) : Prop := ∃ b L cap s, v = .slice (some ⟨b, 0, none⟩) L cap ∧ 0 < L ∧ L ≤ N ∧ s ≤ upTo ∧ w.cell? ⟨b, (L - 1) * 4, none⟩ = some (.int .u64 s)
/-- The history of an image: no change in it is of a commit behind upTo. -/
def Hist (w : World) (bh : Nat) (upTo : Int) (N : Nat) : Prop := ∃ g n, Mp w bh (fun a : Int => Value.int .i64 a) g n ∧ ∀ c v, g c = some v → Hval w upTo N v
theorem Hval.grown {w w' : World} {upTo : Int} {N : Nat} {v : Value} (h : Hval w upTo N v) (hb : Below w.heap.size w w') : Hval w' upTo N v := by
  obtain ⟨b, L, cap, s, h1, h2, h3, h4, h5⟩ := h
  exact ⟨b, L, cap, s, h1, h2, h3, h4, keep_all hb h5⟩
theorem Hist.grown {w w' : World} {upTo : Int} {bh N : Nat} (h : Hist w bh upTo N) (hb : Below w.heap.size w w') : Hist w' bh upTo N := by
  obtain ⟨g, n, h1, h2⟩ := h
  exact ⟨g, n, h1.grown hb, fun c v hv => (h2 c v hv).grown hb⟩
theorem zero91 (w : World) : (zeroValue 91).run Try.prog w = .ok (.slice none 0 0) w := by kernel_rfl
/-- 'changes := im.history[i]'. -/
theorem Hist.look {w : World} {upTo : Int} {bh N : Nat} (h : Hist w bh upTo N) (i : Int) :
    ∃ v, (v = .slice none 0 0 ∨ Hval w upTo N v) ∧ ∀ w', Below w.heap.size w w' → (Instr.lookup 76 (.map (some bh)) (.int .i64 i) false).run Try.prog w' = .ok v w' := by
  obtain ⟨g, n, h1, h2⟩ := h
  cases hg : g i with
  | none => exact ⟨_, Or.inl rfl, fun w' hb => (h1.grown hb).look_none (key3 w') Try.underlying76 false (zero91 w') hg⟩
  | some v => exact ⟨v, Or.inr (h2 i v hg), fun w' hb => (h1.grown hb).look_some (key3 w') Try.underlying76 false hg⟩
/-- What get answers, with a history that the view sees whole. -/
def getVal (pf : Int → Option (Int × Int)) (r : Nat → Int × Int) (i : Nat) : Int × Int := (pf i).getD (r i)

set_option maxRecDepth 100000 in
set_option maxHeartbeats 2000000 in
theorem get_none {w : World} {br nh nd bh N : Nat} {hc : Nat → Int} {hv dv : Nat → Int × Int} {f pf : Int → Option (Int × Int)} {pm : Option Nat} {upTo : Int} (R : Rec w br nh nd hc hv dv f) (P : Am w pm pf) (i : Nat) (hi : i < nd)
    (hlook : ∀ w', Below w.heap.size w w' → (Instr.lookup 76 (.map (some bh)) (.int .i64 i) false).run Try.prog w' = .ok (.slice none 0 0) w') :
    Calls Try.prog 34 #[.agg #[.pointer (some ⟨br, 0, none⟩), .map pm, .map (some bh), .int .u64 upTo, .pointer none], .int .i64 i] w
      fun e w' => e = .returned (ag (getVal pf (recVal nh hc hv dv f) i)) ∧ Below w.heap.size w w' := by
  have hl : ∀ A B, (Instr.lookup 76 (.map (some bh)) (.int .i64 i) false).run Try.prog ((w.alloc A).alloc B) = .ok (.slice none 0 0) ((w.alloc A).alloc B) := fun A B => hlook _ (((Below.refl _ _).alloc (Nat.le_refl _) _).alloc (by simp) _)
  clear hlook
  cases hf : pf i with
  | some p =>
    have HX : Hid (getVal pf (recVal nh hc hv dv f) i = p) := by show _ = _; unfold getVal; rw [hf]; rfl
    have hp : ∀ A B C nq, (Instr.lookup 71 (.map pm) (.int .i64 i) true).run Try.prog ((((w.alloc A).alloc B).alloc C).drewN nq) = .ok (.tuple #[.agg #[.int .u8 p.1, .int .i64 p.2, .pointer none], .bool true]) ((((w.alloc A).alloc B).alloc C).drewN nq) :=
      fun A B C nq => (P.grown (drawn ((((Below.refl _ _).alloc (Nat.le_refl _) A).alloc (by simp) B).alloc (by simp; omega) C) nq)).look_some hf
    clear R P hf
    go_enter Try.func34, Try.ntmps34
    go_wp2_with fail
    go_quiet (fail)
    go_wp2
    exact bodyPost_ret (v := .agg #[.int .u8 p.1, .int .i64 p.2, .pointer none]) (by simp [results, Try.results34, go_sem]) rfl ⟨by rw [HX.out]; rfl, by
      repeat (first | exact Below.refl _ _ | refine Below.setCell ?_ (by simp) _ | refine Below.alloc ?_ (by simp <;> omega) _ | refine drawn ?_ _)⟩
  | none =>
    have HX : Hid (getVal pf (recVal nh hc hv dv f) i = recVal nh hc hv dv f i) := by show _ = _; unfold getVal; rw [hf]; rfl
    have hp : ∀ A B C nq, (Instr.lookup 71 (.map pm) (.int .i64 i) true).run Try.prog ((((w.alloc A).alloc B).alloc C).drewN nq) = .ok (.tuple #[.agg #[.int .u8 0, .int .i64 0, .pointer none], .bool false]) ((((w.alloc A).alloc B).alloc C).drewN nq) :=
      fun A B C nq => (P.grown (drawn ((((Below.refl _ _).alloc (Nat.le_refl _) A).alloc (by simp) B).alloc (by simp; omega) C) nq)).look_none hf
    clear P hf
    go_enter Try.func34, Try.ntmps34
    go_wp2_with fail
    go_quiet (fail)
    go_wp2_with fail
    refine (value_any (R.grown ?hbw) i hi).mono ?_
    case hbw => repeat (first | exact Below.refl _ _ | refine Below.alloc ?_ (by simp <;> omega) _ | refine drawn ?_ _)
    rintro e w1 ⟨rfl, hb1⟩
    have hb1' : Below w.heap.size w w1 := Below.trans (by repeat (first | exact Below.refl _ _ | refine Below.alloc ?_ (by simp <;> omega) _ | refine drawn ?_ _)) (hb1.mono (by simp <;> omega))
    have z := hb1.size
    have hz : w.heap.size + 1 < w1.heap.size := by simp at z; omega
    have c0 : w1.cell? ⟨w.heap.size + 1, 0, none⟩ = some (.int .u8 0) := by rw [hb1.cell (by simp <;> omega)]; simp [go_sem]
    have c1 : w1.cell? ⟨w.heap.size + 1, 1, none⟩ = some (.int .i64 0) := by rw [hb1.cell (by simp <;> omega)]; simp [go_sem]
    have c2 : w1.cell? ⟨w.heap.size + 1, 2, none⟩ = some (.pointer none) := by rw [hb1.cell (by simp <;> omega)]; simp [go_sem]
    have fz : ∀ o, w1.frozen? ⟨w.heap.size + 1, o, none⟩ = false := fun o => by rw [hb1.frozen (by simp <;> omega)]; simp [go_sem]
    clear hb1 z hl hp
    unfold ag
    go_wp2
    exact bodyPost_ret (v := .agg #[.int .u8 (recVal nh hc hv dv f i).1, .int .i64 (recVal nh hc hv dv f i).2, .pointer none]) (by simp [results, Try.results34, go_sem, c0, c1, c2]) rfl ⟨by rw [HX.out]; rfl, by
      exact ((hb1'.setCell (p := ⟨w.heap.size + 1, 0, none⟩) (by simp) _).setCell (p := ⟨w.heap.size + 1, 1, none⟩) (by simp) _).setCell (p := ⟨w.heap.size + 1, 2, none⟩) (by simp) _⟩
set_option maxRecDepth 100000 in
set_option maxHeartbeats 2000000 in
theorem get_seen {w : World} {br nh nd bh N : Nat} {hc : Nat → Int} {hv dv : Nat → Int × Int} {f pf : Int → Option (Int × Int)} {pm : Option Nat} {upTo : Int} (R : Rec w br nh nd hc hv dv f) (P : Am w pm pf) (i : Nat) (hi : i < nd)
    {b L cap : Nat} {s : Int} (hlook : ∀ w', Below w.heap.size w w' → (Instr.lookup 76 (.map (some bh)) (.int .i64 i) false).run Try.prog w' = .ok (.slice (some ⟨b, 0, none⟩) L cap) w') (hpos : 0 < L) (hlen : L ≤ 4096) (hs : s ≤ upTo) (hcell : w.cell? ⟨b, (L - 1) * 4, none⟩ = some (.int .u64 s)) :
    Calls Try.prog 34 #[.agg #[.pointer (some ⟨br, 0, none⟩), .map pm, .map (some bh), .int .u64 upTo, .pointer none], .int .i64 i] w
      fun e w' => e = .returned (ag (getVal pf (recVal nh hc hv dv f) i)) ∧ Below w.heap.size w w' := by
  have hl : ∀ A B, (Instr.lookup 76 (.map (some bh)) (.int .i64 i) false).run Try.prog ((w.alloc A).alloc B) = .ok (.slice (some ⟨b, 0, none⟩) L cap) ((w.alloc A).alloc B) := fun A B => hlook _ (((Below.refl _ _).alloc (Nat.le_refl _) _).alloc (by simp) _)
  have hbl : b < w.heap.size := World.block_lt_of_cell? w _ hcell
  have hc3 : ∀ A B C, (((w.alloc A).alloc B).alloc C).cell? ⟨b, (L - 1) * 4, none⟩ = some (.int .u64 s) := fun A B C => keep_all ((((Below.refl _ _).alloc (Nat.le_refl _) A).alloc (by simp) B).alloc (by simp; omega) C) hcell
  have hb1 : b < w.heap.size + 1 := by omega
  have hb2 : b < w.heap.size + 1 + 1 := by omega
  have hL0 : (0 : Int) < (L : Int) := by omega
  have hL1 : (L : Int) ≤ 4096 := by omega
  have hL2 : (1 : Int) ≤ (L : Int) := by omega
  have hL3 : (L : Int) - 1 < (L : Int) := by omega
  have hwr : IntKind.i64.wrap ((L : Int) - 1) = (L : Int) - 1 := by rw [IntKind.wrap_i64]; omega
  clear hlook
  cases hf : pf i with
  | some p =>
    have HX : Hid (getVal pf (recVal nh hc hv dv f) i = p) := by show _ = _; unfold getVal; rw [hf]; rfl
    have hp : ∀ A B C nq, (Instr.lookup 71 (.map pm) (.int .i64 i) true).run Try.prog ((((w.alloc A).alloc B).alloc C).drewN nq) = .ok (.tuple #[.agg #[.int .u8 p.1, .int .i64 p.2, .pointer none], .bool true]) ((((w.alloc A).alloc B).alloc C).drewN nq) :=
      fun A B C nq => (P.grown (drawn ((((Below.refl _ _).alloc (Nat.le_refl _) A).alloc (by simp) B).alloc (by simp; omega) C) nq)).look_some hf
    clear R P hf
    go_enter Try.func34, Try.ntmps34
    go_wp2_with fail
    go_quiet (fail)
    go_wp2
    exact bodyPost_ret (v := .agg #[.int .u8 p.1, .int .i64 p.2, .pointer none]) (by simp [results, Try.results34, go_sem]) rfl ⟨by rw [HX.out]; rfl, by
      repeat (first | exact Below.refl _ _ | refine Below.setCell ?_ (by simp) _ | refine Below.alloc ?_ (by simp <;> omega) _ | refine drawn ?_ _)⟩
  | none =>
    have HX : Hid (getVal pf (recVal nh hc hv dv f) i = recVal nh hc hv dv f i) := by show _ = _; unfold getVal; rw [hf]; rfl
    have hp : ∀ A B C nq, (Instr.lookup 71 (.map pm) (.int .i64 i) true).run Try.prog ((((w.alloc A).alloc B).alloc C).drewN nq) = .ok (.tuple #[.agg #[.int .u8 0, .int .i64 0, .pointer none], .bool false]) ((((w.alloc A).alloc B).alloc C).drewN nq) :=
      fun A B C nq => (P.grown (drawn ((((Below.refl _ _).alloc (Nat.le_refl _) A).alloc (by simp) B).alloc (by simp; omega) C) nq)).look_none hf
    clear P hf
    go_enter Try.func34, Try.ntmps34
    go_wp2_with fail
    go_quiet (fail)
    go_wp2_with fail
    refine (value_any (R.grown ?hbw) i hi).mono ?_
    case hbw => repeat (first | exact Below.refl _ _ | refine Below.alloc ?_ (by simp <;> omega) _ | refine drawn ?_ _)
    rintro e w1 ⟨rfl, hb1⟩
    have hb1' : Below w.heap.size w w1 := Below.trans (by repeat (first | exact Below.refl _ _ | refine Below.alloc ?_ (by simp <;> omega) _ | refine drawn ?_ _)) (hb1.mono (by simp <;> omega))
    have z := hb1.size
    have hz : w.heap.size + 1 < w1.heap.size := by simp at z; omega
    have c0 : w1.cell? ⟨w.heap.size + 1, 0, none⟩ = some (.int .u8 0) := by rw [hb1.cell (by simp <;> omega)]; simp [go_sem]
    have c1 : w1.cell? ⟨w.heap.size + 1, 1, none⟩ = some (.int .i64 0) := by rw [hb1.cell (by simp <;> omega)]; simp [go_sem]
    have c2 : w1.cell? ⟨w.heap.size + 1, 2, none⟩ = some (.pointer none) := by rw [hb1.cell (by simp <;> omega)]; simp [go_sem]
    have fz : ∀ o, w1.frozen? ⟨w.heap.size + 1, o, none⟩ = false := fun o => by rw [hb1.frozen (by simp <;> omega)]; simp [go_sem]
    clear hb1 z hl hp
    unfold ag
    go_wp2
    exact bodyPost_ret (v := .agg #[.int .u8 (recVal nh hc hv dv f i).1, .int .i64 (recVal nh hc hv dv f i).2, .pointer none]) (by simp [results, Try.results34, go_sem, c0, c1, c2]) rfl ⟨by rw [HX.out]; rfl, by
      exact ((hb1'.setCell (p := ⟨w.heap.size + 1, 0, none⟩) (by simp) _).setCell (p := ⟨w.heap.size + 1, 1, none⟩) (by simp) _).setCell (p := ⟨w.heap.size + 1, 2, none⟩) (by simp) _⟩

/-- (image).get: a view that sees every change that the history holds. -/
theorem get_any {w : World} {br nh nd bh : Nat} {hc : Nat → Int} {hv dv : Nat → Int × Int} {f pf : Int → Option (Int × Int)} {pm : Option Nat} {upTo : Int} (R : Rec w br nh nd hc hv dv f) (P : Am w pm pf) (Hh : Hist w bh upTo 4096) (i : Nat) (hi : i < nd) :
    Calls Try.prog 34 #[.agg #[.pointer (some ⟨br, 0, none⟩), .map pm, .map (some bh), .int .u64 upTo, .pointer none], .int .i64 i] w
      fun e w' => e = .returned (ag (getVal pf (recVal nh hc hv dv f) i)) ∧ Below w.heap.size w w' := by
  obtain ⟨v, hv1, hl⟩ := Hh.look i
  rcases hv1 with rfl | hv1
  · exact get_none (N := 0) R P i hi hl
  · obtain ⟨b, L, cap, s, rfl, h1, h2, h3, h4⟩ := hv1
    exact get_seen (N := 0) R P i hi hl h1 h2 h3 h4
end Go.Proofs.Qxb6616500a
