/-
  The contracts of project (31) and ZZproject (23); what an image is in memory.
-/
import Derived.Test.Qxb6616500aGet
import Derived.Test.Qxb6616500aMake
namespace Go.Proofs.Qxb6616500a
open Go.RowKit
set_option linter.unusedVariables false
/-- A slice of ints that came in: its address (where it has one), its length, its numbers. -/
structure SlI (w : World) (ao : Option Addr) (n b off : Nat) (f : Nat → Int) : Prop where
  addr : 0 < n → ao = some ⟨b, off, none⟩
  cell : ∀ k, k < n → w.cell? ⟨b, off + k, none⟩ = some (.int .i64 (f k))
theorem SlI.grown {w w' : World} {ao : Option Addr} {n b off : Nat} {f : Nat → Int} (h : SlI w ao n b off f) (hb : Below w.heap.size w w') : SlI w' ao n b off f :=
  ⟨h.addr, fun k hk => keep_all hb (h.cell k hk)⟩
theorem SlI.index {w : World} {ao : Option Addr} {n b off : Nat} {f : Nat → Int} (h : SlI w ao n b off f) (c : Nat) {k : Nat} (hk : k < n) (W : World) :
    (Instr.indexAt 23 (.slice ao n c) (.int .i64 k)).run Try.prog W = .ok (.pointer (some ⟨b, off + k, none⟩)) W := by
  have := index_any (P := Try.prog) Try.underlying23 size3 (c := c) h.addr hk W
  rwa [Nat.mul_one] at this

/-- The values laid so far. -/
def upto {α : Type} (k : Nat) (g : Nat → α) (z : α) : Nat → α := fun j => if j < k then g j else z
theorem upto_zero {α : Type} (g : Nat → α) (z : α) : upto 0 g z = fun _ => z := by funext j; simp [upto]
theorem upto_step {α : Type} (k : Nat) (g : Nat → α) (z : α) : upd (upto k g z) k (g k) = upto (k + 1) g z := by
  funext j
  unfold upd upto
  by_cases e : j = k
  · subst e; rw [if_pos rfl, if_pos (by omega)]
  · rw [if_neg e]
    by_cases h : j < k
    · rw [if_pos h, if_pos (by omega)]
    · rw [if_neg h, if_neg (by omega)]
theorem upto_all {α : Type} {k : Nat} (g : Nat → α) (z : α) {j : Nat} (h : j < k) : upto k g z j = g j := if_pos h

/-- An image, laid out. -/
def gX (br : Nat) (pm : Option Nat) (bh : Nat) (upTo : Int) (o : Nat) : Value := if o = 0 then .pointer (some ⟨br, 0, none⟩) else if o = 1 then .map pm else if o = 2 then .map (some bh) else if o = 3 then .int .u64 upTo else .pointer none
theorem ownX (w : World) (br : Nat) (pm : Option Nat) (bh : Nat) (upTo : Int) : Own (w.alloc (.cells #[.pointer (some ⟨br, 0, none⟩), .map pm, .map (some bh), .int .u64 upTo, .pointer none] 78)) w.heap.size 5 (gX br pm bh upTo) := by
  refine Own.new w #[.pointer (some ⟨br, 0, none⟩), .map pm, .map (some bh), .int .u64 upTo, .pointer none] 78 _ fun o ho => ?_
  have ho' : o < 5 := ho
  match o, ho' with
  | 0, _ => rfl
  | 1, _ => rfl
  | 2, _ => rfl
  | 3, _ => rfl
  | 4, _ => rfl

set_option maxRecDepth 100000 in
set_option maxHeartbeats 2000000 in
theorem project_any {w : World} {br nh nd bh : Nat} {hc : Nat → Int} {hv dv : Nat → Int × Int} {f pf : Int → Option (Int × Int)} {pm : Option Nat} {upTo : Int} (R : Rec w br nh nd hc hv dv f) (P : Am w pm pf) (Hh : Hist w bh upTo 4096)
    {ao : Option Addr} {nc b off : Nat} (c : Nat) {cc : Nat → Nat} (C : SlI w ao nc b off (fun k => (cc k : Int))) (hn : nc ≤ 16384) (hcc : ∀ k, k < nc → cc k < nd) :
    Calls Try.prog 31 #[.agg #[.pointer (some ⟨br, 0, none⟩), .map pm, .map (some bh), .int .u64 upTo, .pointer none], .slice ao nc c] w
      fun e w' => ∃ B, e = .returned (.slice (some ⟨B, 0, none⟩) nc nc) ∧ Own w' B (nc * 3) (gV (fun k => getVal pf (recVal nh hc hv dv f) (cc k))) ∧ Below w.heap.size w w' := by
  have hmk := makeV nc (by omega)
  go_enter Try.func31, Try.ntmps31
  go_wp2
  go_loopw [13] (fun i wr => ∃ k : Nat, k ≤ nc ∧ i = .int .i64 k ∧ Below w.heap.size w wr ∧
      Own wr w.heap.size 5 (gX br pm bh upTo) ∧
      w.heap.size + 1 < wr.heap.size ∧
      Own wr (w.heap.size + 1) (nc * 3) (gV (upto k (fun k => getVal pf (recVal nh hc hv dv f) (cc k)) (0, 0)))) (fun i _ => nc - (intOf i).toNat)
  case atStart =>
    refine ⟨0, by omega, rfl, ((Below.refl _ _).alloc (Nat.le_refl _) _).alloc (by simp) _, (ownX w br pm bh upTo).alloc _, by simp, ?_⟩
    rw [upto_zero]
    have := ownV (w.alloc (.cells #[.pointer (some ⟨br, 0, none⟩), .map pm, .map (some bh), .int .u64 upTo, .pointer none] 78)) nc
    rwa [World.size_alloc] at this
  case round =>
    obtain ⟨k, hk, rfl, hbw, hX, hsz, hV⟩ := hrel
    by_cases hlt : k < nc
    · have hix := C.index c hlt
      have hcell := keep_all hbw (C.cell k hlt)
      have x0 : wr.cell? ⟨w.heap.size, 0, none⟩ = some (.pointer (some ⟨br, 0, none⟩)) := (hX 0 (by omega)).1
      have x1 : wr.cell? ⟨w.heap.size, 1, none⟩ = some (.map pm) := (hX 1 (by omega)).1
      have x2 : wr.cell? ⟨w.heap.size, 2, none⟩ = some (.map (some bh)) := (hX 2 (by omega)).1
      have x3 : wr.cell? ⟨w.heap.size, 3, none⟩ = some (.int .u64 upTo) := (hX 3 (by omega)).1
      have x4 : wr.cell? ⟨w.heap.size, 4, none⟩ = some (.pointer none) := (hX 4 (by omega)).1
      go_wp2_with fail
      refine (get_any (R.grown hbw) (P.grown hbw) (Hh.grown hbw) (cc k) (hcc k hlt)).mono ?_
      rintro e w1 ⟨rfl, hb1⟩
      have hV1 := hV.grown hb1
      have hX1 := hX.grown hb1
      have c0 := hV1.v0 hlt
      have c1 := hV1.v1 hlt
      have c2 := hV1.v2 hlt
      have f0 := (hV1 (k * 3) (by omega)).2
      have f1 := (hV1 (k * 3 + 1) (by omega)).2
      have f2 := (hV1 (k * 3 + 2) (by omega)).2
      have hz1 := hb1.size
      have hbw1 := hbw.trans (hb1.mono hbw.size)
      clear hX hV hb1 hbw x0 x1 x2 x3 x4 hcell hix
      unfold ag
      go_wp2
      go_roundw
      case rel =>
        refine ⟨k + 1, by omega, by go_num, ((hbw1.setCell (p := ⟨w.heap.size + 1, k * 3, none⟩) (by simp) _).setCell (p := ⟨w.heap.size + 1, k * 3 + 1, none⟩) (by simp) _).setCell (p := ⟨w.heap.size + 1, k * 3 + 2, none⟩) (by simp) _,
          ((hX1.other (by omega) _ _).other (by omega) _ _).other (by omega) _ _, by simp; omega, ?_⟩
        rw [← upto_step]
        exact hV1.setV hlt _ _
      case measure => simp [intOf]; omega
    · have hk' : k = nc := by omega
      subst hk'
      go_wp2
      go_ret
      exact ⟨w.heap.size + 1, rfl, hV.congr (fun o ho => by unfold gV; rw [upto_all _ _ (by omega)]), hbw⟩

/-- An image behind a pointer. -/
structure Img (w : World) (bi : Nat) (nh nd : Nat) (hc : Nat → Int) (hv dv : Nat → Int × Int) (f pf : Int → Option (Int × Int)) (upTo : Int) : Prop where
  parts : ∃ br pm bh, Own w bi 5 (gX br pm bh upTo) ∧ Rec w br nh nd hc hv dv f ∧ Am w pm pf ∧ Hist w bh upTo 4096
theorem Img.grown {w w' : World} {bi nh nd : Nat} {hc : Nat → Int} {hv dv : Nat → Int × Int} {f pf : Int → Option (Int × Int)} {upTo : Int} (h : Img w bi nh nd hc hv dv f pf upTo) (hb : Below w.heap.size w w') : Img w' bi nh nd hc hv dv f pf upTo := by
  obtain ⟨br, pm, bh, h1, h2, h3, h4⟩ := h
  exact ⟨br, pm, bh, h1.grown hb, h2.grown hb, h3.grown hb, h4.grown hb⟩
set_option maxRecDepth 100000 in
set_option maxHeartbeats 1000000 in
theorem zzproject_any {w : World} {bi nh nd : Nat} {hc : Nat → Int} {hv dv : Nat → Int × Int} {f pf : Int → Option (Int × Int)} {upTo : Int} (I : Img w bi nh nd hc hv dv f pf upTo)
    {ao : Option Addr} {nc b off : Nat} (c : Nat) {cc : Nat → Nat} (C : SlI w ao nc b off (fun k => (cc k : Int))) (hn : nc ≤ 16384) (hcc : ∀ k, k < nc → cc k < nd) :
    Calls Try.prog 23 #[.pointer (some ⟨bi, 0, none⟩), .slice ao nc c] w
      fun e w' => ∃ B, e = .returned (.slice (some ⟨B, 0, none⟩) nc nc) ∧ Own w' B (nc * 3) (gV (fun k => getVal pf (recVal nh hc hv dv f) (cc k))) ∧ Below w.heap.size w w' := by
  obtain ⟨br, pm, bh, hX, R, P, Hh⟩ := I
  have x0 : w.cell? ⟨bi, 0, none⟩ = some (.pointer (some ⟨br, 0, none⟩)) := (hX 0 (by omega)).1
  have x1 : w.cell? ⟨bi, 1, none⟩ = some (.map pm) := (hX 1 (by omega)).1
  have x2 : w.cell? ⟨bi, 2, none⟩ = some (.map (some bh)) := (hX 2 (by omega)).1
  have x3 : w.cell? ⟨bi, 3, none⟩ = some (.int .u64 upTo) := (hX 3 (by omega)).1
  have x4 : w.cell? ⟨bi, 4, none⟩ = some (.pointer none) := (hX 4 (by omega)).1
  go_enter Try.func23, Try.ntmps23
  go_wp2_with fail
  refine (project_any R P Hh c C hn hcc).mono ?_
  rintro e w1 ⟨B, rfl, hO, hb⟩
  clear x0 x1 x2 x3 x4 hX R P Hh C
  go_wp2
  go_ret
  exact ⟨B, rfl, hO, hb⟩
end Go.Proofs.Qxb6616500a
