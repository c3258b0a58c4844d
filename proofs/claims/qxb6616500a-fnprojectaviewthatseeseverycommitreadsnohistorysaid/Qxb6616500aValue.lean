/-
  The contract of (*record).Value (38); what a record is in memory.
-/
import Derived.Test.Qxb6616500aFind
import Derived.WalkSpells
namespace Go.Proofs.Qxb6616500a
open Go.RowKit
set_option linter.unusedVariables false
/-- The last of the first n places that bear the column c. -/
def lastOf {α : Type} (col : Nat → Int) (v : Nat → α) : Nat → Int → Option α
  | 0, _ => none
  | n + 1, c => if col n = c then some (v n) else lastOf col v n c
theorem lastOf_none {α : Type} {col : Nat → Int} {v : Nat → α} {n : Nat} {c : Int} (h : ∀ j, j < n → col j ≠ c) : lastOf col v n c = none := by
  induction n with
  | zero => rfl
  | succ n ih =>
    show (if col n = c then some (v n) else lastOf col v n c) = none
    rw [if_neg (h n (by omega)), ih (fun j hj => h j (by omega))]
theorem lastOf_some {α : Type} {col : Nat → Int} {v : Nat → α} {n k : Nat} {c : Int} (hk : k < n) (hc : col k = c) (h : ∀ j, k < j → j < n → col j ≠ c) : lastOf col v n c = some (v k) := by
  induction n with
  | zero => omega
  | succ n ih =>
    show (if col n = c then some (v n) else lastOf col v n c) = some (v k)
    by_cases e : k = n
    · subst e
      rw [if_pos hc]
    · rw [if_neg (h n (by omega) (by omega)), ih (by omega) (fun j h1 h2 => h j h1 (by omega))]
theorem Found.last {α : Type} {hc : Nat → Int} {nh nd : Nat} (h : Cols hc nh nd) (v : Nat → α) {i : Int} {k : Nat} {b : Bool} (F : Found hc nh i k b) :
    lastOf hc v nh i = if b then some (v k) else none := by
  cases b
  · exact lastOf_none (F.2 rfl)
  · obtain ⟨h1, h2⟩ := F.1 rfl
    exact lastOf_some h1 h2 (fun j hj hn => by have := h.2 k j hj hn; omega)

/-- A value.Value without a text. -/
def ag (p : Int × Int) : Value := .agg #[.int .u8 p.1, .int .i64 p.2, .pointer none]
/-- A map[int]value.Value that may be nil: what it holds at each key. -/
def Am (w : World) (m : Option Nat) (f : Int → Option (Int × Int)) : Prop :=
  (m = none ∧ ∀ a, f a = none) ∨ ∃ b n, m = some b ∧ Mp w b (fun a : Int => Value.int .i64 a) (fun a => (f a).map ag) n
theorem Am.grown {w w' : World} {m : Option Nat} {f : Int → Option (Int × Int)} (h : Am w m f) (hb : Below w.heap.size w w') : Am w' m f := by
  rcases h with h | ⟨b, n, h1, h2⟩
  · exact Or.inl h
  · exact Or.inr ⟨b, n, h1, h2.grown hb⟩
theorem key3 (w : World) : Kyd Try.prog w 3 (fun a : Int => Value.int .i64 a) := int_kyd Try.underlying3 w
theorem zero53 (w : World) : (zeroValue 53).run Try.prog w = .ok (.agg #[.int .u8 0, .int .i64 0, .pointer none]) w := by kernel_rfl
/-- 'v, ok := m[i]'. -/
theorem Am.look_some {w : World} {m : Option Nat} {f : Int → Option (Int × Int)} (h : Am w m f) {i : Int} {p : Int × Int} (hf : f i = some p) :
    (Instr.lookup 71 (.map m) (.int .i64 i) true).run Try.prog w = .ok (.tuple #[.agg #[.int .u8 p.1, .int .i64 p.2, .pointer none], .bool true]) w := by
  rcases h with ⟨_, h⟩ | ⟨b, n, rfl, h2⟩
  · rw [h] at hf; cases hf
  · exact h2.look_some (key3 w) Try.underlying71 true (a := i) (v := ag p) (by simp [hf])
theorem Am.look_none {w : World} {m : Option Nat} {f : Int → Option (Int × Int)} (h : Am w m f) {i : Int} (hf : f i = none) :
    (Instr.lookup 71 (.map m) (.int .i64 i) true).run Try.prog w = .ok (.tuple #[.agg #[.int .u8 0, .int .i64 0, .pointer none], .bool false]) w := by
  rcases h with ⟨rfl, h⟩ | ⟨b, n, rfl, h2⟩
  · exact look_nil (key3 w) Try.underlying71 true (zero53 w) i
  · exact h2.look_none (key3 w) Try.underlying71 true (zero53 w) (a := i) (by simp [hf])

/-- A record: where its parts lie, and what they hold. -/
structure Rec (w : World) (br : Nat) (nh nd : Nat) (hc : Nat → Int) (hv dv : Nat → Int × Int) (f : Int → Option (Int × Int)) : Prop where
  cols : Cols hc nh nd
  hh : nh ≤ 8192
  hd : nd ≤ 16384
  parts : ∃ bl bc bv bd m, w.cell? ⟨br, 0, none⟩ = some (.pointer (some ⟨bl, 0, none⟩)) ∧ w.cell? ⟨br, 1, none⟩ = some (.slice (some ⟨bv, 0, none⟩) nh nh) ∧ w.cell? ⟨br, 2, none⟩ = some (.map m) ∧
    w.cell? ⟨bl, 0, none⟩ = some (.slice (some ⟨bc, 0, none⟩) nh nh) ∧ w.cell? ⟨bl, 1, none⟩ = some (.slice (some ⟨bd, 0, none⟩) nd nd) ∧
    Own w bc nh (gI hc) ∧ Own w bv (nh * 3) (gV hv) ∧ Own w bd (nd * 3) (gV dv) ∧ Am w m f
theorem Rec.grown {w w' : World} {br nh nd : Nat} {hc : Nat → Int} {hv dv : Nat → Int × Int} {f : Int → Option (Int × Int)} (h : Rec w br nh nd hc hv dv f) (hb : Below w.heap.size w w') : Rec w' br nh nd hc hv dv f := by
  obtain ⟨a, b, c, bl, bc, bv, bd, m, h1, h2, h3, h4, h5, h6, h7, h8, h9⟩ := h
  exact ⟨a, b, c, bl, bc, bv, bd, m, keep_all hb h1, keep_all hb h2, keep_all hb h3, keep_all hb h4, keep_all hb h5, h6.grown hb, h7.grown hb, h8.grown hb, h9.grown hb⟩

/-- What (*record).Value answers. -/
def recVal (nh : Nat) (hc : Nat → Int) (hv dv : Nat → Int × Int) (f : Int → Option (Int × Int)) (i : Nat) : Int × Int := (lastOf hc hv nh i).getD ((f i).getD (dv i))

set_option maxHeartbeats 1000000 in
theorem value_any {w : World} {br nh nd : Nat} {hc : Nat → Int} {hv dv : Nat → Int × Int} {f : Int → Option (Int × Int)} (R : Rec w br nh nd hc hv dv f) (i : Nat) (hi : i < nd) :
    Calls Try.prog 38 #[.pointer (some ⟨br, 0, none⟩), .int .i64 i] w fun e w' => e = .returned (ag (recVal nh hc hv dv f i)) ∧ Below w.heap.size w w' := by
  obtain ⟨hcols, hh, hd, bl, bc, bv, bd, m, h1, h2, h3, h4, h5, h6, h7, h8, h9⟩ := R
  go_enter Try.func38, Try.ntmps38
  go_wp2_with fail
  have hb0 : Below w.heap.size w (w.alloc (.cells #[.int .u8 0, .int .i64 0, .pointer none] 53)) := (Below.refl _ _).alloc (Nat.le_refl _) _
  refine (find_any hc nh nd hh hd hcols i hi br bl bc bd nh nd _ (keep_all hb0 h1) (keep_all hb0 h4) (keep_all hb0 h5) (h6.grown hb0)).mono ?_
  rintro e w1 ⟨k, b, rfl, F, hb1⟩
  have hb1' := hb0.trans (hb1.mono (by simp))
  have z := hb1.size
  have hz : w.heap.size < w1.heap.size := by simp at z; omega
  have c0 : w1.cell? ⟨w.heap.size, 0, none⟩ = some (.int .u8 0) := by rw [hb1.cell (by simp)]; simp
  have c1 : w1.cell? ⟨w.heap.size, 1, none⟩ = some (.int .i64 0) := by rw [hb1.cell (by simp)]; simp
  have c2 : w1.cell? ⟨w.heap.size, 2, none⟩ = some (.pointer none) := by rw [hb1.cell (by simp)]; simp
  have fz : ∀ o, w1.frozen? ⟨w.heap.size, o, none⟩ = false := fun o => by rw [hb1.frozen (by simp)]; simp
  have g1 := keep_all hb1' h1
  have g2 := keep_all hb1' h2
  have g3 := keep_all hb1' h3
  have g5 := keep_all hb1' h5
  have V := h7.grown hb1'
  have D := h8.grown hb1'
  have A := h9.grown hb1'
  have L := F.last hcols hv
  clear h1 h2 h3 h4 h5 h6 h7 h8 h9 hb1 z
  cases b
  · have L' : lastOf hc hv nh i = none := L
    have HR : Hid (recVal nh hc hv dv f i = (f i).getD (dv i)) := by show _ = _; unfold recVal; rw [L']; rfl
    clear L L' F V
    cases hf : f i with
    | none =>
      have HX : Hid (recVal nh hc hv dv f i = dv i) := by show _ = _; rw [HR.out, hf]; rfl
      have hl := A.look_none hf
      have d0 := D.v0 hi
      have d1 := D.v1 hi
      have d2 := D.v2 hi
      clear D hf HR
      have hn := fun W => run_neq_map_nil (P := Try.prog) W 71 3 53 m Try.underlying71
      cases m with
      | none =>
        go_wp2
        exact bodyPost_ret (v := .agg #[.int .u8 (dv i).1, .int .i64 (dv i).2, .pointer none]) (by simp [results, Try.results38, go_sem, c0, c1, c2]) rfl ⟨by rw [HX.out]; rfl, ((hb1'.setCell (p := ⟨w.heap.size, 0, none⟩) (Nat.le_refl _) _).setCell (p := ⟨w.heap.size, 1, none⟩) (Nat.le_refl _) _).setCell (p := ⟨w.heap.size, 2, none⟩) (Nat.le_refl _) _⟩
      | some bm =>
        have e1 : br < w1.heap.size := World.block_lt_of_cell? w1 _ g1
        have e2 : bl < w1.heap.size := World.block_lt_of_cell? w1 _ g5
        have e3 : bd < w1.heap.size := World.block_lt_of_cell? w1 _ d0
        clear A
        go_wp2
        exact bodyPost_ret (v := .agg #[.int .u8 (dv i).1, .int .i64 (dv i).2, .pointer none]) (by simp [results, Try.results38, go_sem, c0, c1, c2, hz]) rfl ⟨by rw [HX.out]; rfl, (((hb1'.setCell (p := ⟨w.heap.size, 0, none⟩) (Nat.le_refl _) _).setCell (p := ⟨w.heap.size, 1, none⟩) (Nat.le_refl _) _).setCell (p := ⟨w.heap.size, 2, none⟩) (Nat.le_refl _) _).alloc (by simp; omega) _⟩
    | some p =>
      have HX : Hid (recVal nh hc hv dv f i = p) := by show _ = _; rw [HR.out, hf]; rfl
      have hl := A.look_some hf
      have hn := fun W => run_neq_map_nil (P := Try.prog) W 71 3 53 m Try.underlying71
      clear D HR
      cases m with
      | none =>
        rcases A with ⟨_, h'⟩ | ⟨_, _, h', _⟩
        · rw [h'] at hf; cases hf
        · cases h'
      | some bm =>
        clear A hf
        go_wp2
        exact bodyPost_ret (v := .agg #[.int .u8 (p).1, .int .i64 (p).2, .pointer none]) (by simp [results, Try.results38, go_sem, c0, c1, c2, hz]) rfl ⟨by rw [HX.out]; rfl, (((hb1'.setCell (p := ⟨w.heap.size, 0, none⟩) (Nat.le_refl _) _).setCell (p := ⟨w.heap.size, 1, none⟩) (Nat.le_refl _) _).setCell (p := ⟨w.heap.size, 2, none⟩) (Nat.le_refl _) _).alloc (by simp; omega) _⟩
  · obtain ⟨hk, _⟩ := F.1 rfl
    have HX : Hid (recVal nh hc hv dv f i = hv k) := by show _ = _; unfold recVal; rw [show lastOf hc hv nh i = some (hv k) from L]; rfl
    have d0 := V.v0 hk
    have d1 := V.v1 hk
    have d2 := V.v2 hk
    clear L F D A V
    go_wp2
    exact bodyPost_ret (v := .agg #[.int .u8 (hv k).1, .int .i64 (hv k).2, .pointer none]) (by simp [results, Try.results38, go_sem, c0, c1, c2]) rfl ⟨by rw [HX.out]; rfl, ((hb1'.setCell (p := ⟨w.heap.size, 0, none⟩) (Nat.le_refl _) _).setCell (p := ⟨w.heap.size, 1, none⟩) (Nat.le_refl _) _).setCell (p := ⟨w.heap.size, 2, none⟩) (Nat.le_refl _) _⟩
end Go.Proofs.Qxb6616500a
