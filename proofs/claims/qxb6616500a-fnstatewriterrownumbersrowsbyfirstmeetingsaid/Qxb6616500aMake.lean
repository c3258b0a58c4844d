/-
  'make' at the types of the road: closed facts of the program, and what a new row holds.
-/
import Derived.Test.Qxb6616500aVal
namespace Go.Proofs.Qxb6616500a
open Go.RowKit
set_option linter.unusedVariables false
theorem info53 : (Try.prog.info? 53).map (fun i => (i.zero, i.size, i.bytes)) = some (some (.agg #[.int .u8 0, .int .i64 0, .pointer none]), 3, 24) := by kernel_rfl
theorem info56 : (Try.prog.info? 56).map (fun i => (i.zero, i.size, i.bytes)) = some (some (.agg #[.bool false, .int .i64 0]), 2, 16) := by kernel_rfl
theorem info3 : (Try.prog.info? 3).map (fun i => (i.zero, i.size, i.bytes)) = some (some (.int .i64 0), 1, 8) := by kernel_rfl
theorem info4 : (Try.prog.info? 4).map (fun i => (i.zero, i.size, i.bytes)) = some (some (.bool false), 1, 1) := by kernel_rfl
theorem info34 : (Try.prog.info? 34).map (fun i => (i.zero, i.size, i.bytes)) = some (some (.int .u64 0), 1, 8) := by kernel_rfl
def zV (n : Nat) : Obj := .cells (madeCells #[.int .u8 0, .int .i64 0, .pointer none] (n * 3)) 53
def zP (n : Nat) : Obj := .cells (madeCells #[.bool false, .int .i64 0] (n * 2)) 56
def zI (n : Nat) : Obj := .cells (madeCells #[.int .i64 0] n) 3
def zB (n : Nat) : Obj := .cells (madeCells #[.bool false] n) 4
def zU (n : Nat) : Obj := .cells (madeCells #[.int .u64 0] n) 34
theorem makeV (n : Nat) (hn : n ≤ 1048576) (W : World) : (Instr.makeSlice 47 (.int .i64 n) (.int .i64 n)).run Try.prog W = .ok (.slice (some ⟨W.heap.size, 0, none⟩) n n) (W.alloc (zV n)) := by
  obtain ⟨i, hi, hz0, hz1, hz2⟩ := info_parts info53
  have h := run_make (P := Try.prog) W 47 53 i _ Try.underlying47 hi hz0 .i64 .i64 n n (by omega) (by omega) (by rw [hz2]; omega) (by omega)
  rw [hz1] at h
  simp only [Int.toNat_natCast] at h
  first | exact h | (rw [Nat.mul_one] at h; exact h)
theorem makeP (n : Nat) (hn : n ≤ 1048576) (W : World) : (Instr.makeSlice 40 (.int .i64 n) (.int .i64 n)).run Try.prog W = .ok (.slice (some ⟨W.heap.size, 0, none⟩) n n) (W.alloc (zP n)) := by
  obtain ⟨i, hi, hz0, hz1, hz2⟩ := info_parts info56
  have h := run_make (P := Try.prog) W 40 56 i _ Try.underlying40 hi hz0 .i64 .i64 n n (by omega) (by omega) (by rw [hz2]; omega) (by omega)
  rw [hz1] at h
  simp only [Int.toNat_natCast] at h
  first | exact h | (rw [Nat.mul_one] at h; exact h)
theorem makeI (n : Nat) (hn : n ≤ 1048576) (W : World) : (Instr.makeSlice 23 (.int .i64 n) (.int .i64 n)).run Try.prog W = .ok (.slice (some ⟨W.heap.size, 0, none⟩) n n) (W.alloc (zI n)) := by
  obtain ⟨i, hi, hz0, hz1, hz2⟩ := info_parts info3
  have h := run_make (P := Try.prog) W 23 3 i _ Try.underlying23 hi hz0 .i64 .i64 n n (by omega) (by omega) (by rw [hz2]; omega) (by omega)
  rw [hz1] at h
  simp only [Int.toNat_natCast] at h
  first | exact h | (rw [Nat.mul_one] at h; exact h)
theorem makeB (n : Nat) (hn : n ≤ 1048576) (W : World) : (Instr.makeSlice 69 (.int .i64 n) (.int .i64 n)).run Try.prog W = .ok (.slice (some ⟨W.heap.size, 0, none⟩) n n) (W.alloc (zB n)) := by
  obtain ⟨i, hi, hz0, hz1, hz2⟩ := info_parts info4
  have h := run_make (P := Try.prog) W 69 4 i _ Try.underlying69 hi hz0 .i64 .i64 n n (by omega) (by omega) (by rw [hz2]; omega) (by omega)
  rw [hz1] at h
  simp only [Int.toNat_natCast] at h
  first | exact h | (rw [Nat.mul_one] at h; exact h)
theorem makeU (n : Nat) (hn : n ≤ 1048576) (W : World) : (Instr.makeSlice 70 (.int .i64 n) (.int .i64 n)).run Try.prog W = .ok (.slice (some ⟨W.heap.size, 0, none⟩) n n) (W.alloc (zU n)) := by
  obtain ⟨i, hi, hz0, hz1, hz2⟩ := info_parts info34
  have h := run_make (P := Try.prog) W 70 34 i _ Try.underlying70 hi hz0 .i64 .i64 n n (by omega) (by omega) (by rw [hz2]; omega) (by omega)
  rw [hz1] at h
  simp only [Int.toNat_natCast] at h
  first | exact h | (rw [Nat.mul_one] at h; exact h)
theorem ownV (w : World) (n : Nat) : Own (w.alloc (zV n)) w.heap.size (n * 3) (gV (fun _ => (0, 0))) := by
  refine Own.made w _ (n * 3) 53 _ fun o _ => ?_
  unfold gV
  have h3 : o % 3 < 3 := Nat.mod_lt _ (by omega)
  show (#[Value.int .u8 0, Value.int .i64 0, Value.pointer none] : Array Value)[o % 3]! = _
  generalize o % 3 = r at h3
  match r, h3 with
  | 0, _ => rfl
  | 1, _ => rfl
  | 2, _ => rfl
theorem ownP (w : World) (n : Nat) : Own (w.alloc (zP n)) w.heap.size (n * 2) (gP (fun _ => (false, 0))) := by
  refine Own.made w _ (n * 2) 56 _ fun o _ => ?_
  unfold gP
  have h3 : o % 2 < 2 := Nat.mod_lt _ (by omega)
  show (#[Value.bool false, Value.int .i64 0] : Array Value)[o % 2]! = _
  generalize o % 2 = r at h3
  match r, h3 with
  | 0, _ => rfl
  | 1, _ => rfl
theorem ownI (w : World) (n : Nat) : Own (w.alloc (zI n)) w.heap.size n (gI (fun _ => 0)) := by
  refine Own.made w _ n 3 _ fun o _ => ?_
  show (#[Value.int .i64 0] : Array Value)[o % 1]! = _
  rw [Nat.mod_one]; rfl
theorem ownB (w : World) (n : Nat) : Own (w.alloc (zB n)) w.heap.size n (gB (fun _ => false)) := by
  refine Own.made w _ n 4 _ fun o _ => ?_
  show (#[Value.bool false] : Array Value)[o % 1]! = _
  rw [Nat.mod_one]; rfl
theorem ownU (w : World) (n : Nat) : Own (w.alloc (zU n)) w.heap.size n (gU (fun _ => 0)) := by
  refine Own.made w _ n 34 _ fun o _ => ?_
  show (#[Value.int .u64 0] : Array Value)[o % 1]! = _
  rw [Nat.mod_one]; rfl

/-! ### slices that came in, nil among them: the index -/
/-- 'xs[k]', whatever the address, where the index is in range. -/
theorem index_any {P : Program} {t e : TypeId} {s : Nat} (ht : P.underlying t = some (.slice e)) (hs : ∀ W, (sizeOf e).run P W = .ok s W) {ao : Option Addr} {n c b off : Nat} (ha : 0 < n → ao = some ⟨b, off, none⟩) {k : Nat} (hk : k < n) (W : World) :
    (Instr.indexAt t (.slice ao n c) (.int .i64 k)).run P W = .ok (.pointer (some ⟨b, off + k * s, none⟩)) W := by
  rw [ha (by omega)]
  simp [Instr.indexAt, run_underlying ht, asIntOf, hk, hs, Addr.add_lit]
theorem size53 (W : World) : (sizeOf 53).run Try.prog W = .ok 3 W := by kernel_rfl
theorem size56 (W : World) : (sizeOf 56).run Try.prog W = .ok 2 W := by kernel_rfl
theorem size3 (W : World) : (sizeOf 3).run Try.prog W = .ok 1 W := by kernel_rfl
theorem size68 (W : World) : (sizeOf 68).run Try.prog W = .ok 3 W := by kernel_rfl
theorem size59 (W : World) : (sizeOf 59).run Try.prog W = .ok 4 W := by kernel_rfl
end Go.Proofs.Qxb6616500a
