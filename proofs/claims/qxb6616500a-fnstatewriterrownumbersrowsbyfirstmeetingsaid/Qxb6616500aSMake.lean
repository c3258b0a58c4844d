/-
  The contracts of ZZnewRow (27) and makeRows (7): one new row for each number that is met.
-/
import Derived.Test.Qxb6616500aSKey
import Derived.Test.Qxb6616500aMake
namespace Go.Proofs.Qxb6616500a
open Go.RowKit
set_option linter.unusedVariables false
/-- The picks, as they came in. -/
structure Pks (w : World) (ao : Option Addr) (n b off : Nat) (f : Nat → Int) : Prop where
  addr : 0 < n → ao = some ⟨b, off, none⟩
  cell : ∀ k, k < n → w.cell? ⟨b, off + k, none⟩ = some (.int .i64 (f k))
theorem Pks.grown {w w' : World} {ao : Option Addr} {n b off : Nat} {f : Nat → Int} (h : Pks w ao n b off f) (hb : Below w.heap.size w w') : Pks w' ao n b off f :=
  ⟨h.addr, fun k hk => keep_all hb (h.cell k hk)⟩
theorem Pks.index {w : World} {ao : Option Addr} {n b off : Nat} {f : Nat → Int} (h : Pks w ao n b off f) (c : Nat) {k : Nat} (hk : k < n) (W : World) :
    (Instr.indexAt 23 (.slice ao n c) (.int .i64 k)).run Try.prog W = .ok (.pointer (some ⟨b, off + k, none⟩)) W := by
  have := index_any (P := Try.prog) Try.underlying23 size3 (c := c) h.addr hk W
  rwa [Nat.mul_one] at this
theorem info38' : (Try.prog.info? 38).map (fun i => (i.zero, i.size, i.bytes)) = some (some (.pointer none), 1, 8) := by kernel_rfl
def zR (n : Nat) : Obj := .cells (madeCells #[.pointer none] n) 38
theorem makeR (n : Nat) (hn : n ≤ 1048576) (W : World) : (Instr.makeSlice 25 (.int .i64 n) (.int .i64 n)).run Try.prog W = .ok (.slice (some ⟨W.heap.size, 0, none⟩) n n) (W.alloc (zR n)) := by
  obtain ⟨i, hi, hz0, hz1, hz2⟩ := info_parts info38'
  have h := run_make (P := Try.prog) W 25 38 i _ Try.underlying25 hi hz0 .i64 .i64 n n (by omega) (by omega) (by rw [hz2]; omega) (by omega)
  rw [hz1] at h
  simp only [Int.toNat_natCast] at h
  first | exact h | (rw [Nat.mul_one] at h; exact h)
/-- The rows behind the first k picks. -/
def rV (blk : Nat → Nat) (pk : Nat → Int) (k o : Nat) : Value := match fstOf pk (o : Int) k with
  | some _ => rP blk o
  | none => .pointer none
theorem ownR (w : World) (n : Nat) (blk : Nat → Nat) (pk : Nat → Int) : Own (w.alloc (zR n)) w.heap.size n (rV blk pk 0) := by
  refine Own.made w _ n 38 _ fun o _ => ?_
  show (#[Value.pointer none] : Array Value)[o % 1]! = _
  rw [Nat.mod_one]; rfl
theorem rV_met {blk : Nat → Nat} {pk : Nat → Int} {k o : Nat} (h : Met pk k o) : rV blk pk k o = rP blk o := by
  obtain ⟨j, hj⟩ := h
  unfold rV
  rw [hj]
theorem rV_none {blk : Nat → Nat} {pk : Nat → Int} {k o : Nat} (h : fstOf pk (o : Int) k = none) : rV blk pk k o = .pointer none := by
  unfold rV
  rw [h]
set_option maxHeartbeats 1000000 in
theorem new27 (w : World) : Calls Try.prog 27 #[] w fun e w' => ∃ c, e = .returned (.pointer (some ⟨w.heap.size, 0, none⟩)) ∧ w' = w.alloc (.cells c 87) := by
  go_enter Try.func27, Try.ntmps27
  go_wp2
  go_ret
  exact ⟨_, rfl, rfl⟩

/-- The rows made behind the first k picks: the slice's block R, and one block each. -/
structure Made (w : World) (R N : Nat) (pk : Nat → Int) (k : Nat) (blk : Nat → Nat) : Prop where
  own : Own w R N (rV blk pk k)
  rows : Rws w pk k blk
  high : ∀ p, Met pk k p → R < blk p
theorem rows_same {w : World} {R N : Nat} {pk : Nat → Int} {k : Nat} {blk : Nat → Nat} (h : Made w R N pk k blk) (he : ∀ o : Nat, fstOf pk (o : Int) (k + 1) = fstOf pk (o : Int) k) : Made w R N pk (k + 1) blk := by
  have hm : ∀ p, Met pk (k + 1) p ↔ Met pk k p := fun p => by unfold Met; rw [he p]
  exact ⟨h.own.congr (fun o _ => by unfold rV; rw [he o]), ⟨fun p hp => h.rows.row p ((hm p).1 hp), fun p q hp hq => h.rows.inj p q ((hm p).1 hp) ((hm q).1 hq)⟩, fun p hp => h.high p ((hm p).1 hp)⟩
theorem made_neg {w : World} {R N : Nat} {pk : Nat → Int} {k : Nat} {blk : Nat → Nat} (h : Made w R N pk k blk) (hp : pk k < 0) : Made w R N pk (k + 1) blk :=
  rows_same h fun o => fst_step_other (by omega)
theorem made_old {w : World} {R N : Nat} {pk : Nat → Int} {k j : Nat} {blk : Nat → Nat} (h : Made w R N pk k blk) (hj : fstOf pk (pk k) k = some j) : Made w R N pk (k + 1) blk :=
  rows_same h fun o => by
    by_cases e : pk k = (o : Int)
    · rw [← e, hj, fst_step_some hj]
    · exact fst_step_other e
theorem made_new {w : World} {R N : Nat} {pk : Nat → Int} {k p : Nat} {blk : Nat → Nat} (h : Made w R N pk k blk) (hR : R < w.heap.size) (hp : pk k = (p : Int)) (hN : p < N) (hj : fstOf pk (p : Int) k = none) (c : Array Value) :
    Made ((w.alloc (.cells c 87)).setCell ⟨R, p, none⟩ (.pointer (some ⟨w.heap.size, 0, none⟩))) R N pk (k + 1) (upd blk p w.heap.size) := by
  have hne : ∀ o : Nat, o ≠ p → fstOf pk (o : Int) (k + 1) = fstOf pk (o : Int) k := fun o ho => fst_step_other (by omega)
  have hm : ∀ q, q ≠ p → Met pk (k + 1) q → Met pk k q := fun q hq => by unfold Met; rw [hne q hq]; exact id
  refine ⟨((h.own.alloc _).set hN _).congr fun o ho => ?_, ⟨fun q hq => ?_, fun q r hq hr e => ?_⟩, fun q hq => ?_⟩
  · by_cases e : o = p
    · subst e
      rw [if_pos rfl, rV_met ⟨k, fst_step_new hj hp⟩, rP, upd_at]
    · rw [if_neg e]
      unfold rV
      rw [hne o e]
      cases fstOf pk (o : Int) k with
      | none => rfl
      | some j => show rP _ _ = rP _ _; unfold rP; rw [upd_ne _ _ e]
  · by_cases e : q = p
    · subst e
      rw [upd_at]
      refine ⟨c, ?_⟩
      rw [Below.heap_setCell _ _ _ _ (by show w.heap.size ≠ R; omega)]
      exact heap_alloc_new w _
    · rw [upd_ne _ _ e]
      have hlt := h.rows.lt (hm q e hq)
      have hhi := h.high q (hm q e hq)
      rw [Below.heap_setCell _ _ _ _ (by show blk q ≠ R; omega), Below.heap_alloc _ _ _ hlt]
      exact h.rows.row q (hm q e hq)
  · by_cases e1 : q = p
    · by_cases e2 : r = p
      · rw [e1, e2]
      · have := h.rows.lt (hm r e2 hr)
        rw [e1, upd_at, upd_ne _ _ e2] at e
        omega
    · by_cases e2 : r = p
      · have := h.rows.lt (hm q e1 hq)
        rw [e2, upd_at, upd_ne _ _ e1] at e
        omega
      · rw [upd_ne _ _ e1, upd_ne _ _ e2] at e
        exact h.rows.inj q r (hm q e1 hq) (hm r e2 hr) e
  · by_cases e : q = p
    · rw [e, upd_at]; exact hR
    · rw [upd_ne _ _ e]; exact h.high q (hm q e hq)

set_option maxRecDepth 100000 in
set_option maxHeartbeats 2000000 in
theorem make7 {w : World} {ao : Option Addr} {n bp off : Nat} (cap : Nat) {pk : Nat → Int} (C : Pks w ao n bp off pk) (hn : n ≤ 65536) (N : Nat) (hN : N ≤ 65537) (hpk : ∀ k, k < n → pk k < N) :
    Calls Try.prog 7 #[.slice ao n cap, .int .i64 ((N : Int) - 1)] w fun e w' => e = .returned (.slice (some ⟨w.heap.size, 0, none⟩) N N) ∧ Below w.heap.size w w' ∧ w.heap.size < w'.heap.size ∧ ∃ blk, Made w' w.heap.size N pk n blk := by
  have hmk := makeR N (by omega)
  go_enter Try.func7, Try.ntmps7
  go_wp2
  go_loopw [13] (fun i wr => ∃ k : Nat, k ≤ n ∧ i = .int .i64 k ∧ Below w.heap.size w wr ∧ w.heap.size < wr.heap.size ∧ ∃ blk, Made wr w.heap.size N pk k blk) (fun i _ => n - (intOf i).toNat)
  case atStart =>
    refine ⟨0, by omega, rfl, (Below.refl _ _).alloc (Nat.le_refl _) _, by simp, fun _ => 0, ownR w N _ pk, ⟨fun p hp => ?_, fun p q hp => ?_⟩, fun p hp => ?_⟩
    all_goals
      obtain ⟨j, hj⟩ := hp
      cases hj
  case round =>
    obtain ⟨k, hk, rfl, hbw, hsz, blk, hM⟩ := hrel
    by_cases hlt : k < n
    · have hix := C.index cap hlt
      have hcell := keep_all hbw (C.cell k hlt)
      have hpN := hpk k hlt
      by_cases hneg : pk k < 0
      · have hM' := made_neg hM hneg
        generalize pk k = q at hcell hneg hpN
        go_wp2
        go_roundw
        case rel => exact ⟨k + 1, by omega, by go_num, hbw, hsz, blk, hM'⟩
        case measure => simp [intOf]; omega
      · obtain ⟨p, hp⟩ : ∃ p : Nat, pk k = (p : Int) := ⟨(pk k).toNat, by omega⟩
        rw [hp] at hcell hpN
        have hpN' : p < N := by omega
        have hc := (hM.own p hpN').1
        have hfr := (hM.own p hpN').2
        cases hfst : fstOf pk (p : Int) k with
        | some j =>
          have hM' := made_old hM (hp ▸ hfst)
          rw [rV_met ⟨j, hfst⟩, rP] at hc
          go_wp2
          go_roundw
          case rel => exact ⟨k + 1, by omega, by go_num, hbw, hsz, blk, hM'⟩
          case measure => simp [intOf]; omega
        | none =>
          rw [rV_none hfst] at hc
          go_wp2_with fail
          refine (new27 wr).mono ?_
          rintro e w1 ⟨c, rfl, hw1⟩
          have hM' := made_new hM hsz hp hpN' hfst c
          have hc1 := ((hM.own.alloc (.cells c 87)) p hpN').1
          rw [rV_none hfst] at hc1
          have hfr1 := ((hM.own.alloc (.cells c 87)) p hpN').2
          have hbw1 := hbw.alloc (by omega) (.cells c 87)
          have hsz1 : w.heap.size < (wr.alloc (.cells c 87)).heap.size := by simp; omega
          rw [← hw1] at hM' hc1 hfr1 hbw1 hsz1
          clear hw1
          go_wp2
          go_roundw
          case rel => exact ⟨k + 1, by omega, by go_num, hbw1.setCell (Nat.le_refl _) _, by simpa using hsz1, _, hM'⟩
          case measure => simp [intOf]; omega
    · have hk' : k = n := by omega
      subst hk'
      go_wp2
      go_ret
      exact ⟨rfl, hbw, hsz, blk, hM⟩
end Go.Proofs.Qxb6616500a
