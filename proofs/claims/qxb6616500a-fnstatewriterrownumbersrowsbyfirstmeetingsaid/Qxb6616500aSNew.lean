/-
  The contracts of cloneBytes (9), ZZnewStateWriter (8) and feedRows (10).
-/
import Derived.Test.Qxb6616500aSRow
import Derived.Test.Qxb6616500aSMake
namespace Go.Proofs.Qxb6616500a
open Go.RowKit
set_option linter.unusedVariables false
/-- A slice of bytes that came in. -/
def Bys (w : World) (ao : Option Addr) (bs : List Int) : Prop := (ao = none → bs = []) ∧ ∀ ad, ao = some ad → ∀ j u, (bV bs)[j]? = some u → w.cell? (ad.add j) = some u
theorem Bys.grown {w w' : World} {ao : Option Addr} {bs : List Int} (h : Bys w ao bs) (hb : Below w.heap.size w w') : Bys w' ao bs :=
  ⟨h.1, fun ad ha j u hj => keep_all hb (h.2 ad ha j u hj)⟩
def zY (n : Nat) : Obj := .cells (madeCells #[.int .u8 0] n) 5
theorem makeY (n : Nat) (hn : n ≤ 1048576) (W : World) : (Instr.makeSlice 22 (.int .i64 n) (.int .i64 n)).run Try.prog W = .ok (.slice (some ⟨W.heap.size, 0, none⟩) n n) (W.alloc (zY n)) := by
  obtain ⟨i, hi, hz0, hz1, hz2⟩ := info_parts info5
  have h := run_make (P := Try.prog) W 22 5 i _ Try.underlying22 hi hz0 .i64 .i64 n n (by omega) (by omega) (by rw [hz2]; omega) (by omega)
  rw [hz1] at h
  simp only [Int.toNat_natCast] at h
  first | exact h | (rw [Nat.mul_one] at h; exact h)
theorem copy_bytes {w : World} {ad : Addr} {bs : List Int} (q ty : Nat) (C : Bys w (some ad) bs) (hn : bs.length ≤ 1048576) :
    ∃ wZ, (Builtin.copy_ #[22, 22] ty #[.slice (some ⟨w.heap.size, 0, none⟩) bs.length bs.length, .slice (some ad) bs.length q]).run Try.prog (w.alloc (zY bs.length)) = .ok (goInt bs.length) wZ ∧
      wZ.ownsRow w.heap.size 5 1 (.slice (some ⟨w.heap.size, 0, none⟩) bs.length bs.length) bs.length (bV bs) ∧ Below w.heap.size w wZ := by
  have hh : (w.alloc (zY bs.length)).heap[w.heap.size]? = some (.cells (madeCells #[.int .u8 0] bs.length) 5 (0, 0)) := heap_alloc_new w _
  have hr := run_copy_row (P := Try.prog) (w.alloc (zY bs.length)) 22 22 ty 5 w.heap.size 0 bs.length bs.length ad bs.length q (madeCells #[.int .u8 0] bs.length) 5 (bV bs) Try.underlying22 (by kernel_rfl)
    hh (by rw [bV_length]; exact (Nat.min_self _).symm)
    (fun j v hj => keep_all ((Below.refl _ _).alloc (Nat.le_refl _) _) (C.2 ad rfl j v hj))
    (by rw [bV_length, size_madeCells]; omega)
    (fun v hv => by
      obtain ⟨j, _, rfl⟩ := List.mem_map.1 hv
      rfl)
  rw [bV_length] at hr
  have hs := setRow_heap (w.alloc (zY bs.length)) w.heap.size (madeCells #[.int .u8 0] bs.length) ((madeCells #[.int .u8 0] bs.length).toList.take 0 ++ bV bs ++ (madeCells #[.int .u8 0] bs.length).toList.drop (0 + bs.length)).toArray 5 (0, 0) hh
  have hdrop : (madeCells #[.int .u8 0] bs.length).toList.drop (0 + bs.length) = [] := by
    apply List.drop_eq_nil_of_le
    rw [Array.length_toList, size_madeCells]
    omega
  have hlist : ((madeCells #[.int .u8 0] bs.length).toList.take 0 ++ bV bs ++ (madeCells #[.int .u8 0] bs.length).toList.drop (0 + bs.length)) = bV bs := by rw [hdrop]; simp
  rw [hlist] at hr hs
  refine ⟨_, hr, ⟨by rw [bV_length, Nat.mul_one], Or.inr ⟨_, _, _, rfl, Nat.le_refl _, hs, Nat.le_refl _, by unfold maxLen; omega, ?_, ?_⟩⟩, ?_⟩
  · simp [bV_length]
  · simp [← bV_length]
  · exact ((Below.refl _ _).alloc (Nat.le_refl _) _).trans ⟨rfl, rfl, rfl, by simp [World.setRow], fun k hk => setRow_other _ _ _ _ (by omega)⟩
theorem eqNil {P : Program} (w : World) (t e : TypeId) (a : Option Addr) (n c : Nat) (h : P.underlying t = some (.slice e)) : (binOp .eql t (.slice a n c) (.slice none 0 0)).run P w = .ok (.bool a.isNone) w := by
  have hd : ∀ d : Nat, (Op.equalIn (d + 1) t (.slice a n c) (.slice none 0 0)).run P w = .ok a.isNone w := fun d => by
    cases a <;> simp [Op.equalIn, run_underlying h]
  simp only [binOp]
  simp [Op.equal, Op.maxDepth, hd 9999]
set_option maxRecDepth 100000 in
set_option maxHeartbeats 1000000 in
theorem clone9 {w : World} {ao : Option Addr} {bs : List Int} {q : Nat} (C : Bys w ao bs) (hq : ao = none → q = 0) (hn : bs.length ≤ 1048576) :
    Calls Try.prog 9 #[.slice ao bs.length q] w fun e w' => ∃ v, e = .returned v ∧ w'.ownsRow w.heap.size 5 1 v bs.length (bV bs) ∧ Below w.heap.size w w' := by
  have hnq := fun W => eqNil (P := Try.prog) W 22 5 ao bs.length q Try.underlying22
  cases ao with
  | none =>
    obtain rfl := C.1 rfl
    obtain rfl := hq rfl
    have hnq0 : ∀ W, (binOp .eql 22 (.slice none 0 0) (.slice none 0 0)).run Try.prog W = .ok (.bool true) W := hnq
    clear hnq
    go_enter Try.func9, Try.ntmps9
    go_wp2
    go_ret
    exact ⟨_, rfl, World.ownsRow_nil _ _ _ _, Below.refl _ _⟩
  | some ad =>
    obtain ⟨wZ, hcp, hO, hb⟩ := copy_bytes q 3 C hn
    have hmk := makeY bs.length hn
    go_enter Try.func9, Try.ntmps9
    go_wp2
    go_ret
    exact ⟨_, rfl, hO, hb⟩
set_option maxRecDepth 100000 in
set_option maxHeartbeats 1000000 in
theorem new8 {w : World} {base : Nat} {bv : Value} {pre : List Int} (hO : w.ownsRow base 5 1 bv pre.length (bV pre)) (hbase : base ≤ w.heap.size) (rd : Int) (pk : Nat → Int) (n : Nat) (blk : Nat → Nat) :
    Calls Try.prog 8 #[bv, .int .i64 rd] w fun e w' => ∃ b mb, e = .returned (.pointer (some ⟨b, 0, none⟩)) ∧ Below base w w' ∧ SW w' base b mb pre pk n blk rd 0 := by
  obtain ⟨ao, cap, rfl⟩ := own_slice hO
  have hmm := @run_makeMap Try.prog
  go_enter Try.func8, Try.ntmps8
  go_wp2
  go_ret
  obtain ⟨w2, hw2⟩ : ∃ x : World, x = (w.alloc (Obj.map #[] 0)).alloc (Obj.map #[] 0) := ⟨_, rfl⟩
  have hsz : w2.heap.size = w.heap.size + 1 + 1 := by rw [hw2]; simp
  have hbel : Below base w w2 := by rw [hw2]; exact ((Below.refl _ _).alloc hbase _).alloc (by simp; omega) _
  have hO2 : w2.ownsRow base 5 1 (.slice ao pre.length cap) pre.length (bV pre) := by rw [hw2]; exact (hO.alloc _).alloc _
  have hM2 : Mp w2 w.heap.size (embP pk n blk) (fK pk n 0) 0 := by rw [hw2]; exact (Mp.made w (embP pk n blk)).alloc _
  rw [← hw2, ← hsz]
  refine ⟨w2.heap.size, w.heap.size, rfl, hbel.alloc (by omega) _, _, .slice none 0 0, ⟨_, heap_alloc_new _ _⟩, by omega, hbase, by simp; omega, ?_, ?_, ?_, ?_, hO2.alloc _, World.ownsRow_nil _ _ _ _, hM2.alloc _⟩
  all_goals
    rw [World.cell?_alloc_new]
    rfl
set_option maxRecDepth 100000 in
set_option maxHeartbeats 1000000 in
theorem feed10 {w : World} {base b mb : Nat} {pre : List Int} {pk : Nat → Int} {n : Nat} {blk : Nat → Nat} {rd : Int} (h : SW w base b mb pre pk n blk rd 0) (ho : Old w base pk n blk) (hpre : pre.length ≤ 1000000) (hn : n ≤ 65536)
    {ao : Option Addr} {bp off : Nat} (cap : Nat) (C : Pks w ao n bp off pk) (hC : 0 < n → bp < base) {R N : Nat} (hR : R < base) (hRo : Own w R N (rV blk pk n)) (hpk : ∀ k, k < n → pk k < N) :
    Calls Try.prog 10 #[.pointer (some ⟨b, 0, none⟩), .slice ao n cap, .slice (some ⟨R, 0, none⟩) N N] w fun e w' => e = .returned (.tuple #[]) ∧ Below base w w' ∧ SW w' base b mb pre pk n blk rd n := by
  go_enter Try.func10, Try.ntmps10
  go_wp2
  go_loopw [11] (fun i wr => ∃ k : Nat, k ≤ n ∧ i = .int .i64 k ∧ Below base w wr ∧ SW wr base b mb pre pk n blk rd k) (fun i _ => n - (intOf i).toNat)
  case atStart => exact ⟨0, by omega, rfl, Below.refl _ _, h⟩
  case round =>
    obtain ⟨k, hk, rfl, hbw, hS⟩ := hrel
    by_cases hlt : k < n
    · have hix := C.index cap hlt
      have hcell := keep (p := ⟨bp, off + k, none⟩) hbw (hC (by omega)) (C.cell k hlt)
      have hst := step28 hS (ho.below hbw) hpre (by omega) hlt
      have hpN := hpk k hlt
      by_cases hneg : pk k < 0
      · rw [rowK, if_pos hneg] at hst
        generalize pk k = q at hcell hneg hpN
        go_wp2_with fail
        refine hst.mono ?_
        rintro e w1 ⟨rfl, hb1, hS1⟩
        go_wp2
        go_roundw
        case rel => exact ⟨k + 1, by omega, by go_num, hbw.trans hb1, hS1⟩
        case measure => simp [intOf]; omega
      · obtain ⟨p, hp⟩ : ∃ p : Nat, pk k = (p : Int) := ⟨(pk k).toNat, by omega⟩
        rw [rowK, if_neg hneg, hp, Int.toNat_natCast] at hst
        rw [hp] at hcell hpN
        have hpN' : p < N := by omega
        have hmet : Met pk n p := by
          unfold Met
          rw [← hp]
          exact fst_there hlt
        have hc := keep (p := ⟨R, p, none⟩) hbw hR (hRo p hpN').1
        rw [rV_met hmet, rP] at hc
        go_wp2_with fail
        refine hst.mono ?_
        rintro e w1 ⟨rfl, hb1, hS1⟩
        go_wp2
        go_roundw
        case rel => exact ⟨k + 1, by omega, by go_num, hbw.trans hb1, hS1⟩
        case measure => simp [intOf]; omega
    · have hk' : k = n := by omega
      subst hk'
      go_wp2
      exact ⟨rfl, .tuple #[], by simp [results, Try.results10, go_sem], rfl, hbw, hS⟩
end Go.Proofs.Qxb6616500a
