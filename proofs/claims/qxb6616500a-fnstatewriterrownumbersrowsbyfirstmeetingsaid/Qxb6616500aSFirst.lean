/-
  The contracts of firstPlaces (11) and firstCounts (12).
-/
import Derived.Test.Qxb6616500aSMake
namespace Go.Proofs.Qxb6616500a
open Go.RowKit
set_option linter.unusedVariables false
/-- The first place of row o among the first k picks, -1 where there is none. -/
def plI (pk : Nat → Int) (k o : Nat) : Int := match fstOf pk (o : Int) k with
  | some j => (j : Int)
  | none => -1
theorem plI_some {pk : Nat → Int} {k o j : Nat} (h : fstOf pk (o : Int) k = some j) : plI pk k o = (j : Int) := by unfold plI; rw [h]
theorem plI_none {pk : Nat → Int} {k o : Nat} (h : fstOf pk (o : Int) k = none) : plI pk k o = -1 := by unfold plI; rw [h]
theorem plI_congr {pk : Nat → Int} {k k' o : Nat} (h : fstOf pk (o : Int) k = fstOf pk (o : Int) k') : plI pk k o = plI pk k' o := by unfold plI; rw [h]
/-- A pick is the first of its row, or its row's first place lies before it. -/
theorem new_or {pk : Nat → Int} {k p n : Nat} (hp : pk k = (p : Int)) (hk : k < n) : (isNew pk k = true ∧ fstOf pk (p : Int) n = some k) ∨ ∃ j, j < k ∧ isNew pk k = false ∧ fstOf pk (p : Int) n = some j := by
  cases h : fstOf pk (p : Int) k with
  | none => exact Or.inl ⟨new_of (by omega) (by rw [hp]; exact h), fst_mono (fst_step_new h hp) (by omega)⟩
  | some j => exact Or.inr ⟨j, (fst_spec h).1, old_of (by rw [hp]; exact h), fst_mono h (by omega)⟩

set_option maxRecDepth 100000 in
set_option maxHeartbeats 2000000 in
theorem first11 {w : World} {ao : Option Addr} {n bp off : Nat} (cap : Nat) {pk : Nat → Int} (C : Pks w ao n bp off pk) (hn : n ≤ 65536) (N : Nat) (hN : N ≤ 65537) (hpk : ∀ k, k < n → pk k < N) :
    Calls Try.prog 11 #[.slice ao n cap, .int .i64 ((N : Int) - 1)] w fun e w' => e = .returned (.slice (some ⟨w.heap.size, 0, none⟩) N N) ∧ Below w.heap.size w w' ∧ w.heap.size < w'.heap.size ∧ Own w' w.heap.size N (gI (plI pk n)) := by
  have hmk := makeI N (by omega)
  go_enter Try.func11, Try.ntmps11
  go_wp2
  go_loopw [14] (fun i wr => ∃ k : Nat, k ≤ N ∧ i = .int .i64 k ∧ Below w.heap.size w wr ∧ w.heap.size < wr.heap.size ∧ Own wr w.heap.size N (gI (fun o => if o < k then -1 else 0))) (fun i _ => N - (intOf i).toNat)
  case atStart =>
    exact ⟨0, by omega, rfl, (Below.refl _ _).alloc (Nat.le_refl _) _, by simp, (ownI w N).congr (fun o _ => by simp [gI])⟩
  case round =>
    obtain ⟨k, hk, rfl, hbw, hsz, hO⟩ := hrel
    by_cases hlt : k < N
    · have hc := (hO k hlt).1
      have hfr := (hO k hlt).2
      have hO' : Own (wr.setCell ⟨w.heap.size, k, none⟩ (.int .i64 (-1))) w.heap.size N (gI (fun o => if o < k + 1 then -1 else 0)) :=
        (hO.setI hlt (-1)).congr fun o _ => by
          unfold gI upd
          by_cases e : o = k
          · subst e; simp
          · by_cases e' : o < k
            · simp [e, e']; omega
            · have : ¬ o < k + 1 := by omega
              simp [e, e', this]
      go_wp2
      go_roundw
      case rel => exact ⟨k + 1, by omega, by go_num, hbw.setCell (Nat.le_refl _) _, by simpa using hsz, hO'⟩
      case measure => simp [intOf]; omega
    · have hk' : k = N := by omega
      subst hk'
      have hO0 : Own wr w.heap.size k (gI (plI pk 0)) := hO.congr fun o ho => by
        unfold gI
        show Value.int .i64 (if o < k then -1 else 0) = _
        rw [if_pos ho, plI_none rfl]
      obtain ⟨wA, hwA⟩ : ∃ x : World, x = wr := ⟨_, rfl⟩
      rw [← hwA] at hbw hsz hO0 ⊢
      clear hO hwA
      go_wp2
      go_loopw [23] (fun i wr => ∃ m : Nat, m ≤ n ∧ i = .int .i64 m ∧ Below w.heap.size w wr ∧ w.heap.size < wr.heap.size ∧ Own wr w.heap.size k (gI (plI pk m))) (fun i _ => n - (intOf i).toNat)
      case atStart => exact ⟨0, by omega, rfl, hbw, hsz, hO0⟩
      case round =>
        obtain ⟨m, hm, rfl, hbw, hsz, hO⟩ := hrel
        by_cases hlt : m < n
        · have hix := C.index cap hlt
          have hcell := keep_all hbw (C.cell m hlt)
          have hpN := hpk m hlt
          by_cases hneg : pk m < 0
          · have hO' : Own wr w.heap.size k (gI (plI pk (m + 1))) := hO.congr fun o _ => by
              unfold gI
              rw [plI_congr (fst_step_other (by omega))]
            generalize pk m = q at hcell hneg hpN
            go_wp2
            go_roundw
            case rel => exact ⟨m + 1, by omega, by go_num, hbw, hsz, hO'⟩
            case measure => simp [intOf]; omega
          · obtain ⟨p, hp⟩ : ∃ p : Nat, pk m = (p : Int) := ⟨(pk m).toNat, by omega⟩
            rw [hp] at hcell hpN
            have hpN' : p < k := by omega
            have hc := (hO p hpN').1
            have hfr := (hO p hpN').2
            unfold gI at hc
            cases hfst : fstOf pk (p : Int) m with
            | some j =>
              have hO' : Own wr w.heap.size k (gI (plI pk (m + 1))) := hO.congr fun o _ => by
                unfold gI
                rw [plI_congr (k := m + 1) (k' := m)]
                by_cases e : pk m = (o : Int)
                · rw [← e, hp, hfst, fst_step_some hfst]
                · exact fst_step_other e
              rw [plI_some hfst] at hc
              go_wp2
              go_roundw
              case rel => exact ⟨m + 1, by omega, by go_num, hbw, hsz, hO'⟩
              case measure => simp [intOf]; omega
            | none =>
              have hO' : Own (wr.setCell ⟨w.heap.size, p, none⟩ (.int .i64 m)) w.heap.size k (gI (plI pk (m + 1))) := (hO.setI hpN' m).congr fun o _ => by
                unfold gI upd
                by_cases e : o = p
                · subst e
                  rw [if_pos rfl, plI_some (fst_step_new hfst hp)]
                · rw [if_neg e, plI_congr (k := m + 1) (k' := m) (fst_step_other (by omega))]
              rw [plI_none hfst] at hc
              go_wp2
              go_roundw
              case rel => exact ⟨m + 1, by omega, by go_num, hbw.setCell (Nat.le_refl _) _, by simpa using hsz, hO'⟩
              case measure => simp [intOf]; omega
        · have hm' : m = n := by omega
          subst hm'
          go_wp2
          go_ret
          exact ⟨rfl, hbw, hsz, hO⟩

set_option maxRecDepth 100000 in
set_option maxHeartbeats 2000000 in
theorem counts12 {w : World} {ao : Option Addr} {n bp off : Nat} (cap : Nat) {pk : Nat → Int} (C : Pks w ao n bp off pk) (hn : n ≤ 65536) {N F : Nat} (hpk : ∀ k, k < n → pk k < N) (hF : Own w F N (gI (plI pk n))) :
    Calls Try.prog 12 #[.slice ao n cap, .slice (some ⟨F, 0, none⟩) N N] w fun e w' => e = .returned (.slice (some ⟨w.heap.size, 0, none⟩) (n + 1) (n + 1)) ∧ Below w.heap.size w w' ∧ Own w' w.heap.size (n + 1) (gI (fun o => (cnt pk o : Int))) := by
  have hmk : ∀ W, (Instr.makeSlice 23 (.int .i64 ((n : Int) + 1)) (.int .i64 ((n : Int) + 1))).run Try.prog W = .ok (.slice (some ⟨W.heap.size, 0, none⟩) (n + 1) (n + 1)) (W.alloc (zI (n + 1))) := fun W => by
    have := makeI (n + 1) (by omega) W
    rw [Int.natCast_add] at this
    exact this
  go_enter Try.func12, Try.ntmps12
  go_wp2
  go_loopw [14] (fun i wr => ∃ k : Nat, k ≤ n ∧ i = .int .i64 k ∧ Below w.heap.size w wr ∧ w.heap.size < wr.heap.size ∧ Own wr w.heap.size (n + 1) (gI (fun o => if o ≤ k then (cnt pk o : Int) else 0))) (fun i _ => n - (intOf i).toNat)
  case atStart =>
    refine ⟨0, by omega, rfl, (Below.refl _ _).alloc (Nat.le_refl _) _, by simp, (ownI w (n + 1)).congr (fun o _ => ?_)⟩
    simp only [gI]
    by_cases e : o ≤ 0
    · obtain rfl : o = 0 := by omega
      simp [cnt]
    · rw [if_neg e]
  case round =>
    obtain ⟨k, hk, rfl, hbw, hsz, hO⟩ := hrel
    by_cases hlt : k < n
    · have hix := C.index cap hlt
      have hcell := keep_all hbw (C.cell k hlt)
      have hpN := hpk k hlt
      have hcl := cnt_le pk k
      have hc0 := (hO k (by omega)).1
      have hc1 := (hO (k + 1) (by omega)).1
      have hf1 := (hO (k + 1) (by omega)).2
      simp only [gI] at hc0 hc1
      rw [if_pos (Nat.le_refl _)] at hc0
      rw [if_neg (by omega)] at hc1
      have step : ∀ v : Int, v = (cnt pk (k + 1) : Int) → Own (wr.setCell ⟨w.heap.size, k + 1, none⟩ (.int .i64 v)) w.heap.size (n + 1) (gI (fun o => if o ≤ k + 1 then (cnt pk o : Int) else 0)) := fun v hv =>
        (hO.setI (show k + 1 < n + 1 by omega) v).congr fun o _ => by
          simp only [gI, upd]
          by_cases e : o = k + 1
          · subst e; rw [if_pos rfl, if_pos (Nat.le_refl _), hv]
          · rw [if_neg e]
            by_cases e' : o ≤ k
            · rw [if_pos e', if_pos (by omega)]
            · rw [if_neg e', if_neg (by omega)]
      have step2 : ∀ v u : Int, v = (cnt pk (k + 1) : Int) → Own ((wr.setCell ⟨w.heap.size, k + 1, none⟩ (.int .i64 u)).setCell ⟨w.heap.size, k + 1, none⟩ (.int .i64 v)) w.heap.size (n + 1) (gI (fun o => if o ≤ k + 1 then (cnt pk o : Int) else 0)) := fun v u hv =>
        ((hO.setI (show k + 1 < n + 1 by omega) u).setI (show k + 1 < n + 1 by omega) v).congr fun o _ => by
          simp only [gI, upd]
          by_cases e : o = k + 1
          · subst e; rw [if_pos rfl, if_pos (Nat.le_refl _), hv]
          · rw [if_neg e, if_neg e]
            by_cases e' : o ≤ k
            · rw [if_pos e', if_pos (by omega)]
            · rw [if_neg e', if_neg (by omega)]
      by_cases hneg : pk k < 0
      · have hO' := step (cnt pk k) (by rw [cnt_old (neg_of hneg)])
        clear step step2
        generalize pk k = q at hcell hneg hpN
        go_wp2
        go_roundw
        case rel => exact ⟨k + 1, by omega, by go_num, hbw.setCell (Nat.le_refl _) _, by simpa using hsz, hO'⟩
        case measure => simp [intOf]; omega
      · obtain ⟨p, hp⟩ : ∃ p : Nat, pk k = (p : Int) := ⟨(pk k).toNat, by omega⟩
        rw [hp] at hcell hpN
        have hpN' : p < N := by omega
        have hF1 := hF.grown hbw
        have hne : (⟨w.heap.size, k + 1, none⟩ : Addr) ≠ ⟨F, p, none⟩ := addr_ne_block (by have := hF.lt (by omega); omega)
        have hcF : (wr.setCell ⟨w.heap.size, k + 1, none⟩ (.int .i64 (cnt pk k))).cell? ⟨F, p, none⟩ = some (gI (plI pk n) p) := by
          rw [World.cell?_setCell_other _ _ _ _ hne]; exact (hF1 p hpN').1
        unfold gI at hcF
        rcases new_or hp hlt with ⟨hnew, hfst⟩ | ⟨j, hj, hold, hfst⟩
        · have hO' := step2 ((cnt pk k : Int) + 1) (cnt pk k) (by rw [cnt_new hnew]; simp)
          rw [plI_some hfst] at hcF
          clear step step2
          go_wp2
          go_roundw
          case rel => exact ⟨k + 1, by omega, by go_num, (hbw.setCell (Nat.le_refl _) _).setCell (Nat.le_refl _) _, by simpa using hsz, hO'⟩
          case measure => simp [intOf]; omega
        · have hO' := step (cnt pk k) (by rw [cnt_old hold])
          rw [plI_some hfst] at hcF
          clear step step2
          have hne' : (j : Int) ≠ (k : Int) := by omega
          have hne'' : ¬ j = k := by omega
          go_wp2
          go_roundw
          case rel => exact ⟨k + 1, by omega, by go_num, hbw.setCell (Nat.le_refl _) _, by simpa using hsz, hO'⟩
          case measure => simp [intOf]; omega
    · have hk' : k = n := by omega
      subst hk'
      go_wp2
      go_ret
      exact ⟨rfl, hbw, hO.congr (fun o ho => by simp only [gI]; rw [if_pos (by omega)])⟩
end Go.Proofs.Qxb6616500a
