/-
  The law (3): the whole walk.
-/
import Derived.Test.Qxb6616500aSNew
import Derived.Test.Qxb6616500aSFirst
import Derived.Test.Qxb6616500aSGet
namespace Go.Proofs.Qxb6616500a
open Go.RowKit
set_option linter.unusedVariables false
theorem rd_eq {rd : Int} (h0 : -9223372036854775808 ≤ rd) (h1 : rd ≤ 9223372036854775807) (n : Nat) : rdK rd n = wrap64 (rd + n) := by
  induction n with
  | zero =>
    show rd = _
    unfold wrap64
    simp
    omega
  | succ n ih =>
    show wrap64 (rdK rd n + 1) = _
    rw [ih]
    unfold wrap64
    simp
    omega
theorem neqP (a : Addr) (W : World) : (binOp .neq 38 (.pointer (some a)) (.pointer (some a))).run Try.prog W = .ok (.bool false) W := by
  obtain ⟨i, hi, hs⟩ := sz87
  have hd : ∀ d : Nat, (Op.equalIn (d + 1) 38 (.pointer (some a)) (.pointer (some a))).run Try.prog W = .ok true W := fun d => by
    simp [Op.equalIn, run_underlying Try.underlying38, sizeOf, typeInfo, hi, run_sameAddr_same]
  simp only [binOp]
  simp [Op.equal, Op.maxDepth, hd 9999]
set_option maxRecDepth 100000 in
set_option maxHeartbeats 8000000 in
theorem law3 {w : World} {a0 : Option Addr} {pre : List Int} {q0 : Nat} (B : Bys w a0 pre) (hq0 : a0 = none → q0 = 0) {rd : Int} (hr0 : -9223372036854775808 ≤ rd) (hr1 : rd ≤ 9223372036854775807)
    {a2 : Option Addr} {n bp off : Nat} (q2 : Nat) {pk : Nat → Int} (C : Pks w a2 n bp off pk) :
    Calls Try.prog 3 #[.slice a0 pre.length q0, .int .i64 rd, .slice a2 n q2] w fun e w' => e = .returned (.bool true) ∧ Below w.heap.size w w' := by
  obtain ⟨L, hL⟩ : ∃ L, L = pre.length := ⟨_, rfl⟩
  rw [← hL]
  go_enter Try.func3, Try.ntmps3
  go_wp2_with fail
  refine (bytes6 _ _ _ _ _ _ _ _).mono ?_
  rintro e w' ⟨b, rfl, rfl⟩
  cases b
  · go_wp2
    go_ret
    exact ⟨rfl, Below.refl _ _⟩
  by_cases h1 : (524288 : Int) < (L : Int)
  · go_wp2
    go_ret
    exact ⟨rfl, Below.refl _ _⟩
  by_cases h2 : (65536 : Int) < (n : Int)
  · go_wp2
    go_ret
    exact ⟨rfl, Below.refl _ _⟩
  go_wp2
  go_loop [34, 7] (fun i t => ∃ k M : Nat, k ≤ n ∧ i = .int .i64 k ∧ t = .int .i64 ((M : Int) - 1) ∧ M ≤ 65537 ∧ ∀ j, j < k → pk j < M) (fun i _ => n - (intOf i).toNat)
  case atStart => exact ⟨0, 0, by omega, rfl, rfl, by omega, by omega⟩
  case round =>
    obtain ⟨k, M, hk, rfl, rfl, hM, hlo⟩ := hrel
    by_cases hlt : k < n
    · have hix := C.index q2 hlt
      have hcell := C.cell k hlt
      by_cases hbig : 65536 < pk k
      · generalize pk k = q at hcell hbig
        go_wp2
        go_ret
        exact ⟨rfl, Below.refl _ _⟩
      · by_cases hmore : (M : Int) - 1 < pk k
        · have HH : Hid (∀ j, j < k + 1 → pk j < (((pk k).toNat + 1 : Nat) : Int)) := fun j hj => by
            by_cases e : j = k
            · subst e; omega
            · have := hlo j (by omega); omega
          clear hlo
          generalize pk k = q at hcell hbig hmore HH
          go_wp2
          go_round
          case rel => exact ⟨k + 1, q.toNat + 1, by omega, by go_num, by simp; omega, by omega, HH⟩
          case measure => simp [intOf]; omega
        · have HH : Hid (∀ j, j < k + 1 → pk j < (M : Int)) := fun j hj => by
            by_cases e : j = k
            · subst e; omega
            · exact hlo j (by omega)
          clear hlo
          generalize pk k = q at hcell hbig hmore
          go_wp2
          go_round
          case rel => exact ⟨k + 1, M, by omega, by go_num, rfl, hM, HH⟩
          case measure => simp [intOf]; omega
    · have hk' : k = n := by omega
      subst hk'
      have hn : k ≤ 65536 := by omega
      go_wp2_with fail
      refine (make7 q2 C hn M hM hlo).mono ?_
      rintro e w1 ⟨rfl, hb1, hs1, blk, hMd⟩
      have hCb : 0 < k → bp < w'.heap.size := fun h0 => World.block_lt_of_cell? w' _ (C.cell 0 h0)
      have hlow : ∀ p, Met pk k p → blk p < w1.heap.size := fun p hp => hMd.rows.lt hp
      go_wp2_with fail
      refine (clone9 (B.grown hb1) hq0 (by omega)).mono ?_
      rintro e w2 ⟨bv, rfl, hO2, hb2⟩
      go_wp2_with fail
      refine (new8 hO2 hb2.size rd pk k blk).mono ?_
      rintro e w3 ⟨b, mb, rfl, hb3, hS3⟩
      have hb13 : Below w1.heap.size w1 w3 := hb2.trans hb3
      have hOld : Old w3 w1.heap.size pk k blk := ⟨hMd.rows.of_blocks fun p hp => hb13.block _ (hlow p hp), hlow⟩
      have hb03 : Below w'.heap.size w' w3 := hb1.trans (hb13.mono (by omega))
      have hRo : Own w3 w'.heap.size M (rV blk pk k) := hMd.own.below hb13 hs1
      go_wp2_with fail
      refine (feed10 hS3 hOld (by omega) hn q2 (C.grown hb03) (fun h0 => Nat.lt_trans (hCb h0) hs1) hs1 hRo hlo).mono ?_
      rintro e w4 ⟨rfl, hb4, bv4, qv4, hS4⟩
      have hb04 : Below w'.heap.size w' w4 := hb03.trans (hb4.mono (by omega))
      have hR4 : Own w4 w'.heap.size M (rV blk pk k) := hRo.below hb4 hs1
      have hR4l : w'.heap.size < w4.heap.size := Nat.lt_of_lt_of_le hs1 hS4.lo
      clear hb03 hRo hOld hb13 hS3 hO2 hb2 hb3 hMd hb4 hlow
      go_wp2_with fail
      refine (first11 q2 (C.grown hb04) hn M hM hlo).mono ?_
      rintro e w5 ⟨rfl, hb5, hs5, hF5⟩
      go_wp2_with fail
      have hb05 : Below w'.heap.size w' w5 := hb04.trans (hb5.mono (by omega))
      refine (counts12 q2 (C.grown hb05) hn hlo hF5).mono ?_
      rintro e w6 ⟨rfl, hb6, hN6⟩
      have hcn := (hN6 k (by omega)).1
      simp only [gI] at hcn
      have hb06 : Below w'.heap.size w' w6 := hb05.trans (hb6.mono (by have := hb05.size; omega))
      have hS6 := (hS4.grown hb5).grown hb6
      have hF6 := hF5.grown hb6
      have hR6 := (hR4.grown hb5).grown hb6
      have hR6l : w'.heap.size < w6.heap.size := by have := hb5.size; have := hb6.size; omega
      clear hb5 hb6 hF5 hR4 hS4 hb04 hb05 hs5 hR4l
      generalize w4.heap.size = F at hF6 ⊢
      generalize w5.heap.size = G at hN6 hcn ⊢
      have hGl : G < w6.heap.size := hN6.lt (by omega)
      go_wp2_with fail
      refine (clone9 (B.grown hb06) hq0 (by omega)).mono ?_
      rintro e w7 ⟨v7, rfl, hO7, hb7⟩
      go_wp2
      go_loopw [71, 15] (fun i v wr => ∃ m : Nat, m ≤ k ∧ i = .int .i64 m ∧ Below w6.heap.size w6 wr ∧ wr.ownsRow w6.heap.size 5 1 v (outB pre pk m).length (bV (outB pre pk m))) (fun i _ _ => k - (intOf i).toNat)
      case atStart => exact ⟨0, by omega, rfl, hb7, hO7⟩
      case round =>
        obtain ⟨m, hm, rfl, hbw, hO⟩ := hrel
        have hbw' : Below w'.heap.size w' wr := hb06.trans (hbw.mono (by omega))
        by_cases hlt : m < k
        · have hix := C.index q2 hlt
          have hcell := keep_all hbw' (C.cell m hlt)
          have hpN := hlo m hlt
          have hol := outB_length pre pk m
          have hcall := uv13 hO (by omega) hbw.size (idOf pk m)
          by_cases hneg : pk m < 0
          · rw [id_neg hneg] at hcall
            have hcall := hcall (by omega) (by decide)
            have HE : Hid (outB pre pk (m + 1) = outB pre pk m ++ uvF 9 0) := by show _ = _; rw [← id_neg hneg]; rfl
            generalize pk m = q at hcell hneg hpN
            go_wp2_with fail
            refine hcall.mono ?_
            rintro e w8 ⟨v8, rfl, hA⟩
            go_wp2
            go_roundw
            case rel => exact ⟨m + 1, by omega, by go_num, hbw.trans (hA.below hO (Nat.le_refl _) hbw.size), by rw [HE.out]; exact hA.own⟩
            case measure => simp [intOf]; omega
          · obtain ⟨p, hp⟩ : ∃ p : Nat, pk m = (p : Int) := ⟨(pk m).toNat, by omega⟩
            obtain ⟨j, hj⟩ := fst_there (pk := pk) hlt
            have hid : idOf pk m = (cnt pk j : Int) + 1 := id_at (by omega) hlt hj
            have hjk := (fst_spec hj).1
            have hcj := cnt_le pk j
            rw [hp] at hcell hpN hj
            have hpN' : p < M := by omega
            have hcF := ((hF6.grown hbw) p hpN').1
            have hcG := ((hN6.grown hbw) j (by omega)).1
            simp only [gI] at hcF hcG
            rw [plI_some hj] at hcF
            rw [hid] at hcall
            have hcall := hcall (by omega) (by omega)
            have HE : Hid (outB pre pk (m + 1) = outB pre pk m ++ uvF 9 ((cnt pk j : Int) + 1)) := by show _ = _; rw [← hid]; rfl
            go_wp2_with fail
            refine hcall.mono ?_
            rintro e w8 ⟨v8, rfl, hA⟩
            go_wp2
            go_roundw
            case rel => exact ⟨m + 1, by omega, by go_num, hbw.trans (hA.below hO (Nat.le_refl _) hbw.size), by rw [HE.out]; exact hA.own⟩
            case measure => simp [intOf]; omega
        · have hm' : m = k := by omega
          subst hm'
          have hol := outB_length pre pk m
          have hS8 := hS6.grown hbw
          rw [rd_eq hr0 hr1 m] at hS8
          have hF8 := hF6.grown hbw
          have hN8 := hN6.grown hbw
          have hR8 := hR6.grown hbw
          clear hS6 hF6 hN6 hR6 hO7 hb7 hcn
          obtain ⟨w8, hw8⟩ : ∃ x : World, x = wr := ⟨_, rfl⟩
          rw [← hw8] at hO hS8 hF8 hN8 hR8 hbw' ⊢
          clear hw8 hbw
          go_wp2_with fail
          refine (get15 hS8).mono ?_
          rintro e w9 ⟨rfl, rfl⟩
          go_wp2_with fail
          refine (same14 hS8.ob hO (by omega)).mono ?_
          rintro e w10 ⟨rfl, hb10⟩
          have hbX := hbw'.trans (hb10.mono hbw'.size)
          have hS := hS8.grown hb10
          have hF := hF8.grown hb10
          have hN := hN8.grown hb10
          have hR := hR8.grown hb10
          clear hS8 hF8 hN8 hR8 hO hb10 hbw'
          have h16 := get16 hS
          have h17 := get17 hS
          have h18 := get18 hS
          rw [quF_length] at h18
          go_wp2_with fail
          refine h16.mono ?_
          rintro e w11 ⟨rfl, rfl⟩
          go_wp2_with fail
          refine h17.mono ?_
          rintro e w12 ⟨rfl, rfl⟩
          go_wp2_with fail
          refine h18.mono ?_
          rintro e w13 ⟨rfl, rfl⟩
          clear h16 h17 h18
          go_wp2
          go_loopw [114] (fun i wr => ∃ t : Nat, t ≤ m ∧ i = .int .i64 t ∧ Below w13.heap.size w13 wr) (fun i _ => m - (intOf i).toNat)
          case atStart => exact ⟨0, by omega, rfl, Below.refl _ _⟩
          case round =>
            obtain ⟨t, ht, rfl, hbw⟩ := hrel
            have hbw' : Below w'.heap.size w' wr := hbX.trans (hbw.mono hbX.size)
            by_cases hlt : t < m
            · have hix := C.index q2 hlt
              have hcell := keep_all hbw' (C.cell t hlt)
              have hpN := hlo t hlt
              by_cases hneg : pk t < 0
              · generalize pk t = q at hcell hneg hpN
                go_wp2
                go_roundw
                case rel => exact ⟨t + 1, by omega, by go_num, hbw⟩
                case measure => simp [intOf]; omega
              · obtain ⟨p, hp⟩ : ∃ p : Nat, pk t = (p : Int) := ⟨(pk t).toNat, by omega⟩
                rw [hp] at hcell hpN
                have hpN' : p < M := by omega
                have hcF := ((hF.grown hbw) p hpN').1
                simp only [gI] at hcF
                rcases new_or hp hlt with ⟨hnew, hfst⟩ | ⟨j, hj, hold, hfst⟩
                · rw [plI_some hfst] at hcF
                  have hcG := ((hN.grown hbw) t (by omega)).1
                  simp only [gI] at hcG
                  have hcR := ((hR.grown hbw) p hpN').1
                  rw [rV_met ⟨t, hfst⟩, rP] at hcR
                  have hq := quF_at (blk := blk) hnew hlt
                  rw [hp, Int.toNat_natCast] at hq
                  have h19 : ∀ nq, Calls Try.prog 19 #[.pointer (some ⟨b, 0, none⟩), .int .i64 (cnt pk t)] (wr.drewN nq) fun e w' => e = .returned (.pointer (some ⟨blk p, 0, none⟩)) ∧ w' = wr.drewN nq := fun nq => get19 ((hS.grown hbw).grown (drawnS (Below.refl _ _) nq)) hq
                  have hne := neqP ⟨blk p, 0, none⟩
                  have ht1 : (t : Int) < ((m + 1 : Nat) : Int) := by omega
                  have ht2 : (t : Int) < (m : Int) + 1 := by omega
                  clear hq hnew hfst
                  go_wp2_with fail
                  go_quiet ((go_at_call 19; exact Calls.quiet_of_same (h19 _)))
                  go_wp2
                  go_roundw
                  case rel => exact ⟨t + 1, by omega, by go_num, drawnS hbw _⟩
                  case measure => simp [intOf]; omega
                · rw [plI_some hfst] at hcF
                  have hne' : (j : Int) ≠ (t : Int) := by omega
                  have hne'' : ¬ j = t := by omega
                  go_wp2
                  go_roundw
                  case rel => exact ⟨t + 1, by omega, by go_num, hbw⟩
                  case measure => simp [intOf]; omega
            · go_wp2
              go_ret
              exact ⟨rfl, hbw'⟩
end Go.Proofs.Qxb6616500a
