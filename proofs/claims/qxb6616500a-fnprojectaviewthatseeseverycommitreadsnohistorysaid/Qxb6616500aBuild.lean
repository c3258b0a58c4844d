/-
  The contract of buildImage (22).
-/
import Derived.Test.Qxb6616500aSl
import Derived.Test.Qxb6616500aNew
import Derived.Deep.DeepCutAuto
namespace Go.Proofs.Qxb6616500a
open Go.RowKit
set_option linter.unusedVariables false
theorem Mp.congr {α : Type} {w : World} {b n : Nat} {emb : α → Value} {f f' : α → Option Value} (h : Mp w b emb f n) (e : ∀ a, f a = f' a) : Mp w b emb f' n := by
  have : f = f' := funext e
  subst this; exact h
/-- One entry more in a map that is filled in a loop. -/
theorem map_round {wB wr w1 w2 : World} {A : Obj} {c : Nat → Int} {v : Nat → Bool × Int} {k n' : Nat} (hbw : Below wB.heap.size wB wr) (hszm : wB.heap.size < wr.heap.size) (hb1 : Below (wr.alloc A).drew.heap.size (wr.alloc A).drew w1)
    (hM2 : Mp w2 wB.heap.size (fun a : Int => Value.int .i64 a) (fun x => if x = c k then some (.agg #[.int .u8 (tvp ((v k).1, (v k).2)).1, .int .i64 (tvp ((v k).1, (v k).2)).2, .pointer none]) else (lastOf c (fun j => tvp (v j)) k x).map ag) n') (hg2 : w1.grownBy w2 (some wB.heap.size)) :
    Below wB.heap.size wB w2 ∧ wB.heap.size < w2.heap.size ∧ ∃ n, Mp w2 wB.heap.size (fun a : Int => Value.int .i64 a) (fun a => (lastOf c (fun j => tvp (v j)) (k + 1) a).map ag) n := by
  have z := hb1.size
  have z2 := hg2.size
  simp at z
  have h1 : Below wB.heap.size wB w1 := ((hbw.alloc hbw.size A).drew).trans (hb1.mono (by simp; omega))
  refine ⟨h1.grown hg2 (by omega) (fun k e => by cases e; exact Nat.le_refl _), by omega, n', hM2.congr fun a => ?_⟩
  show _ = Option.map ag (if c k = a then some (tvp (v k)) else lastOf c (fun j => tvp (v j)) k a)
  by_cases e : a = c k
  · rw [if_pos e, if_pos e.symm]; rfl
  · rw [if_neg e, if_neg (fun h => e h.symm)]

set_option maxRecDepth 100000 in
set_option maxHeartbeats 4000000 in
theorem build_any {w : World} {a0 a1 a2 a3 a4 : Option Addr} {nd nh na np nH b0 o0 b1 o1 b2 o2 b3 o3 b4 o4 : Nat} (q0 q1 q2 q3 q4 : Nat) {d hv av pv Hv : Nat → Bool × Int} {hc ac pc Hc Hs : Nat → Int} (upTo : Int) (wh : Bool)
    (D : SlP w a0 nd b0 o0 d) (Hd : SlC w a1 nh b1 o1 hc hv) (Ad : SlC w a2 na b2 o2 ac av) (Pt : SlC w a3 np b3 o3 pc pv) (Hy : SlH w a4 nH b4 o4 Hc Hs Hv)
    (hnd : nd ≤ 16384) (hnh : nh ≤ 8192) (hna : na ≤ 4096) (hnp : np ≤ 4096) (hnH : nH ≤ 4096) (cols : Cols hc nh nd) (seen : ∀ k, k < nH → Hs k ≤ upTo) :
    Calls Try.prog 22 #[.slice a0 nd q0, .slice a1 nh q1, .slice a2 na q2, .slice a3 np q3, .slice a4 nH q4, .int .u64 upTo, .bool wh] w
      fun e w' => ∃ bi, e = .returned (.pointer (some ⟨bi, 0, none⟩)) ∧ Img w' bi nh nd hc (fun j => tvp (hv j)) (fun j => tvp (d j)) (lastOf ac (fun j => tvp (av j)) na) (lastOf pc (fun j => tvp (pv j)) np) upTo ∧ Below w.heap.size w w' := by
  have HHy : Hid (SlH w a4 nH b4 o4 Hc Hs Hv) := Hy
  have hmk0 := makeV nd (by omega)
  have hmk1 := makeI nh (by omega)
  have hmk2 := makeV nh (by omega)
  have hmm := @run_makeMap Try.prog
  go_enter Try.func22, Try.ntmps22
  go_wp2
  go_loopw [34] (fun i wr => ∃ k : Nat, k ≤ nd ∧ i = .int .i64 k ∧ Below w.heap.size w wr ∧ w.heap.size < wr.heap.size ∧ Own wr w.heap.size (nd * 3) (gV (upto k (fun j => tvp (d j)) (0, 0)))) (fun i _ => nd - (intOf i).toNat)
  case atStart =>
    refine ⟨0, by omega, rfl, (Below.refl _ _).alloc (Nat.le_refl _) _, by simp, ?_⟩
    rw [upto_zero]
    exact ownV w nd
  case round =>
    obtain ⟨k, hk, rfl, hbw, hsz, hV⟩ := hrel
    by_cases hlt : k < nd
    · have hix := D.index q0 hlt
      have e0 := keep_all hbw (D.c0 k hlt)
      have e1 := keep_all hbw (D.c1 k hlt)
      go_wp2_with fail
      refine (tv_any _ _ _).mono ?_
      rintro e w1 ⟨rfl, hb1⟩
      have hV1 := hV.grown hb1
      have c0 := hV1.v0 hlt
      have c1 := hV1.v1 hlt
      have c2 := hV1.v2 hlt
      have f0 := (hV1 (k * 3) (by omega)).2
      have f1 := (hV1 (k * 3 + 1) (by omega)).2
      have f2 := (hV1 (k * 3 + 2) (by omega)).2
      have hz1 := hb1.size
      have hbw1 := hbw.trans (hb1.mono hbw.size)
      clear hV hb1 hbw hix e0 e1
      go_wp2
      go_roundw
      case rel =>
        refine ⟨k + 1, by omega, by go_num, ((hbw1.setCell (p := ⟨w.heap.size, k * 3, none⟩) (by simp) _).setCell (p := ⟨w.heap.size, k * 3 + 1, none⟩) (by simp) _).setCell (p := ⟨w.heap.size, k * 3 + 2, none⟩) (by simp) _, by simp; omega, ?_⟩
        rw [← upto_step]
        exact hV1.setV hlt _ _
      case measure => simp [intOf]; omega
    · have hk' : nd = k := by omega
      subst hk'
      obtain ⟨wA, rfl⟩ : ∃ x : World, x = wr := ⟨_, rfl⟩
      have hD : Own wA w.heap.size (nd * 3) (gV (fun j => tvp (d j))) := hV.congr (fun o ho => by unfold gV; rw [upto_all _ _ (by omega)])
      have hbA : Below w.heap.size w wA := hbw
      have HdA := Hd.grown hbA
      have AdA := Ad.grown hbA
      have PtA := Pt.grown hbA
      have HyA := Hy.grown hbA
      clear hV hlt hk D Hd Ad Pt Hy hbw
      go_wp2
      go_loopw [54] (fun i wr => ∃ k : Nat, k ≤ nh ∧ i = .int .i64 k ∧ Below wA.heap.size wA wr ∧ wA.heap.size + 1 < wr.heap.size ∧ Own wr wA.heap.size nh (gI (upto k hc 0)) ∧ Own wr (wA.heap.size + 1) (nh * 3) (gV (upto k (fun j => tvp (hv j)) (0, 0)))) (fun i _ => nh - (intOf i).toNat)
      case atStart =>
        refine ⟨0, by omega, rfl, ((Below.refl _ _).alloc (Nat.le_refl _) _).alloc (by simp) _, by simp, ?_, ?_⟩
        · rw [upto_zero]
          exact (ownI wA nh).alloc _
        · rw [upto_zero]
          have := ownV (wA.alloc (zI nh)) nh
          rwa [World.size_alloc] at this
      case round =>
        obtain ⟨k, hk, rfl, hbw, hsz2, hI, hV⟩ := hrel
        by_cases hlt : k < nh
        · have hix := HdA.index q1 hlt
          have e0 := keep_all hbw (HdA.c0 k hlt)
          have e1 := keep_all hbw (HdA.c1 k hlt)
          have e2 := keep_all hbw (HdA.c2 k hlt)
          have i0 : wr.cell? ⟨wA.heap.size, k, none⟩ = some (.int .i64 (upto k hc 0 k)) := (hI k hlt).1
          have i1 := (hI k hlt).2
          have hblk := World.block_lt_of_cell? wA _ (HdA.c0 k hlt)
          go_wp2_with fail
          refine (tv_any _ _ _).mono ?_
          rintro e w1 ⟨rfl, hb1⟩
          have hI0 := hI.setI hlt (hc k)
          rw [upto_step] at hI0
          have hV0 := hV.other (b' := wA.heap.size) (by omega) k (.int .i64 (hc k))
          have hI1 := hI0.grown hb1
          have hV1 := hV0.grown hb1
          have c0 := hV1.v0 hlt
          have c1 := hV1.v1 hlt
          have c2 := hV1.v2 hlt
          have f0 := (hV1 (k * 3) (by omega)).2
          have f1 := (hV1 (k * 3 + 1) (by omega)).2
          have f2 := (hV1 (k * 3 + 2) (by omega)).2
          have hz1 := hb1.size
          rw [World.size_setCell] at hz1
          have hbw1 : Below wA.heap.size wA w1 := (hbw.setCell (p := ⟨wA.heap.size, k, none⟩) (Nat.le_refl _) _).trans (hb1.mono (by rw [World.size_setCell]; exact hbw.size))
          clear hV hI hI0 hV0 hb1 hbw hix e0 e1 e2 i0 i1
          go_wp2
          go_roundw
          case rel =>
            refine ⟨k + 1, by omega, by go_num, ((hbw1.setCell (p := ⟨wA.heap.size + 1, k * 3, none⟩) (by simp) _).setCell (p := ⟨wA.heap.size + 1, k * 3 + 1, none⟩) (by simp) _).setCell (p := ⟨wA.heap.size + 1, k * 3 + 2, none⟩) (by simp) _, by simp; omega, ?_, ?_⟩
            · exact ((hI1.other (by omega) _ _).other (by omega) _ _).other (by omega) _ _
            · rw [← upto_step]
              exact hV1.setV hlt _ _
          case measure => simp [intOf]; omega
        · have hk' : nh = k := by omega
          subst hk'
          obtain ⟨wB, rfl⟩ : ∃ x : World, x = wr := ⟨_, rfl⟩
          have hIB : Own wB wA.heap.size nh (gI hc) := hI.congr (fun o ho => by unfold gI; rw [upto_all _ _ ho])
          have hVB : Own wB (wA.heap.size + 1) (nh * 3) (gV (fun j => tvp (hv j))) := hV.congr (fun o ho => by unfold gV; rw [upto_all _ _ (by omega)])
          have hDB := hD.grown hbw
          have AdB := AdA.grown hbw
          have PtB := PtA.grown hbw
          have HyB := HyA.grown hbw
          have hbB : Below w.heap.size w wB := hbA.trans (hbw.mono hbA.size)
          clear hV hI hlt hk HdA AdA PtA HyA hD
          have HQ : Hid (Below wA.heap.size wA wB) := hbw
          clear hbw
          go_upto_if 77 with fail
          go_cut [20] (fun s20 wx => ∃ am, s20 = .map am ∧ Below wB.heap.size wB wx ∧ Am wx am (lastOf ac (fun j => tvp (av j)) na))
          case first =>
            by_cases hz : na = 0
            · subst hz
              go_wp2
              go_meet
              case rel => exact ⟨none, rfl, Below.refl _ _, Or.inl ⟨rfl, fun a => rfl⟩⟩
            · have hz' : decide (0 < na) = true := by simp; omega
              rw [hz']
              clear hz'
              go_wp2
              go_loopw [81] (fun i wr => ∃ k : Nat, k ≤ na ∧ i = .int .i64 k ∧ Below wB.heap.size wB wr ∧ wB.heap.size < wr.heap.size ∧ ∃ n, Mp wr wB.heap.size (fun a : Int => Value.int .i64 a) (fun a => (lastOf ac (fun j => tvp (av j)) k a).map ag) n) (fun i _ => na - (intOf i).toNat)
              case atStart =>
                exact ⟨0, by omega, rfl, (Below.refl _ _).alloc (Nat.le_refl _) _, by simp, 0, Mp.made wB _⟩
              case round =>
                obtain ⟨k, hk, rfl, hbw, hszm, nm, hMp⟩ := hrel
                by_cases hlt : k < na
                · have hix := AdB.index q2 hlt
                  have e0 := keep_all hbw (AdB.c0 k hlt)
                  have e1 := keep_all hbw (AdB.c1 k hlt)
                  have e2 := keep_all hbw (AdB.c2 k hlt)
                  go_wp2_with fail
                  go_region_held3 (fun w' => w'.cell? ⟨wr.heap.size, 0, none⟩ = some (.int .i64 (ac k)) ∧ w'.cell? ⟨wr.heap.size, 1, none⟩ = some (.bool (av k).1) ∧ w'.cell? ⟨wr.heap.size, 2, none⟩ = some (.int .i64 (av k).2))
                    (first
                      | exact ⟨by simp [go_sem], by simp [go_sem], by simp [go_sem]⟩
                      | exact ⟨y0, y1, y2⟩
                      | exact ⟨z0, z1, z2⟩)
                    ((go_at_call 25
                      refine (tv_any _ _ _).mono ?_
                      rintro e w1 ⟨rfl, hb1⟩
                      have zsz := hb1.size
                      have y0 : w1.cell? ⟨wr.heap.size, 0, none⟩ = some (.int .i64 (ac k)) := by rw [hb1.cell (by simp)]; simp [go_sem]
                      have y1 : w1.cell? ⟨wr.heap.size, 1, none⟩ = some (.bool (av k).1) := by rw [hb1.cell (by simp)]; simp [go_sem]
                      have y2 : w1.cell? ⟨wr.heap.size, 2, none⟩ = some (.int .i64 (av k).2) := by rw [hb1.cell (by simp)]; simp [go_sem]
                      obtain ⟨w2, hupd, hM2, hg2⟩ := ((hMp.alloc (.cells #[.int .i64 (ac k), .bool (av k).1, .int .i64 (av k).2] 68)).drew.grown hb1).store (key3 w1) Try.underlying71 (ac k) (.agg #[.int .u8 (tvp ((av k).1, (av k).2)).1, .int .i64 (tvp ((av k).1, (av k).2)).2, .pointer none])
                      have z0 : w2.cell? ⟨wr.heap.size, 0, none⟩ = some (.int .i64 (ac k)) := by rw [hg2.cell_far _ (by simp at zsz ⊢; omega) (by simp; omega)]; exact y0
                      have z1 : w2.cell? ⟨wr.heap.size, 1, none⟩ = some (.bool (av k).1) := by rw [hg2.cell_far _ (by simp at zsz ⊢; omega) (by simp; omega)]; exact y1
                      have z2 : w2.cell? ⟨wr.heap.size, 2, none⟩ = some (.int .i64 (av k).2) := by rw [hg2.cell_far _ (by simp at zsz ⊢; omega) (by simp; omega)]; exact y2))
                  obtain ⟨r1, r2, n2, r3⟩ := map_round hbw hszm hb1 hM2 hg2
                  clear hM2 hg2 hupd y0 y1 y2 z0 z1 z2 hb1 zsz hMp hbw hszm e0 e1 e2 hix
                  go_wp2
                  go_roundw
                  case rel => first | exact ⟨k + 1, by omega, by go_num, r1, r2, n2, r3⟩ | ((repeat apply Exists.intro); exact ⟨⟨k + 1, by omega, by go_num, r1, r2, n2, r3⟩, rfl⟩)
                  case measure => simp [intOf]; omega
                · have hk' : na = k := by omega
                  subst hk'
                  go_wp2
                  go_meet
                  case rel => exact ⟨some wB.heap.size, rfl, hbw, Or.inr ⟨_, nm, rfl, hMp⟩⟩
          case rest =>
            obtain ⟨am, rfl, hbc, hAm⟩ := hcut
            obtain ⟨wC, rfl⟩ : ∃ x : World, x = wc := ⟨_, rfl⟩
            have hIC := hIB.grown hbc
            have hVC := hVB.grown hbc
            have hDC := hDB.grown hbc
            have PtC := PtB.grown hbc
            have HyC := HyB.grown hbc
            have hbC : Below w.heap.size w wC := hbB.trans (hbc.mono hbB.size)
            clear hIB hVB hDB PtB HyB hbc AdB
            go_upto_if 94 with fail
            go_cut [23] (fun s23 wx => ∃ pm, s23 = .map pm ∧ Below wC.heap.size wC wx ∧ Am wx pm (lastOf pc (fun j => tvp (pv j)) np))
            case first =>
              by_cases hz : np = 0
              · subst hz
                go_wp2
                go_meet
                case rel => exact ⟨none, rfl, Below.refl _ _, Or.inl ⟨rfl, fun a => rfl⟩⟩
              · have hz' : decide (0 < np) = true := by simp; omega
                rw [hz']
                clear hz'
                go_wp2
                go_loopw [98] (fun i wr => ∃ k : Nat, k ≤ np ∧ i = .int .i64 k ∧ Below wC.heap.size wC wr ∧ wC.heap.size < wr.heap.size ∧ ∃ n, Mp wr wC.heap.size (fun a : Int => Value.int .i64 a) (fun a => (lastOf pc (fun j => tvp (pv j)) k a).map ag) n) (fun i _ => np - (intOf i).toNat)
                case atStart =>
                  exact ⟨0, by omega, rfl, (Below.refl _ _).alloc (Nat.le_refl _) _, by simp, 0, Mp.made wC _⟩
                case round =>
                  obtain ⟨k, hk, rfl, hbw, hszm, nm, hMp⟩ := hrel
                  by_cases hlt : k < np
                  · have hix := PtC.index q3 hlt
                    have e0 := keep_all hbw (PtC.c0 k hlt)
                    have e1 := keep_all hbw (PtC.c1 k hlt)
                    have e2 := keep_all hbw (PtC.c2 k hlt)
                    go_wp2_with fail
                    go_region_held3 (fun w' => w'.cell? ⟨wr.heap.size, 0, none⟩ = some (.int .i64 (pc k)) ∧ w'.cell? ⟨wr.heap.size, 1, none⟩ = some (.bool (pv k).1) ∧ w'.cell? ⟨wr.heap.size, 2, none⟩ = some (.int .i64 (pv k).2))
                      (first
                        | exact ⟨by simp [go_sem], by simp [go_sem], by simp [go_sem]⟩
                        | exact ⟨y0, y1, y2⟩
                        | exact ⟨z0, z1, z2⟩)
                      ((go_at_call 25
                        refine (tv_any _ _ _).mono ?_
                        rintro e w1 ⟨rfl, hb1⟩
                        have zsz := hb1.size
                        have y0 : w1.cell? ⟨wr.heap.size, 0, none⟩ = some (.int .i64 (pc k)) := by rw [hb1.cell (by simp)]; simp [go_sem]
                        have y1 : w1.cell? ⟨wr.heap.size, 1, none⟩ = some (.bool (pv k).1) := by rw [hb1.cell (by simp)]; simp [go_sem]
                        have y2 : w1.cell? ⟨wr.heap.size, 2, none⟩ = some (.int .i64 (pv k).2) := by rw [hb1.cell (by simp)]; simp [go_sem]
                        obtain ⟨w2, hupd, hM2, hg2⟩ := ((hMp.alloc (.cells #[.int .i64 (pc k), .bool (pv k).1, .int .i64 (pv k).2] 68)).drew.grown hb1).store (key3 w1) Try.underlying71 (pc k) (.agg #[.int .u8 (tvp ((pv k).1, (pv k).2)).1, .int .i64 (tvp ((pv k).1, (pv k).2)).2, .pointer none])
                        have z0 : w2.cell? ⟨wr.heap.size, 0, none⟩ = some (.int .i64 (pc k)) := by rw [hg2.cell_far _ (by simp at zsz ⊢; omega) (by simp; omega)]; exact y0
                        have z1 : w2.cell? ⟨wr.heap.size, 1, none⟩ = some (.bool (pv k).1) := by rw [hg2.cell_far _ (by simp at zsz ⊢; omega) (by simp; omega)]; exact y1
                        have z2 : w2.cell? ⟨wr.heap.size, 2, none⟩ = some (.int .i64 (pv k).2) := by rw [hg2.cell_far _ (by simp at zsz ⊢; omega) (by simp; omega)]; exact y2))
                    obtain ⟨r1, r2, n2, r3⟩ := map_round hbw hszm hb1 hM2 hg2
                    clear hM2 hg2 hupd y0 y1 y2 z0 z1 z2 hb1 zsz hMp hbw hszm e0 e1 e2 hix
                    go_wp2
                    go_roundw
                    case rel => first | exact ⟨k + 1, by omega, by go_num, r1, r2, n2, r3⟩ | ((repeat apply Exists.intro); exact ⟨⟨k + 1, by omega, by go_num, r1, r2, n2, r3⟩, rfl⟩)
                    case measure => simp [intOf]; omega
                  · have hk' : np = k := by omega
                    subst hk'
                    go_wp2
                    go_meet
                    case rel => exact ⟨some wC.heap.size, rfl, hbw, Or.inr ⟨_, nm, rfl, hMp⟩⟩
            case rest =>
              obtain ⟨pm, rfl, hbc, hPm⟩ := hcut
              obtain ⟨wD, rfl⟩ : ∃ x : World, x = wc := ⟨_, rfl⟩
              have hID := hIC.grown hbc
              have hVD := hVC.grown hbc
              have hDD := hDC.grown hbc
              have HyD := HyC.grown hbc
              have hAD := hAm.grown hbc
              have hbD : Below w.heap.size w wD := hbC.trans (hbc.mono hbC.size)
              clear hIC hVC hDC HyC hAm hbc PtC
              go_wp2_with fail
              refine (newImage_any upTo cols hnh hnd hID hDD hVD hAD hPm).mono ?_
              rintro e wE ⟨rfl, hImg, hbE, hszE⟩
              have HyE := HyD.grown hbE
              have hbE' : Below w.heap.size w wE := hbD.trans (hbE.mono hbD.size)
              clear hID hDD hVD hAD hPm HyD hmk0 hmk1 hmk2 hmm
              cases wh
              · go_wp2
                go_ret
                exact ⟨_, rfl, hImg.img (by omega), hbE'⟩
              · have hsn : ∀ k, k < nH → Hs k ≤ upTo := seen
                clear HyE
                go_wp2
                go_loopw [119] (fun i wr => ∃ k : Nat, k ≤ nH ∧ i = .int .i64 k ∧ Below w.heap.size w wr ∧ wD.heap.size + 3 < wr.heap.size ∧ ImgH wr (wD.heap.size + 2) nh nd hc (fun j => tvp (hv j)) (fun j => tvp (d j)) (lastOf ac (fun j => tvp (av j)) na) (lastOf pc (fun j => tvp (pv j)) np) upTo k) (fun i _ => nH - (intOf i).toNat)
                case atStart => exact ⟨0, by omega, rfl, hbE', hszE, hImg⟩
                case round =>
                  obtain ⟨k, hk, rfl, hbw, hszr, hIm⟩ := hrel
                  by_cases hlt : k < nH
                  · have hix := HHy.out.index q4 hlt
                    have e0 := keep_all hbw (HHy.out.c0 k hlt)
                    have e1 := keep_all hbw (HHy.out.c1 k hlt)
                    have e2 := keep_all hbw (HHy.out.c2 k hlt)
                    have e3 := keep_all hbw (HHy.out.c3 k hlt)
                    have hs := hsn k hlt
                    go_wp2_with fail
                    go_region_held3 (fun w' => w'.cell? ⟨wr.heap.size, 0, none⟩ = some (.int .i64 (Hc k)) ∧ w'.cell? ⟨wr.heap.size, 1, none⟩ = some (.int .u64 (Hs k)) ∧ w'.cell? ⟨wr.heap.size, 2, none⟩ = some (.bool (Hv k).1) ∧ w'.cell? ⟨wr.heap.size, 3, none⟩ = some (.int .i64 (Hv k).2))
                      (first
                        | exact ⟨by simp [go_sem], by simp [go_sem], by simp [go_sem], by simp [go_sem]⟩
                        | exact ⟨y0, y1, y2, y3⟩
                        | exact ⟨z0, z1, z2, z3⟩)
                      (first
                        | (go_at_call 25
                           refine (tv_any _ _ _).mono ?_
                           rintro e w1 ⟨rfl, hb1⟩
                           have zsz := hb1.size
                           have y0 : w1.cell? ⟨wr.heap.size, 0, none⟩ = some (.int .i64 (Hc k)) := by rw [hb1.cell (by simp)]; simp [go_sem]
                           have y1 : w1.cell? ⟨wr.heap.size, 1, none⟩ = some (.int .u64 (Hs k)) := by rw [hb1.cell (by simp)]; simp [go_sem]
                           have y2 : w1.cell? ⟨wr.heap.size, 2, none⟩ = some (.bool (Hv k).1) := by rw [hb1.cell (by simp)]; simp [go_sem]
                           have y3 : w1.cell? ⟨wr.heap.size, 3, none⟩ = some (.int .i64 (Hv k).2) := by rw [hb1.cell (by simp)]; simp [go_sem]
                           have yb : Hid (w1.heap[wr.heap.size]? = some (.cells #[.int .i64 (Hc k), .int .u64 (Hs k), .bool (Hv k).1, .int .i64 (Hv k).2] 59 (0, 0))) := (hb1.block wr.heap.size (by simp)).trans (heap_alloc_new wr _)
                           have hbw1 : Below wr.heap.size wr w1 := (((Below.refl _ _).alloc (Nat.le_refl _) (.cells #[.int .i64 (Hc k), .int .u64 (Hs k), .bool (Hv k).1, .int .i64 (Hv k).2] 59)).drew).trans (hb1.mono (by simp)))
                        | (go_at_call 30
                           refine (addChange_any (hIm.grown hbw1) (by omega) _ _ _ _ hs).mono ?_
                           rintro e w2 ⟨rfl, hIm2, hb2, hfr2⟩
                           have hf2 := hfr2 wr.heap.size _ _ _ yb.out (by decide)
                           have z0 : w2.cell? ⟨wr.heap.size, 0, none⟩ = some (.int .i64 (Hc k)) := by rw [World.cell?_of_block (w := w1) (a := ⟨wr.heap.size, 0, none⟩) hf2]; exact y0
                           have z1 : w2.cell? ⟨wr.heap.size, 1, none⟩ = some (.int .u64 (Hs k)) := by rw [World.cell?_of_block (w := w1) (a := ⟨wr.heap.size, 1, none⟩) hf2]; exact y1
                           have z2 : w2.cell? ⟨wr.heap.size, 2, none⟩ = some (.bool (Hv k).1) := by rw [World.cell?_of_block (w := w1) (a := ⟨wr.heap.size, 2, none⟩) hf2]; exact y2
                           have z3 : w2.cell? ⟨wr.heap.size, 3, none⟩ = some (.int .i64 (Hv k).2) := by rw [World.cell?_of_block (w := w1) (a := ⟨wr.heap.size, 3, none⟩) hf2]; exact y3))
                    have r1 : Below w.heap.size w w2 := (hbw.trans (hbw1.mono hbw.size)).trans (hb2.mono (by have := hbD.size; omega))
                    have r2 : wD.heap.size + 3 < w2.heap.size := by have := hb2.size; have := hbw1.size; omega
                    have r3 := hIm2
                    clear hIm2 hb2 hfr2 hf2 z0 z1 z2 z3 y0 y1 y2 y3 yb hbw1 hb1 zsz e0 e1 e2 e3 hIm hbw hix hszr hs
                    go_wp2
                    go_roundw
                    case rel => first | exact ⟨k + 1, by omega, by go_num, r1, r2, r3⟩ | ((repeat apply Exists.intro); exact ⟨⟨k + 1, by omega, by go_num, r1, r2, r3⟩, rfl⟩)
                    case measure => simp [intOf]; omega
                  · have hk' : nH = k := by omega
                    subst hk'
                    go_wp2
                    go_ret
                    exact ⟨_, rfl, hIm.img hnH, hbw⟩
end Go.Proofs.Qxb6616500a
