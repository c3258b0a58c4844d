/-
  The contract of seenValues (24), with no history.
-/
import Derived.Test.Qxb6616500aSl
namespace Go.Proofs.Qxb6616500a
open Go.RowKit
set_option linter.unusedVariables false
/-- A row painted over by the first k places of a list of cells. -/
def pnt (base : Nat → Bool × Int) (c : Nat → Int) (v : Nat → Bool × Int) (k : Nat) : Nat → Bool × Int := fun j => (lastOf c v k j).getD (base j)
theorem pnt_zero (base : Nat → Bool × Int) (c : Nat → Int) (v : Nat → Bool × Int) : pnt base c v 0 = base := rfl
theorem pnt_in (base : Nat → Bool × Int) (c : Nat → Int) (v : Nat → Bool × Int) (k m : Nat) (h : c k = m) : upd (pnt base c v k) m (v k) = pnt base c v (k + 1) := by
  funext j
  show (if j = m then v k else pnt base c v k j) = (if c k = (j : Int) then some (v k) else lastOf c v k j).getD (base j)
  by_cases e : j = m
  · rw [if_pos e, if_pos (by omega)]; rfl
  · rw [if_neg e, if_neg (by omega)]; rfl
theorem pnt_out (base : Nat → Bool × Int) (c : Nat → Int) (v : Nat → Bool × Int) (k n : Nat) (h : c k < 0 ∨ (n : Int) ≤ c k) {j : Nat} (hj : j < n) : pnt base c v k j = pnt base c v (k + 1) j := by
  show (lastOf c v k j).getD (base j) = (if c k = (j : Int) then some (v k) else lastOf c v k j).getD (base j)
  rw [if_neg (by omega)]

/-- What seenValues paints, with no history. -/
def painted (d : Nat → Bool × Int) (ac : Nat → Int) (av : Nat → Bool × Int) (na : Nat) (hc : Nat → Int) (hv : Nat → Bool × Int) (nh : Nat) (pc : Nat → Int) (pv : Nat → Bool × Int) (np : Nat) : Nat → Bool × Int :=
  pnt (pnt (pnt d ac av na) hc hv nh) pc pv np

set_option maxRecDepth 100000 in
set_option maxHeartbeats 4000000 in
theorem seen_any {w : World} {a0 a1 a2 a3 : Option Addr} {nd nh na np b0 o0 b1 o1 b2 o2 b3 o3 : Nat} (q0 q1 q2 q3 : Nat) {d hv av pv : Nat → Bool × Int} {hc ac pc : Nat → Int} (upTo : Int)
    (D : SlP w a0 nd b0 o0 d) (Hd : SlC w a1 nh b1 o1 hc hv) (Ad : SlC w a2 na b2 o2 ac av) (Pt : SlC w a3 np b3 o3 pc pv)
    (hnd : nd ≤ 16384) (hnh : nh ≤ 8192) (hna : na ≤ 4096) (hnp : np ≤ 4096) (cols : Cols hc nh nd) :
    Calls Try.prog 24 #[.slice a0 nd q0, .slice a1 nh q1, .slice a2 na q2, .slice a3 np q3, .slice none 0 0, .int .u64 upTo] w
      fun e w' => ∃ B, e = .returned (.slice (some ⟨B, 0, none⟩) nd nd) ∧ Own w' B (nd * 2) (gP (painted d ac av na hc hv nh pc pv np)) ∧ Below w.heap.size w w' := by
  have hmk0 := makeP nd (by omega)
  have hmk1 := makeB nd (by omega)
  go_enter Try.func24, Try.ntmps24
  go_wp2
  go_loopw [30] (fun i wr => ∃ k : Nat, k ≤ nd ∧ i = .int .i64 k ∧ Below w.heap.size w wr ∧ w.heap.size < wr.heap.size ∧ Own wr w.heap.size (nd * 2) (gP (upto k d (false, 0)))) (fun i _ => nd - (intOf i).toNat)
  case atStart =>
    refine ⟨0, by omega, rfl, (Below.refl _ _).alloc (Nat.le_refl _) _, by simp, ?_⟩
    rw [upto_zero]
    exact ownP w nd
  case round =>
    obtain ⟨k, hk, rfl, hbw, hsz, hV⟩ := hrel
    by_cases hlt : k < nd
    · have hix := D.index q0 hlt
      have e0 := keep_all hbw (D.c0 k hlt)
      have e1 := keep_all hbw (D.c1 k hlt)
      have c0 := hV.p0 hlt
      have c1 := hV.p1 hlt
      have f0 := (hV (k * 2) (by omega)).2
      have f1 := (hV (k * 2 + 1) (by omega)).2
      have r1 := hV.setP hlt (d k).1 (d k).2
      rw [show ((d k).1, (d k).2) = d k from rfl, upto_step] at r1
      have R1 : Hid (Own ((wr.setCell ⟨w.heap.size, k * 2, none⟩ (.bool (d k).1)).setCell ⟨w.heap.size, k * 2 + 1, none⟩ (.int .i64 (d k).2)) w.heap.size (nd * 2) (gP (upto (k + 1) d (false, 0)))) := r1
      clear r1
      go_wp2
      go_roundw
      case rel => exact ⟨k + 1, by omega, by go_num, (hbw.setCell (p := ⟨w.heap.size, k * 2, none⟩) (by simp) _).setCell (p := ⟨w.heap.size, k * 2 + 1, none⟩) (by simp) _, by simp; omega, R1.out⟩
      case measure => simp [intOf]; omega
    · have hk' : nd = k := by omega
      subst hk'
      obtain ⟨wA, rfl⟩ : ∃ x : World, x = wr := ⟨_, rfl⟩
      have hD : Own wA w.heap.size (nd * 2) (gP d) := hV.congr (fun o ho => by unfold gP; rw [upto_all _ _ (by omega)])
      clear hV hlt hk
      go_wp2
      go_loopw [43] (fun i wr => ∃ k : Nat, k ≤ na ∧ i = .int .i64 k ∧ Below w.heap.size w wr ∧ w.heap.size < wr.heap.size ∧ Own wr w.heap.size (nd * 2) (gP (pnt (d) ac av k))) (fun i _ => na - (intOf i).toNat)
      case atStart => exact ⟨0, by omega, rfl, hbw, hsz, hD⟩
      case round =>
        clear hD hbw hsz
        obtain ⟨k, hk, rfl, hbw, hsz, hV⟩ := hrel
        by_cases hlt : k < na
        · have hix := Ad.index q2 hlt
          have e0 := keep_all hbw (Ad.c0 k hlt)
          have e1 := keep_all hbw (Ad.c1 k hlt)
          have e2 := keep_all hbw (Ad.c2 k hlt)
          by_cases hin : 0 ≤ ac k ∧ ac k < nd
          · obtain ⟨h1, h2⟩ := hin
            obtain ⟨m, hm⟩ := Int.eq_ofNat_of_zero_le h1
            have hmn : m < nd := by omega
            have c0 := hV.p0 hmn
            have c1 := hV.p1 hmn
            have f0 := (hV (m * 2) (by omega)).2
            have f1 := (hV (m * 2 + 1) (by omega)).2
            have r1 := hV.setP hmn (av k).1 (av k).2
            rw [show ((av k).1, (av k).2) = av k from rfl, pnt_in (d) ac av k m hm] at r1
            have R1 : Hid (Own ((wr.setCell ⟨w.heap.size, m * 2, none⟩ (.bool (av k).1)).setCell ⟨w.heap.size, m * 2 + 1, none⟩ (.int .i64 (av k).2)) w.heap.size (nd * 2) (gP (pnt (d) ac av (k + 1)))) := r1
            rw [hm] at e0
            clear r1 h1 h2 hm
            go_wp2
            go_roundw
            case rel => exact ⟨k + 1, by omega, by go_num, ((hbw.setCell (p := ⟨w.heap.size, m * 2, none⟩) (by simp) _).setCell (p := ⟨w.heap.size, m * 2 + 1, none⟩) (by simp) _).alloc (by simp; omega) _, by simp; omega, R1.out.alloc _⟩
            case measure => simp [intOf]; omega
          · have R1 : Hid (Own wr w.heap.size (nd * 2) (gP (pnt (d) ac av (k + 1)))) := hV.congr (fun o ho => by unfold gP; rw [pnt_out (d) ac av k nd (by omega) (show o / 2 < nd by omega)])
            rcases (show ac k < 0 ∨ (nd : Int) ≤ ac k by omega) with hlo | hhi
            · clear hin
              go_wp2
              go_roundw
              case rel => exact ⟨k + 1, by omega, by go_num, hbw.alloc (by omega) _, by simp; omega, R1.out.alloc _⟩
              case measure => simp [intOf]; omega
            · clear hin
              have hge : 0 ≤ ac k := by omega
              go_wp2
              go_roundw
              case rel => exact ⟨k + 1, by omega, by go_num, hbw.alloc (by omega) _, by simp; omega, R1.out.alloc _⟩
              case measure => simp [intOf]; omega
        · have hk' : na = k := by omega
          subst hk'
          obtain ⟨wX, rfl⟩ : ∃ x : World, x = wr := ⟨_, rfl⟩
          have hD := hV
          clear hV hlt hk
          go_wp2
          go_loopw [65] (fun i wr => ∃ k : Nat, k ≤ nh ∧ i = .int .i64 k ∧ Below w.heap.size w wr ∧ w.heap.size < wr.heap.size ∧ Own wr w.heap.size (nd * 2) (gP (pnt (pnt d ac av na) hc hv k))) (fun i _ => nh - (intOf i).toNat)
          case atStart => exact ⟨0, by omega, rfl, hbw, hsz, hD⟩
          case round =>
            clear hD hbw hsz
            obtain ⟨k, hk, rfl, hbw, hsz, hV⟩ := hrel
            by_cases hlt : k < nh
            · have hix := Hd.index q1 hlt
              have e0 := keep_all hbw (Hd.c0 k hlt)
              have e1 := keep_all hbw (Hd.c1 k hlt)
              have e2 := keep_all hbw (Hd.c2 k hlt)
              obtain ⟨h1, h2⟩ := cols.1 k hlt
              obtain ⟨m, hm⟩ := Int.eq_ofNat_of_zero_le h1
              have hmn : m < nd := by omega
              have c0 := hV.p0 hmn
              have c1 := hV.p1 hmn
              have f0 := (hV (m * 2) (by omega)).2
              have f1 := (hV (m * 2 + 1) (by omega)).2
              have r1 := hV.setP hmn (hv k).1 (hv k).2
              rw [show ((hv k).1, (hv k).2) = hv k from rfl, pnt_in (pnt d ac av na) hc hv k m hm] at r1
              have R1 : Hid (Own ((wr.setCell ⟨w.heap.size, m * 2, none⟩ (.bool (hv k).1)).setCell ⟨w.heap.size, m * 2 + 1, none⟩ (.int .i64 (hv k).2)) w.heap.size (nd * 2) (gP (pnt (pnt d ac av na) hc hv (k + 1)))) := r1
              rw [hm] at e0
              clear r1 h1 h2 hm
              go_wp2
              go_roundw
              case rel => exact ⟨k + 1, by omega, by go_num, ((hbw.setCell (p := ⟨w.heap.size, m * 2, none⟩) (by simp) _).setCell (p := ⟨w.heap.size, m * 2 + 1, none⟩) (by simp) _).alloc (by simp; omega) _, by simp; omega, R1.out.alloc _⟩
              case measure => simp [intOf]; omega
            · have hk' : nh = k := by omega
              subst hk'
              obtain ⟨wX, rfl⟩ : ∃ x : World, x = wr := ⟨_, rfl⟩
              have hD := hV
              clear hV hlt hk
              go_wp2
              go_loopw [78] (fun i wr => ∃ k : Nat, k ≤ np ∧ i = .int .i64 k ∧ Below w.heap.size w wr ∧ w.heap.size < wr.heap.size ∧ Own wr w.heap.size (nd * 2) (gP (pnt (pnt (pnt d ac av na) hc hv nh) pc pv k))) (fun i _ => np - (intOf i).toNat)
              case atStart => exact ⟨0, by omega, rfl, hbw, hsz, hD⟩
              case round =>
                clear hD hbw hsz
                obtain ⟨k, hk, rfl, hbw, hsz, hV⟩ := hrel
                by_cases hlt : k < np
                · have hix := Pt.index q3 hlt
                  have e0 := keep_all hbw (Pt.c0 k hlt)
                  have e1 := keep_all hbw (Pt.c1 k hlt)
                  have e2 := keep_all hbw (Pt.c2 k hlt)
                  by_cases hin : 0 ≤ pc k ∧ pc k < nd
                  · obtain ⟨h1, h2⟩ := hin
                    obtain ⟨m, hm⟩ := Int.eq_ofNat_of_zero_le h1
                    have hmn : m < nd := by omega
                    have c0 := hV.p0 hmn
                    have c1 := hV.p1 hmn
                    have f0 := (hV (m * 2) (by omega)).2
                    have f1 := (hV (m * 2 + 1) (by omega)).2
                    have r1 := hV.setP hmn (pv k).1 (pv k).2
                    rw [show ((pv k).1, (pv k).2) = pv k from rfl, pnt_in (pnt (pnt d ac av na) hc hv nh) pc pv k m hm] at r1
                    have R1 : Hid (Own ((wr.setCell ⟨w.heap.size, m * 2, none⟩ (.bool (pv k).1)).setCell ⟨w.heap.size, m * 2 + 1, none⟩ (.int .i64 (pv k).2)) w.heap.size (nd * 2) (gP (pnt (pnt (pnt d ac av na) hc hv nh) pc pv (k + 1)))) := r1
                    rw [hm] at e0
                    clear r1 h1 h2 hm
                    go_wp2
                    go_roundw
                    case rel => exact ⟨k + 1, by omega, by go_num, ((hbw.setCell (p := ⟨w.heap.size, m * 2, none⟩) (by simp) _).setCell (p := ⟨w.heap.size, m * 2 + 1, none⟩) (by simp) _).alloc (by simp; omega) _, by simp; omega, R1.out.alloc _⟩
                    case measure => simp [intOf]; omega
                  · have R1 : Hid (Own wr w.heap.size (nd * 2) (gP (pnt (pnt (pnt d ac av na) hc hv nh) pc pv (k + 1)))) := hV.congr (fun o ho => by unfold gP; rw [pnt_out (pnt (pnt d ac av na) hc hv nh) pc pv k nd (by omega) (show o / 2 < nd by omega)])
                    rcases (show pc k < 0 ∨ (nd : Int) ≤ pc k by omega) with hlo | hhi
                    · clear hin
                      go_wp2
                      go_roundw
                      case rel => exact ⟨k + 1, by omega, by go_num, hbw.alloc (by omega) _, by simp; omega, R1.out.alloc _⟩
                      case measure => simp [intOf]; omega
                    · clear hin
                      have hge : 0 ≤ pc k := by omega
                      go_wp2
                      go_roundw
                      case rel => exact ⟨k + 1, by omega, by go_num, hbw.alloc (by omega) _, by simp; omega, R1.out.alloc _⟩
                      case measure => simp [intOf]; omega
                · have hk' : np = k := by omega
                  subst hk'
                  obtain ⟨wX, rfl⟩ : ∃ x : World, x = wr := ⟨_, rfl⟩
                  have hD := hV
                  clear hV hlt hk
                  go_wp2
                  refine wp_loop_rounds 1 ?_
                  rw [rounds_succ]
                  go_wp2
                  go_ret
                  exact ⟨w.heap.size, rfl, hD.alloc _, hbw.alloc (by omega) _⟩
end Go.Proofs.Qxb6616500a
