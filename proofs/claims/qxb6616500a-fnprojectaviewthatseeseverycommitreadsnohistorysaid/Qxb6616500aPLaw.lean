/-
  The law FnProjectAViewThatSeesEveryCommitReadsNoHistory (5): its walk out of the contracts, and the plain law.
-/
import Derived.Test.Qxb6616500aBuild
import Derived.Test.Qxb6616500aSeen
import Derived.Test.Qxb6616500aFits
import Derived.Test.Qxb6616500aBytes
import Derived.WalkSpells
import Derived.Laws.CopyRow
namespace Go.Proofs.Qxb6616500a
open Go.RowKit
set_option linter.unusedVariables false

/-! ### the plain law -/
theorem lastOf_map {α β : Type} (g : α → β) (c : Nat → Int) (v : Nat → α) (n : Nat) (x : Int) : lastOf c (fun j => g (v j)) n x = (lastOf c v n x).map g := by
  induction n with
  | zero => rfl
  | succ n ih =>
    show (if c n = x then some (g (v n)) else lastOf c (fun j => g (v j)) n x) = (if c n = x then some (v n) else lastOf c v n x).map g
    by_cases e : c n = x
    · rw [if_pos e, if_pos e]; rfl
    · rw [if_neg e, if_neg e, ih]
theorem getD_map {α β : Type} (g : α → β) (o : Option α) (a : α) : (o.map g).getD (g a) = g (o.getD a) := by cases o <;> rfl
/-- What project reads is toValue of what seenValues paints. -/
theorem plain (d av hv pv : Nat → Bool × Int) (ac hc pc : Nat → Int) (na nh np j : Nat) :
    getVal (lastOf pc (fun j => tvp (pv j)) np) (recVal nh hc (fun j => tvp (hv j)) (fun j => tvp (d j)) (lastOf ac (fun j => tvp (av j)) na)) j = tvp (painted d ac av na hc hv nh pc pv np j) := by
  unfold getVal recVal painted pnt
  simp only [lastOf_map, getD_map]

/-! ### the copy of the columns -/
theorem copy_cols {w W : World} {ad : Addr} {nc b o : Nat} {cc : Nat → Int} (q ty : Nat) (C : SlI w (some ad) nc b o cc) (hb : Below w.heap.size w W) :
    ∃ wZ, (Builtin.copy_ #[23, 23] ty #[.slice (some ⟨W.heap.size, 0, none⟩) nc nc, .slice (some ad) nc q]).run Try.prog (W.alloc (zI nc)) = .ok (goInt nc) wZ ∧ Own wZ W.heap.size nc (gI cc) ∧ Below W.heap.size W wZ := by
  have hl : ((List.range nc).map (fun j => Value.int .i64 (cc j))).length = nc := by simp
  have hh : (W.alloc (zI nc)).heap[W.heap.size]? = some (.cells (madeCells #[.int .i64 0] nc) 3 (0, 0)) := heap_alloc_new W _
  have hr := run_copy_row (P := Try.prog) (W.alloc (zI nc)) 23 23 ty 3 W.heap.size 0 nc nc ad nc q (madeCells #[.int .i64 0] nc) 3 ((List.range nc).map (fun j => Value.int .i64 (cc j))) Try.underlying23 (by kernel_rfl)
    hh (by rw [hl]; exact (Nat.min_self nc).symm)
    (fun j v hj => by
      have hjn : j < nc := by
        have := (List.getElem?_eq_some_iff.1 hj).1
        rwa [hl] at this
      have hv : v = .int .i64 (cc j) := by
        rw [List.getElem?_map, List.getElem?_range hjn] at hj
        exact (Option.some.inj hj).symm
      have ha := C.addr (by omega)
      injection ha with ha
      rw [ha, Addr.add_lit, hv]
      exact keep_all (hb.alloc hb.size _) (C.cell j hjn))
    (by rw [hl, size_madeCells]; omega)
    (fun v hv => by
      obtain ⟨j, _, rfl⟩ := List.mem_map.1 hv
      rfl)
  rw [hl] at hr
  refine ⟨_, hr, ?_, ?_⟩
  · intro x hx
    have hs := setRow_heap (W.alloc (zI nc)) W.heap.size (madeCells #[.int .i64 0] nc) ((madeCells #[.int .i64 0] nc).toList.take 0 ++ (List.range nc).map (fun j => Value.int .i64 (cc j)) ++ (madeCells #[.int .i64 0] nc).toList.drop (0 + nc)).toArray 3 (0, 0) hh
    constructor
    · rw [cell_of_row _ _ _ _ _ _ hs, List.getElem?_toArray, List.take_zero, List.nil_append, List.getElem?_append_left (by rw [hl]; exact hx), List.getElem?_map, List.getElem?_range hx]
      rfl
    · unfold World.frozen?
      rw [hs]
      simp
  · exact ((Below.refl _ _).alloc (Nat.le_refl _) _).trans ⟨rfl, rfl, rfl, by simp [World.setRow], fun k hk => setRow_other _ _ _ _ (by omega)⟩

set_option maxRecDepth 100000 in
set_option maxHeartbeats 8000000 in
theorem law_any {w : World} {a0 a1 a2 a3 a4 a6 : Option Addr} {nd nh na np nH nc b0 o0 b1 o1 b2 o2 b3 o3 b4 o4 b6 o6 : Nat} (q0 q1 q2 q3 q4 q6 : Nat) {d hv av pv Hv : Nat → Bool × Int} {hc ac pc Hc Hs cc : Nat → Int} (upTo : Int)
    (D : SlP w a0 nd b0 o0 d) (Hd : SlC w a1 nh b1 o1 hc hv) (Ad : SlC w a2 na b2 o2 ac av) (Pt : SlC w a3 np b3 o3 pc pv) (Hy : SlH w a4 nH b4 o4 Hc Hs Hv) (C : SlI w a6 nc b6 o6 cc) (hnil : a6 = none → nc = 0 ∧ q6 = 0) :
    Calls Try.prog 5 #[.slice a0 nd q0, .slice a1 nh q1, .slice a2 na q2, .slice a3 np q3, .slice a4 nH q4, .int .u64 upTo, .slice a6 nc q6] w
      fun e w' => e = .returned (.bool true) ∧ Below w.heap.size w w' := by
  go_enter Try.func5, Try.ntmps5
  go_wp2_with fail
  refine (bytes26 _ _ _ _ _ _ _ _ _ _ _ _ _ _ _ _ _ _ _ _).mono ?_
  rintro e w' ⟨b, rfl, rfl⟩
  cases b
  · go_wp2
    go_ret
    exact ⟨rfl, Below.refl _ _⟩
  by_cases t0 : 16384 < nd
  · go_wp2
    go_ret
    exact ⟨rfl, Below.refl _ _⟩
  by_cases t1 : 8192 < nh
  · go_wp2
    go_ret
    exact ⟨rfl, Below.refl _ _⟩
  by_cases t2 : 4096 < na
  · go_wp2
    go_ret
    exact ⟨rfl, Below.refl _ _⟩
  by_cases t3 : 4096 < np
  · go_wp2
    go_ret
    exact ⟨rfl, Below.refl _ _⟩
  by_cases t4 : 4096 < nH
  · go_wp2
    go_ret
    exact ⟨rfl, Below.refl _ _⟩
  by_cases t6 : 16384 < nc
  · go_wp2
    go_ret
    exact ⟨rfl, Below.refl _ _⟩
  go_wp2_with fail
  refine (fits_any q0 q1 q4 q6 Hd Hy C (by omega) (by omega) (by omega) (by omega)).mono ?_
  rintro e w1 ⟨b, rfl, hb1, hfit⟩
  cases b
  · go_wp2
    go_ret
    exact ⟨rfl, hb1⟩
  obtain ⟨cols, hcc⟩ := hfit rfl
  clear hfit t0 t1 t2 t3 t4 t6
  have hnq := fun W => run_neq_slice_nil_any (P := Try.prog) W 23 3 a6 nc q6 0 0 Try.underlying23
  have hmk := makeI nc (by omega)
  go_upto_if 58 with fail
  go_cut [6] (fun s6 wx => ∃ ao b o q, s6 = .slice ao nc q ∧ SlI wx ao nc b o cc ∧ Below w'.heap.size w' wx)
  case first =>
    cases a6 with
    | none =>
      obtain ⟨rfl, rfl⟩ := hnil rfl
      go_wp2
      go_meet
      case rel => exact ⟨none, 0, 0, 0, rfl, ⟨fun h => by omega, fun k hk => by omega⟩, hb1⟩
    | some ad =>
      obtain ⟨wZ, hcp, hOZ, hbZ⟩ := copy_cols q6 3 C hb1
      go_wp2
      go_meet
      case rel => exact ⟨_, w1.heap.size, 0, nc, rfl, ⟨fun _ => rfl, fun k hk => by rw [Nat.zero_add]; exact (hOZ k hk).1⟩, hb1.trans (hbZ.mono hb1.size)⟩
  case rest =>
    obtain ⟨ao, bC, oC, qC, rfl, CC, hbC⟩ := hcut
    obtain ⟨wC, rfl⟩ : ∃ x : World, x = wc := ⟨_, rfl⟩
    clear hnq hmk hb1 C hnil
    go_wp2
    go_loopw [68] (fun i wr => ∃ k : Nat, k ≤ nH ∧ i = .int .i64 k ∧ Below wC.heap.size wC wr ∧ (∀ j, j < k → Hs j ≤ upTo)) (fun i _ => nH - (intOf i).toNat)
    case atStart => exact ⟨0, by omega, rfl, Below.refl _ _, by omega⟩
    case round =>
      obtain ⟨k, hk, rfl, hbw, hr⟩ := hrel
      have HR : Hid (∀ j, j < k → Hs j ≤ upTo) := hr
      clear hr
      have hbw' : Below w'.heap.size w' wr := hbC.trans (hbw.mono hbC.size)
      by_cases hlt : k < nH
      · have hix := Hy.index q4 hlt
        have e0 := keep_all hbw' (Hy.c0 k hlt)
        have e1 := keep_all hbw' (Hy.c1 k hlt)
        have e2 := keep_all hbw' (Hy.c2 k hlt)
        have e3 := keep_all hbw' (Hy.c3 k hlt)
        by_cases h1 : upTo < Hs k
        · go_wp2
          go_ret
          exact ⟨rfl, hbw'.alloc hbw'.size _⟩
        · go_wp2
          go_roundw
          case rel =>
            have r : ∀ j, j < k + 1 → Hs j ≤ upTo := fun j hj => by
              by_cases e : j = k
              · rw [e]; omega
              · exact HR.out j (by omega)
            first | exact ⟨k + 1, by omega, by go_num, hbw.alloc hbw.size _, r⟩ | ((repeat apply Exists.intro); exact ⟨⟨k + 1, by omega, by go_num, hbw.alloc hbw.size _, r⟩, rfl⟩)
          case measure => simp [intOf]; omega
      · have hk' : nH = k := by omega
        subst hk'
        obtain ⟨wD, rfl⟩ : ∃ x : World, x = wr := ⟨_, rfl⟩
        have hbD := hbw'
        have CD : SlI wD ao nc bC oC (fun k => (((cc k).toNat : Nat) : Int)) := by
          have h0 := CC.grown hbw
          exact ⟨h0.addr, fun k hk => by have := (hcc k hk).1; rw [show (((cc k).toNat : Nat) : Int) = cc k by omega]; exact h0.cell k hk⟩
        have hccn : ∀ k, k < nc → (cc k).toNat < nd := fun k hk => by have := hcc k hk; omega
        clear hbw hbw' hlt hk CC hbC
        go_wp2_with fail
        refine (build_any q0 q1 q2 q3 q4 upTo true (D.grown hbD) (Hd.grown hbD) (Ad.grown hbD) (Pt.grown hbD) (Hy.grown hbD) (by omega) (by omega) (by omega) (by omega) (by omega) cols HR.out).mono ?_
        rintro e wE ⟨bi1, rfl, I1, hbE⟩
        go_wp2_with fail
        refine (zzproject_any I1 _ (CD.grown hbE) (by omega) hccn).mono ?_
        rintro e wF ⟨P1, rfl, O1, hbF⟩
        have hbDF : Below wD.heap.size wD wF := hbE.trans (hbF.mono hbE.size)
        have hbF' : Below w'.heap.size w' wF := hbD.trans (hbDF.mono hbD.size)
        clear I1 hbE hbF
        go_wp2_with fail
        refine (build_any q0 q1 q2 q3 q4 upTo false (D.grown hbF') (Hd.grown hbF') (Ad.grown hbF') (Pt.grown hbF') (Hy.grown hbF') (by omega) (by omega) (by omega) (by omega) (by omega) cols HR.out).mono ?_
        rintro e wG ⟨bi2, rfl, I2, hbG⟩
        go_wp2_with fail
        refine (zzproject_any I2 _ ((CD.grown hbDF).grown hbG) (by omega) hccn).mono ?_
        rintro e wI ⟨P2, rfl, O2, hbI⟩
        have hbFI : Below wF.heap.size wF wI := hbG.trans (hbI.mono hbG.size)
        have hbI' : Below w'.heap.size w' wI := hbF'.trans (hbFI.mono hbF'.size)
        have O1I := O1.grown hbFI
        have CI := (CD.grown hbDF).grown hbFI
        clear I2 hbG hbI O1 CD
        go_wp2_with fail
        refine (seen_any q0 q1 q2 q3 upTo (D.grown hbI') (Hd.grown hbI') (Ad.grown hbI') (Pt.grown hbI') (by omega) (by omega) (by omega) (by omega) cols).mono ?_
        rintro e wJ ⟨P3, rfl, O3, hbJ⟩
        have O1J := O1I.grown hbJ
        have O2J := O2.grown hbJ
        have CJ := CI.grown hbJ
        have hbJ' : Below w'.heap.size w' wJ := hbI'.trans (hbJ.mono hbI'.size)
        clear O1I O2 CI hbJ hbI' hbFI hbF' hbDF hbD D Hd Ad Pt Hy
        have E1 : Own wJ P1 (nc * 3) (gV (fun k => tvp (painted d ac av na hc hv nh pc pv np (cc k).toNat))) := by simpa only [plain] using O1J
        have E2 : Own wJ P2 (nc * 3) (gV (fun k => tvp (painted d ac av na hc hv nh pc pv np (cc k).toNat))) := by simpa only [plain] using O2J
        clear O1J O2J
        generalize painted d ac av na hc hv nh pc pv np = X at E1 E2 O3
        have hpe : ∀ W, (Op.equalIn 9999 51 (.pointer none) (.pointer none)).run Try.prog W = .ok true W := fun W => by kernel_rfl
        go_wp2
        go_loopw [115] (fun i wr => ∃ k : Nat, k ≤ nc ∧ i = .int .i64 k ∧ Below wJ.heap.size wJ wr) (fun i _ => nc - (intOf i).toNat)
        case atStart => exact ⟨0, by omega, rfl, Below.refl _ _⟩
        case round =>
          obtain ⟨k, hk, rfl, hbw⟩ := hrel
          have hbw' : Below w'.heap.size w' wr := hbJ'.trans (hbw.mono hbJ'.size)
          by_cases hlt : k < nc
          · have hix := CJ.index qC hlt
            have e0 := keep_all hbw (CJ.cell k hlt)
            have hm := hccn k hlt
            obtain ⟨m, hmm⟩ : ∃ m, m = (cc k).toNat := ⟨_, rfl⟩
            rw [← hmm] at e0 hm
            have HM : Hid (m = (cc k).toNat) := hmm
            clear hmm
            have p0 := (O3.grown hbw).p0 hm
            have p1 := (O3.grown hbw).p1 hm
            have T : ∀ W, Calls Try.prog 25 #[.agg #[.bool (X m).1, .int .i64 (X m).2]] W fun e w' => e = .returned (.agg #[.int .u8 (tvp (X m)).1, .int .i64 (tvp (X m)).2, .pointer none]) ∧ Below W.heap.size W w' := fun W => tv_any (X m).1 (X m).2 W
            have G1 := E1.grown hbw
            have G2 := E2.grown hbw
            have hmI : (m : Int) < (nd : Int) := by omega
            have hkI : (k : Int) < (nc : Int) := by omega
            go_wp2_with fail
            refine (T _).mono ?_
            rintro e w2 ⟨rfl, hb2⟩
            have H1 := G1.grown hb2
            have H2 := G2.grown hb2
            have v0 : ∀ A, (w2.alloc A).cell? ⟨P1, k * 3, none⟩ = some (.int .u8 (tvp (X m)).1) := fun A => by rw [(H1.alloc A).v0 hlt, HM.out]
            have v1 : ∀ A, (w2.alloc A).cell? ⟨P1, k * 3 + 1, none⟩ = some (.int .i64 (tvp (X m)).2) := fun A => by rw [(H1.alloc A).v1 hlt, HM.out]
            have v2 : ∀ A, (w2.alloc A).cell? ⟨P1, k * 3 + 2, none⟩ = some (.pointer none) := fun A => (H1.alloc A).v2 hlt
            have u0 : ∀ A, (w2.alloc A).cell? ⟨P2, k * 3, none⟩ = some (.int .u8 (tvp (X m)).1) := fun A => by rw [(H2.alloc A).v0 hlt, HM.out]
            have u1 : ∀ A, (w2.alloc A).cell? ⟨P2, k * 3 + 1, none⟩ = some (.int .i64 (tvp (X m)).2) := fun A => by rw [(H2.alloc A).v1 hlt, HM.out]
            have u2 : ∀ A, (w2.alloc A).cell? ⟨P2, k * 3 + 2, none⟩ = some (.pointer none) := fun A => (H2.alloc A).v2 hlt
            have hb2' : Below wJ.heap.size wJ w2 := hbw.trans (hb2.mono hbw.size)
            clear HM e0 p0 p1 T G1 G2 hix hb2 H1 H2 hbw
            generalize tvp (X m) = x at v0 v1 u0 u1 ⊢
            go_wp2_with fail
            go_quiet (fail)
            go_wp2
            go_roundw
            case rel => first | exact ⟨k + 1, by omega, by go_num, drawn (hb2'.alloc hb2'.size _) _⟩ | ((repeat apply Exists.intro); exact ⟨⟨k + 1, by omega, by go_num, drawn (hb2'.alloc hb2'.size _) _⟩, rfl⟩)
            case measure => simp [intOf]; omega
          · have hk' : nc = k := by omega
            subst hk'
            go_wp2
            go_ret
            exact ⟨rfl, hbw'⟩
end Go.Proofs.Qxb6616500a
