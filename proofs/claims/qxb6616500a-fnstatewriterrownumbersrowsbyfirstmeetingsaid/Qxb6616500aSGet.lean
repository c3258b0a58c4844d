/-
  The contracts of the state writer's getters (15 .. 19), of the law's bound on lengths (6), of sameBytes (14).
-/
import Derived.Test.Qxb6616500aSRow
import Derived.Test.Qxb6616500aMake
import Derived.Deep.QuietTactic
import Derived.BigQuiet
namespace Go.Proofs.Qxb6616500a
open Go.RowKit
set_option linter.unusedVariables false
theorem drawnS {B : Nat} {a w : World} (h : Below B a w) (n : Nat) : Below B a (w.drewN n) := h.trans ⟨rfl, rfl, rfl, Nat.le_refl _, fun _ _ => rfl⟩
section
variable {α : Type} {w : World} {base b mb : Nat} {bv qv : Value} {bs : List Int} {qs : List Value} {rd : Int} {emb : α → Value} {f : α → Option Value} {N : Nat}
set_option maxHeartbeats 1000000 in
theorem get15 (h : WS w base b mb bv qv bs qs rd emb f N) : Calls Try.prog 15 #[.pointer (some ⟨b, 0, none⟩)] w fun e w' => e = .returned bv ∧ w' = w := by
  have h0 := h.c0
  obtain ⟨ao, cap, rfl⟩ := own_slice h.ob
  go_enter Try.func15, Try.ntmps15
  go_wp2
  go_ret
  exact ⟨rfl, rfl⟩
set_option maxHeartbeats 1000000 in
theorem get16 (h : WS w base b mb bv qv bs qs rd emb f N) : Calls Try.prog 16 #[.pointer (some ⟨b, 0, none⟩)] w fun e w' => e = .returned (.int .i64 rd) ∧ w' = w := by
  have h0 := h.c4
  go_enter Try.func16, Try.ntmps16
  go_wp2
  go_ret
  exact ⟨rfl, rfl⟩
set_option maxHeartbeats 1000000 in
theorem get17 (h : WS w base b mb bv qv bs qs rd emb f N) : Calls Try.prog 17 #[.pointer (some ⟨b, 0, none⟩)] w fun e w' => e = .returned (.int .i64 N) ∧ w' = w := by
  have h0 := h.c1
  have hl := mp_len h.mp (t := 61) Try.underlying61 3
  go_enter Try.func17, Try.ntmps17
  go_wp2
  go_ret
  exact ⟨rfl, rfl⟩
set_option maxHeartbeats 1000000 in
theorem get18 (h : WS w base b mb bv qv bs qs rd emb f N) : Calls Try.prog 18 #[.pointer (some ⟨b, 0, none⟩)] w fun e w' => e = .returned (.int .i64 qs.length) ∧ w' = w := by
  have h0 := h.c3
  obtain ⟨ao, cap, rfl⟩ := own_slice h.oq
  go_enter Try.func18, Try.ntmps18
  go_wp2
  go_ret
  exact ⟨rfl, rfl⟩
/-- Where the elements of an owned slice lie. -/
theorem own_at {w : World} {base : Nat} {e : TypeId} {ao : Option Addr} {n cap : Nat} {xs : List Value} (h : w.ownsRow base e 1 (.slice ao n cap) n xs) : ∃ g, (0 < n → ao = some ⟨g, 0, none⟩) ∧ ∀ j u, xs[j]? = some u → w.cell? ⟨g, j, none⟩ = some u := by
  by_cases hn : 0 < n
  · obtain ⟨g, cap', hv, _⟩ := h.form hn
    cases hv
    refine ⟨g, fun _ => rfl, fun j u hj => ?_⟩
    have hjl := (List.getElem?_eq_some_iff.1 hj).1
    rw [h.1] at hjl
    rw [h.cellAt j hjl]
    exact hj
  · refine ⟨0, fun h0 => absurd h0 hn, fun j u hj => ?_⟩
    have hjl := (List.getElem?_eq_some_iff.1 hj).1
    rw [h.1] at hjl
    omega
theorem size38 (W : World) : (sizeOf 38).run Try.prog W = .ok 1 W := by kernel_rfl
theorem size5 (W : World) : (sizeOf 5).run Try.prog W = .ok 1 W := by kernel_rfl
set_option maxHeartbeats 1000000 in
theorem get19 (h : WS w base b mb bv qv bs qs rd emb f N) {j : Nat} {a : Addr} (hj : qs[j]? = some (.pointer (some a))) : Calls Try.prog 19 #[.pointer (some ⟨b, 0, none⟩), .int .i64 j] w fun e w' => e = .returned (.pointer (some a)) ∧ w' = w := by
  have h0 := h.c3
  have hjl := (List.getElem?_eq_some_iff.1 hj).1
  obtain ⟨ao, cap, rfl⟩ := own_slice h.oq
  obtain ⟨g, ha, hc⟩ := own_at h.oq
  have hix := index_any (P := Try.prog) Try.underlying25 size38 (c := cap) ha hjl
  have hc' := hc j _ hj
  rw [Nat.mul_one, Nat.zero_add] at hix
  clear ha hc
  go_enter Try.func19, Try.ntmps19
  go_wp2
  go_ret
  exact ⟨rfl, rfl⟩
end
/-- A bool comes back, the world as it was. -/
def SaysC (w w' : World) (e : Ending) : Prop := ∃ b, e = .returned (.bool b) ∧ w' = w
theorem SaysC.mk {w : World} {e : Ending} (b : Bool) (h : e = .returned (.bool b)) : SaysC w w e := ⟨b, h, rfl⟩
set_option maxRecDepth 100000 in
set_option maxHeartbeats 4000000 in
theorem bytes6 (a0 a2 : Option Addr) (n0 n2 q0 q2 : Nat) (x : Int) (w : World) :
    Calls Try.prog 6 #[.slice a0 n0 q0, .int .i64 x, .slice a2 n2 q2] w fun e w' => SaysC w w' e := by
  go_enter Try.func6, Try.ntmps6
  go_wp2
  all_goals
    go_ret
    first | exact SaysC.mk true rfl | exact SaysC.mk false rfl
set_option maxRecDepth 100000 in
set_option maxHeartbeats 4000000 in
theorem same14 {w : World} {base base' : Nat} {v v' : Value} {bs : List Int} (h : w.ownsRow base 5 1 v bs.length (bV bs)) (h' : w.ownsRow base' 5 1 v' bs.length (bV bs)) (hlen : bs.length ≤ 4000000) :
    Calls Try.prog 14 #[v, v'] w fun e w' => e = .returned (.bool true) ∧ Below w.heap.size w w' := by
  obtain ⟨ao, cap, rfl⟩ := own_slice h
  obtain ⟨ao', cap', rfl⟩ := own_slice h'
  obtain ⟨g, ha, hc⟩ := own_at h
  obtain ⟨g', ha', hc'⟩ := own_at h'
  obtain ⟨n, hn⟩ : ∃ n, n = bs.length := ⟨_, rfl⟩
  have hbs : ∀ k, k < n → ∃ x, (bV bs)[k]? = some (.int .u8 x) := fun k hk => by
    refine ⟨bs[k]'(by omega), ?_⟩
    unfold bV
    rw [List.getElem?_map, List.getElem?_eq_getElem (by omega)]
    rfl
  rw [← hn] at ha ha' hlen ⊢
  clear h h' hn
  go_enter Try.func14, Try.ntmps14
  go_wp2
  go_loopw [13] (fun i wr => ∃ k : Nat, k ≤ n ∧ i = .int .i64 k ∧ Below w.heap.size w wr) (fun i _ => n - (intOf i).toNat)
  case atStart => exact ⟨0, by omega, rfl, Below.refl _ _⟩
  case round =>
    obtain ⟨k, hk, rfl, hbw⟩ := hrel
    by_cases hlt : k < n
    · obtain ⟨x, hx⟩ := hbs k hlt
      have hix := index_any (P := Try.prog) Try.underlying22 size5 (c := cap) ha hlt
      have hix' := index_any (P := Try.prog) Try.underlying22 size5 (c := cap') ha' hlt
      have hcell := keep_all hbw (hc k _ hx)
      have hcell' := keep_all hbw (hc' k _ hx)
      rw [Nat.mul_one, Nat.zero_add] at hix hix'
      clear hx
      go_wp2_with fail
      go_quiet (fail)
      go_wp2
      go_roundw
      case rel => exact ⟨k + 1, by omega, by go_num, drawnS hbw _⟩
      case measure => simp [intOf]; omega
    · go_wp2
      go_ret
      exact ⟨rfl, hbw⟩
end Go.Proofs.Qxb6616500a
