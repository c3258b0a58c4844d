/-
  The contracts of the state writer's uint (35) and row (33), and of the law's own call of it (28).
-/
import Derived.Test.Qxb6616500aSBox
import Derived.Test.Qxb6616500aSKey
namespace Go.Proofs.Qxb6616500a
open Go.RowKit
set_option linter.unusedVariables false
theorem own_slice {w : World} {base : Nat} {e : TypeId} {v : Value} {n : Nat} {xs : List Value} (h : w.ownsRow base e 1 v n xs) : ∃ ao cap, v = .slice ao n cap := by
  rcases h.2 with ⟨hv, rfl⟩ | ⟨g', cap, cur, hv, _, hc, _⟩
  · exact ⟨none, 0, hv⟩
  · exact ⟨_, cap, hv⟩
section
variable {α : Type} {w : World} {base b mb : Nat} {bv qv : Value} {bs : List Int} {qs : List Value} {rd : Int} {emb : α → Value} {f : α → Option Value} {N : Nat}
set_option maxRecDepth 100000 in
set_option maxHeartbeats 2000000 in
theorem uint35 (h : WS w base b mb bv qv bs qs rd emb f N) (hlen : bs.length ≤ 4000000) (x : Int) (hx0 : 0 ≤ x) (hx1 : x < 128 ^ 10) :
    Calls Try.prog 35 #[.pointer (some ⟨b, 0, none⟩), .int .u64 x] w fun e w' => e = .returned (.tuple #[]) ∧ Below base w w' ∧ ∃ bv', WS w' base b mb bv' qv (bs ++ uvF 9 x) qs rd emb f N := by
  have h0 := h.c0
  go_enter Try.func35, Try.ntmps35
  go_wp2_with fail
  refine (uv39 h.ob hlen h.lo x hx0 hx1).mono ?_
  rintro e w1 ⟨v, rfl, hA⟩
  have hbel := hA.below h.ob (Nat.le_refl _) h.lo
  have nb : some b ≠ bv.ownBlock := own_ne h.ob h.tag (by decide)
  have c0' := hA.grown.cell h.c0 nb
  have fr0 : w1.frozen? ⟨b, 0, none⟩ = false := (h.tag.of_block (hA.grown.block b h.lt nb)).frozen 0
  obtain ⟨ao, cap, rfl⟩ := own_slice hA.own
  go_wp2
  have h1 := h.bytes hA
  rw [List.length_append] at h1
  exact ⟨rfl, .tuple #[], by simp [results, Try.results35, go_sem], rfl, hbel.setCell h.lob _, _, h1⟩
set_option maxRecDepth 100000 in
set_option maxHeartbeats 2000000 in
theorem row_nil (h : WS w base b mb bv qv bs qs rd emb f N) (hlen : bs.length ≤ 4000000) :
    Calls Try.prog 33 #[.pointer (some ⟨b, 0, none⟩), .pointer none] w fun e w' => e = .returned (.tuple #[]) ∧ Below base w w' ∧ ∃ bv', WS w' base b mb bv' qv (bs ++ uvF 9 0) qs (wrap64 (rd + 1)) emb f N := by
  have h4 := h.c4
  have fr := h.tag.frozen 4
  go_enter Try.func33, Try.ntmps33
  go_wp2_with fail
  refine (uint35 (h.set4 (wrap64 (rd + 1))) hlen 0 (by omega) (by decide)).mono ?_
  rintro e w1 ⟨rfl, hb1, bv', h1⟩
  go_wp2
  exact ⟨rfl, .tuple #[], by simp [results, Try.results33, go_sem], rfl, ((Below.refl _ _).setCell h.lob _).trans hb1, _, h1⟩
end
section
variable {w : World} {base b mb : Nat} {bv qv : Value} {bs : List Int} {qs : List Value} {rd : Int} {pk : Nat → Int} {n : Nat} {blk : Nat → Nat} {f : {p : Nat // Met pk n p} → Option Value} {N : Nat}
/-- The rows lie below the writer. -/
structure Old (w : World) (base : Nat) (pk : Nat → Int) (n : Nat) (blk : Nat → Nat) : Prop where
  rows : Rws w pk n blk
  low : ∀ p, Met pk n p → blk p < base
theorem Old.below {w w' : World} {base : Nat} {pk : Nat → Int} {n : Nat} {blk : Nat → Nat} (h : Old w base pk n blk) (hb : Below base w w') : Old w' base pk n blk :=
  ⟨h.rows.of_blocks fun p hp => hb.block _ (h.low p hp), h.low⟩
set_option maxRecDepth 100000 in
set_option maxHeartbeats 2000000 in
theorem row_old (h : WS w base b mb bv qv bs qs rd (embP pk n blk) f N) (ho : Old w base pk n blk) (hlen : bs.length ≤ 4000000) {p : Nat} (hp : Met pk n p) {j : Nat} (hj : j ≤ 1000000) (hf : f ⟨p, hp⟩ = some (.int .i64 j)) :
    Calls Try.prog 33 #[.pointer (some ⟨b, 0, none⟩), .pointer (some ⟨blk p, 0, none⟩)] w fun e w' => e = .returned (.tuple #[]) ∧ Below base w w' ∧ ∃ bv', WS w' base b mb bv' qv (bs ++ uvF 9 j) qs (wrap64 (rd + 1)) (embP pk n blk) f N := by
  have h4 := h.c4
  have fr := h.tag.frozen 4
  have hs := h.set4 (wrap64 (rd + 1))
  have hbs : Below base w (w.setCell ⟨b, 4, none⟩ (.int .i64 (wrap64 (rd + 1)))) := (Below.refl _ _).setCell h.lob _
  have hl := hs.mp.look_some (ptr_kyd (ho.below hbs).rows) Try.underlying61 true hf
  have hl' : (Instr.lookup 61 (.map (some mb)) (.pointer (some ⟨blk p, 0, none⟩)) true).run Try.prog (w.setCell ⟨b, 4, none⟩ (.int .i64 (wrap64 (rd + 1)))) = .ok (.tuple #[.int .i64 j, .bool true]) (w.setCell ⟨b, 4, none⟩ (.int .i64 (wrap64 (rd + 1)))) := hl
  have h1' := hs.c1
  go_enter Try.func33, Try.ntmps33
  go_wp2_with fail
  refine (uint35 hs hlen j (by omega) (by omega)).mono ?_
  rintro e w1 ⟨rfl, hb1, bv', h1⟩
  go_wp2
  exact ⟨rfl, .tuple #[], by simp [results, Try.results33, go_sem], rfl, hbs.trans hb1, _, h1⟩
theorem mp_len {α : Type} {P : Program} {w : World} {t k e : TypeId} {mb N : Nat} {emb : α → Value} {f : α → Option Value} (h : Mp w mb emb f N) (ht : P.underlying t = some (.map k e)) (ty : TypeId) :
    (Builtin.len_ #[t] ty #[.map (some mb)]).run P w = .ok (.int .i64 N) w := by
  obtain ⟨es, clock, hb, rfl, _⟩ := h
  simp [Builtin.len_, run_underlying ht, MapKept.run_getObj_map hb, goInt]
theorem info38 : (Try.prog.info? 38).map (fun i => (i.zero, i.size, i.bytes)) = some (some (.pointer none), 1, 8) := by kernel_rfl
set_option maxRecDepth 100000 in
set_option maxHeartbeats 2000000 in
theorem row_new (h : WS w base b mb bv qv bs qs rd (embP pk n blk) f N) (ho : Old w base pk n blk) (hlen : bs.length ≤ 4000000) (hN : N ≤ 1000000) (hq : qs.length ≤ 1000000) {p : Nat} (hp : Met pk n p) (hf : f ⟨p, hp⟩ = none) :
    Calls Try.prog 33 #[.pointer (some ⟨b, 0, none⟩), .pointer (some ⟨blk p, 0, none⟩)] w fun e w' => e = .returned (.tuple #[]) ∧ Below base w w' ∧ ∃ bv' qv', WS w' base b mb bv' qv' (bs ++ uvF 9 ((N : Int) + 1)) (qs ++ [rP blk p]) (wrap64 (rd + 1)) (embP pk n blk) (fun x => if x = ⟨p, hp⟩ then some (.int .i64 ((N : Int) + 1)) else f x) (N + 1) := by
  have h4 := h.c4
  have fr := h.tag.frozen 4
  have hs := h.set4 (wrap64 (rd + 1))
  have hbs : Below base w (w.setCell ⟨b, 4, none⟩ (.int .i64 (wrap64 (rd + 1)))) := (Below.refl _ _).setCell h.lob _
  obtain ⟨ws, hws⟩ : ∃ x : World, x = w.setCell ⟨b, 4, none⟩ (.int .i64 (wrap64 (rd + 1))) := ⟨_, rfl⟩
  rw [← hws] at hs hbs
  have hl' : (Instr.lookup 61 (.map (some mb)) (.pointer (some ⟨blk p, 0, none⟩)) true).run Try.prog ws = .ok (.tuple #[.int .i64 0, .bool false]) ws := hs.mp.look_none (ptr_kyd (ho.below hbs).rows) Try.underlying61 true (z := .int .i64 0) (by kernel_rfl) hf
  obtain ⟨wm, hm, hmp, hmg⟩ := hs.mp.store (ptr_kyd (ho.below hbs).rows) Try.underlying61 ⟨p, hp⟩ (.int .i64 ((N : Int) + 1))
  have hm' : (Instr.mapUpdate 61 (.map (some mb)) (.pointer (some ⟨blk p, 0, none⟩)) (.int .i64 ((N : Int) + 1))).run Try.prog ws = .ok () wm := hm
  rw [hf] at hmp
  have hW := hs.map hmp hmg
  have h1' := hs.c1
  have h3' := hW.c3
  have hln := mp_len hs.mp (t := 61) Try.underlying61 3
  obtain ⟨i0, hi0, hz0, hz1, hz2⟩ := info_parts info38
  have h63 : qs.length + 1 ≤ maxLen := by unfold maxLen; omega
  have hby : (qs.length + 1) * 8 ≤ 140737488355328 := by omega
  have hlo := hW.lo
  go_enter Try.func33, Try.ntmps33
  rw [hws] at hl' hm' h1' hln
  go_wp2_with (at_builtin; refine wpList_append_lies _ rfl _ _ _ rfl base 38 i0 _ 1 8 Try.underlying25 hi0 hz0 hz1 hz2 rfl (by omega) _ _ _ rfl (hW.oq.alloc _) ⟨wm.heap.size, 0, none⟩ 1 1 [_] rfl rfl (World.news_of_block (heap_alloc_new _ _)) (by simp [Value.oneCell']) (by omega) h63 hby (by simp; omega) _ rfl ?_)
  intro g cap w3 hown hgrow hat hlt
  have hA : App wm w3 base 38 qv (.slice (some ⟨g, 0, none⟩) (qs.length + 1) cap) (qs ++ [rP blk p]).length (qs ++ [rP blk p]) := by
    rw [List.length_append]; exact App.one hown hgrow hat
  have nb : some b ≠ qv.ownBlock := own_ne hW.oq hW.tag (by decide)
  have c3' := hA.grown.cell hW.c3 nb
  have fr3 : w3.frozen? ⟨b, 3, none⟩ = false := (hW.tag.of_block (hA.grown.block b hW.lt nb)).frozen 3
  have hQ := hW.queue hA
  have bel : Below base w (w3.setCell ⟨b, 3, none⟩ (.slice (some ⟨g, 0, none⟩) (qs.length + 1) cap)) :=
    ((hbs.grown hmg hs.lo (fun k hk => by cases hk; exact h.lom)).trans (hA.below hW.oq (Nat.le_refl _) hW.lo)).setCell h.lob _
  go_wp2_with fail
  refine (uint35 hQ hlen ((N : Int) + 1) (by omega) (by omega)).mono ?_
  rintro e w4 ⟨rfl, hb4, bv', h4⟩
  go_wp2
  exact ⟨rfl, .tuple #[], by simp [results, Try.results33, go_sem], rfl, bel.trans hb4, _, _, h4⟩
end
set_option maxHeartbeats 1000000 in
theorem row28 {x y : Value} {w : World} {R : World → Prop} (h : Calls Try.prog 33 #[x, y] w fun e w' => e = .returned (.tuple #[]) ∧ R w') : Calls Try.prog 28 #[x, y] w fun e w' => e = .returned (.tuple #[]) ∧ R w' := by
  go_enter Try.func28, Try.ntmps28
  go_wp2_with fail
  refine h.mono ?_
  rintro e w1 ⟨rfl, h1⟩
  go_wp2
  exact ⟨rfl, .tuple #[], by simp [results, Try.results28, go_sem], rfl, h1⟩

/-- What the map holds behind the first k picks. -/
def fK (pk : Nat → Int) (n k : Nat) (a : {p : Nat // Met pk n p}) : Option Value := (fstOf pk (a.1 : Int) k).map (fun j => .int .i64 ((cnt pk j : Int) + 1))
/-- The count of reads behind the first k picks. -/
def rdK (rd : Int) : Nat → Int
  | 0 => rd
  | k + 1 => wrap64 (rdK rd k + 1)
/-- The writer behind the first k picks. -/
def SW (w : World) (base b mb : Nat) (pre : List Int) (pk : Nat → Int) (n : Nat) (blk : Nat → Nat) (rd : Int) (k : Nat) : Prop :=
  ∃ bv qv, WS w base b mb bv qv (outB pre pk k) (quF blk pk k) (rdK rd k) (embP pk n blk) (fK pk n k) (cnt pk k)
/-- The row that pick k hands over. -/
def rowK (blk : Nat → Nat) (p : Int) : Value := if p < 0 then .pointer none else .pointer (some ⟨blk p.toNat, 0, none⟩)
theorem step28 {w : World} {base b mb : Nat} {pre : List Int} {pk : Nat → Int} {n : Nat} {blk : Nat → Nat} {rd : Int} {k : Nat} (h : SW w base b mb pre pk n blk rd k) (ho : Old w base pk n blk) (hpre : pre.length ≤ 1000000) (hn : n ≤ 100000) (hk : k < n) :
    Calls Try.prog 28 #[.pointer (some ⟨b, 0, none⟩), rowK blk (pk k)] w fun e w' => e = .returned (.tuple #[]) ∧ Below base w w' ∧ SW w' base b mb pre pk n blk rd (k + 1) := by
  obtain ⟨bv, qv, h⟩ := h
  have hol := outB_length pre pk k
  have hcl := cnt_le pk k
  have hql := quF_length blk pk k
  by_cases hneg : pk k < 0
  · rw [rowK, if_pos hneg]
    have hf : fK pk n (k + 1) = fK pk n k := by
      funext a
      unfold fK
      rw [fst_step_other (by omega)]
    refine (row28 (row_nil h (by omega))).mono ?_
    rintro e w' ⟨rfl, hb, bv', h'⟩
    refine ⟨rfl, hb, bv', qv, ?_⟩
    rw [quF_old (neg_of hneg), cnt_old (neg_of hneg), hf]
    show WS w' base b mb bv' qv (outB pre pk k ++ uvF 9 (idOf pk k)) _ (wrap64 (rdK rd k + 1)) _ _ _
    rw [id_neg hneg]
    exact h'
  · rw [rowK, if_neg hneg]
    have hc : (((pk k).toNat : Nat) : Int) = pk k := by omega
    have hmet : Met pk n (pk k).toNat := by
      unfold Met
      rw [hc]
      exact fst_there hk
    cases hfst : fstOf pk (pk k) k with
    | some j =>
      have hf : fK pk n (k + 1) = fK pk n k := by
        funext a
        unfold fK
        by_cases e : pk k = (a.1 : Int)
        · rw [← e, hfst, fst_step_some hfst]
        · rw [fst_step_other e]
      have hid : idOf pk k = (cnt pk j : Int) + 1 := id_at (n := k + 1) (by omega) (by omega) (fst_step_some hfst)
      have hj := (fst_spec hfst).1
      have hcj := cnt_le pk j
      have hfa : fK pk n k ⟨(pk k).toNat, hmet⟩ = some (.int .i64 ((cnt pk j + 1 : Nat) : Int)) := by
        unfold fK
        show (fstOf pk (((pk k).toNat : Nat) : Int) k).map _ = _
        rw [hc, hfst]
        simp
      refine (row28 (row_old h ho (by omega) hmet (by omega) hfa)).mono ?_
      rintro e w' ⟨rfl, hb, bv', h'⟩
      refine ⟨rfl, hb, bv', qv, ?_⟩
      rw [quF_old (old_of hfst), cnt_old (old_of hfst), hf]
      show WS w' base b mb bv' qv (outB pre pk k ++ uvF 9 (idOf pk k)) _ (wrap64 (rdK rd k + 1)) _ _ _
      rw [hid]
      exact h'
    | none =>
      have hnew := new_of (show 0 ≤ pk k by omega) hfst
      have hid : idOf pk k = (cnt pk k : Int) + 1 := id_at (n := k + 1) (by omega) (by omega) (fst_step_new hfst rfl)
      have hfa : fK pk n k ⟨(pk k).toNat, hmet⟩ = none := by
        unfold fK
        show (fstOf pk (((pk k).toNat : Nat) : Int) k).map _ = _
        rw [hc, hfst]
        rfl
      have hf : fK pk n (k + 1) = fun x => if x = ⟨(pk k).toNat, hmet⟩ then some (.int .i64 ((cnt pk k : Int) + 1)) else fK pk n k x := by
        funext a
        by_cases e : pk k = (a.1 : Int)
        · have ea : a = ⟨(pk k).toNat, hmet⟩ := Subtype.ext (by show a.1 = (pk k).toNat; omega)
          rw [if_pos ea]
          unfold fK
          rw [← e, fst_step_new hfst rfl]
          rfl
        · rw [if_neg (fun ea => e (by rw [ea]; exact hc.symm))]
          unfold fK
          rw [fst_step_other e]
      refine (row28 (row_new h ho (by omega) (by omega) (by omega) hmet hfa)).mono ?_
      rintro e w' ⟨rfl, hb, bv', qv', h'⟩
      refine ⟨rfl, hb, bv', qv', ?_⟩
      rw [quF_new hnew, cnt_new hnew, hf]
      show WS w' base b mb bv' qv' (outB pre pk k ++ uvF 9 (idOf pk k)) _ (wrap64 (rdK rd k + 1)) _ _ _
      rw [hid]
      exact h'
end Go.Proofs.Qxb6616500a
