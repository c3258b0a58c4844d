/-
  The state writer's law: a row of bytes that grows by appends, and the two varint writers (13, 39).
-/
import Derived.Test.Qxb6616500aSPlain
import Derived.Test.Qxb6616500aRows
import Derived.Deep.AppendLies
namespace Go.Proofs.Qxb6616500a
open Go.RowKit
set_option linter.unusedVariables false
/-- Bytes as cells. -/
def bV (bs : List Int) : List Value := bs.map (Value.int .u8)
theorem bV_append (a b : List Int) : bV (a ++ b) = bV a ++ bV b := List.map_append
theorem bV_length (a : List Int) : (bV a).length = a.length := List.length_map ..
/-- A row of the call's own, grown by appends: nothing else has turned. -/
structure App (w w' : World) (base : Nat) (e : TypeId) (ov v : Value) (n : Nat) (xs : List Value) : Prop where
  own : w'.ownsRow base e 1 v n xs
  grown : w.grownBy w' ov.ownBlock
  lies : v.ownBlock = ov.ownBlock ∨ ∃ g, v.ownBlock = some g ∧ w.heap.size ≤ g
theorem App.refl {w : World} {base : Nat} {e : TypeId} {v : Value} {n : Nat} {xs : List Value} (h : w.ownsRow base e 1 v n xs) : App w w base e v v n xs := ⟨h, World.grownBy.refl _ _, Or.inl rfl⟩
theorem App.trans {w w1 w2 : World} {base : Nat} {e : TypeId} {ov v1 v2 : Value} {n1 n2 : Nat} {xs1 xs2 : List Value} (h : App w w1 base e ov v1 n1 xs1) (k : App w1 w2 base e v1 v2 n2 xs2) : App w w2 base e ov v2 n2 xs2 := by
  refine ⟨k.own, ⟨k.grown.os.trans h.grown.os, k.grown.tape.trans h.grown.tape, k.grown.output.trans h.grown.output, Nat.le_trans h.grown.size k.grown.size, fun i hi hne => ?_⟩, ?_⟩
  · have hs := h.grown.size
    rw [k.grown.block i (by omega) ?_, h.grown.block i hi hne]
    rcases h.lies with e | ⟨g, e, hg⟩
    · rw [e]; exact hne
    · rw [e]; intro h'; cases h'; omega
  · rcases k.lies with e | ⟨g, e, hg⟩
    · rcases h.lies with e' | ⟨g, e', hg⟩
      · exact Or.inl (e.trans e')
      · exact Or.inr ⟨g, e.trans e', hg⟩
    · exact Or.inr ⟨g, e, Nat.le_trans h.grown.size hg⟩
/-- One append, behind the one-cell block of what is appended. -/
theorem App.one {w w1 : World} {base : Nat} {e : TypeId} {v : Value} {n g cap : Nat} {xs news : List Value} {B : Obj} (hown : w1.ownsRow base e 1 (.slice (some ⟨g, 0, none⟩) (n + 1) cap) (n + 1) (xs ++ news))
    (hgrow : (w.alloc B).grownBy w1 v.ownBlock) (hat : v.ownBlock = some g ∨ g = w.heap.size + 1) : App w w1 base e v (.slice (some ⟨g, 0, none⟩) (n + 1) cap) (n + 1) (xs ++ news) :=
  ⟨hown, (World.grownBy_alloc w B _).trans hgrow, by
    rcases hat with h | h
    · exact Or.inl h.symm
    · exact Or.inr ⟨g, rfl, by omega⟩⟩
/-- What lies below the row's base is as it was. -/
theorem App.below {w w' : World} {base B : Nat} {e : TypeId} {ov v : Value} {n0 n : Nat} {xs0 xs : List Value} (h : App w w' base e ov v n xs) (ho : w.ownsRow base e 1 ov n0 xs0) (hB : B ≤ base) (hs : B ≤ w.heap.size) : Below B w w' :=
  (Below.refl B w).grown h.grown hs (fun k hk => by have := ho.lt k hk; omega)

theorem info5 : (Try.prog.info? 5).map (fun i => (i.zero, i.size, i.bytes)) = some (some (.int .u8 0), 1, 1) := by kernel_rfl

theorem pow_div {f : Nat} {x : Int} (h0 : 128 ≤ x) (h : x < 128 ^ (f + 1)) : ∃ f', f = f' + 1 ∧ x / 128 < 128 ^ (f' + 1) := by
  cases f with
  | zero => simp at h; omega
  | succ f' =>
    refine ⟨f', rfl, ?_⟩
    rw [Int.pow_succ] at h
    exact Int.ediv_lt_of_lt_mul (by omega) h

set_option maxRecDepth 100000 in
set_option maxHeartbeats 2000000 in
theorem uv39 {w : World} {base : Nat} {ov : Value} {bs : List Int} (ho : w.ownsRow base 5 1 ov bs.length (bV bs)) (hlen : bs.length ≤ 4000000) (hbase : base ≤ w.heap.size) (x : Int) (hx0 : 0 ≤ x) (hx1 : x < 128 ^ 10) :
    Calls Try.prog 39 #[ov, .int .u64 x] w fun e w' => ∃ v, e = .returned v ∧ App w w' base 5 ov v (bs ++ uvF 9 x).length (bV (bs ++ uvF 9 x)) := by
  obtain ⟨i0, hi0, hz0, hz1, hz2⟩ := info_parts info5
  go_enter Try.func39, Try.ntmps39
  go_wp2
  go_loopw [0, 1] (fun b y wr => ∃ (bs' : List Int) (f : Nat) (x' : Int), y = .int .u64 x' ∧ App w wr base 5 ov b bs'.length (bV bs') ∧ Hid (bs' ++ uvF f x' = bs ++ uvF 9 x) ∧ 0 ≤ x' ∧ Hid (x' < 128 ^ (f + 1)) ∧ bs'.length + f = bs.length + 9) (fun _ y _ => (intOf y).toNat)
  case atStart => exact ⟨bs, 9, x, rfl, App.refl ho, rfl, hx0, hx1, rfl⟩
  case round =>
    obtain ⟨bs', f, x', rfl, hA, hE, hp0, hp1, hl⟩ := hrel
    have hsz := hA.grown.size
    have HL : Hid (bs'.length + f = bs.length + 9) := hl
    have hl1 : bs'.length ≤ 4000009 := by omega
    clear hl
    by_cases hlt : 128 ≤ x'
    · have h63 : bs'.length + 1 ≤ maxLen := by unfold maxLen; omega
      go_wp2_with (at_builtin; refine wpList_append_lies _ rfl _ _ _ rfl base 5 i0 _ 1 1 Try.underlying22 hi0 hz0 hz1 hz2 rfl (by omega) _ _ _ rfl (hA.own.alloc _) ⟨wr.heap.size, 0, none⟩ 1 1 [_] rfl rfl (World.news_of_block (heap_alloc_new _ _)) (by simp [Value.oneCell']) (by omega) h63 (by omega) (by simp; omega) _ rfl ?_)
      intro g cap w1 hown hgrow hat hlt1
      have hA1 := hA.trans (App.one hown hgrow hat)
      go_wp2
      go_roundw
      obtain ⟨f', rfl, hp1'⟩ := pow_div hlt hp1
      refine ⟨bs' ++ [bits BinOp.or IntKind.u8 (x' % 256) 128], f', x' / 128, rfl, ?_, ?_, by omega, hp1', ?_⟩
      · rw [List.length_append, bV_append]; exact hA1
      · show _ = _
        rw [← (show bs' ++ uvF (f' + 1) x' = _ from hE), uvF_big hlt]
        simp
      · have hl : bs'.length + (f' + 1) = bs.length + 9 := HL
        rw [List.length_append]; simp; omega
      · simp [intOf]; omega
    · have h63 : bs'.length + 1 ≤ maxLen := by unfold maxLen; omega
      have hm : x' % 256 = x' := by omega
      go_wp2_with (at_builtin; refine wpList_append_lies _ rfl _ _ _ rfl base 5 i0 _ 1 1 Try.underlying22 hi0 hz0 hz1 hz2 rfl (by omega) _ _ _ rfl (hA.own.alloc _) ⟨wr.heap.size, 0, none⟩ 1 1 [_] rfl rfl (World.news_of_block (heap_alloc_new _ _)) (by simp [Value.oneCell']) (by omega) h63 (by omega) (by simp; omega) _ rfl ?_)
      intro g cap w1 hown hgrow hat hlt1
      have hA1 := hA.trans (App.one hown hgrow hat)
      go_wp2
      go_ret
      refine ⟨_, rfl, ?_⟩
      rw [← (show bs' ++ uvF f x' = _ from hE), uvF_small (by omega), List.length_append, bV_append]
      first | exact hA1 | (rw [hm] at hA1; exact hA1)
set_option maxRecDepth 100000 in
set_option maxHeartbeats 2000000 in
theorem uv13 {w : World} {base : Nat} {ov : Value} {bs : List Int} (ho : w.ownsRow base 5 1 ov bs.length (bV bs)) (hlen : bs.length ≤ 4000000) (hbase : base ≤ w.heap.size) (x : Int) (hx0 : 0 ≤ x) (hx1 : x < 128 ^ 10) :
    Calls Try.prog 13 #[ov, .int .u64 x] w fun e w' => ∃ v, e = .returned v ∧ App w w' base 5 ov v (bs ++ uvF 9 x).length (bV (bs ++ uvF 9 x)) := by
  obtain ⟨i0, hi0, hz0, hz1, hz2⟩ := info_parts info5
  go_enter Try.func13, Try.ntmps13
  go_wp2
  go_loopw [0, 1] (fun b y wr => ∃ (bs' : List Int) (f : Nat) (x' : Int), y = .int .u64 x' ∧ App w wr base 5 ov b bs'.length (bV bs') ∧ Hid (bs' ++ uvF f x' = bs ++ uvF 9 x) ∧ 0 ≤ x' ∧ Hid (x' < 128 ^ (f + 1)) ∧ bs'.length + f = bs.length + 9) (fun _ y _ => (intOf y).toNat)
  case atStart => exact ⟨bs, 9, x, rfl, App.refl ho, rfl, hx0, hx1, rfl⟩
  case round =>
    obtain ⟨bs', f, x', rfl, hA, hE, hp0, hp1, hl⟩ := hrel
    have hsz := hA.grown.size
    have HL : Hid (bs'.length + f = bs.length + 9) := hl
    have hl1 : bs'.length ≤ 4000009 := by omega
    clear hl
    by_cases hlt : 128 ≤ x'
    · have h63 : bs'.length + 1 ≤ maxLen := by unfold maxLen; omega
      go_wp2_with (at_builtin; refine wpList_append_lies _ rfl _ _ _ rfl base 5 i0 _ 1 1 Try.underlying22 hi0 hz0 hz1 hz2 rfl (by omega) _ _ _ rfl (hA.own.alloc _) ⟨wr.heap.size, 0, none⟩ 1 1 [_] rfl rfl (World.news_of_block (heap_alloc_new _ _)) (by simp [Value.oneCell']) (by omega) h63 (by omega) (by simp; omega) _ rfl ?_)
      intro g cap w1 hown hgrow hat hlt1
      have hA1 := hA.trans (App.one hown hgrow hat)
      go_wp2
      go_roundw
      obtain ⟨f', rfl, hp1'⟩ := pow_div hlt hp1
      refine ⟨bs' ++ [bits BinOp.or IntKind.u8 (x' % 256) 128], f', x' / 128, rfl, ?_, ?_, by omega, hp1', ?_⟩
      · rw [List.length_append, bV_append]; exact hA1
      · show _ = _
        rw [← (show bs' ++ uvF (f' + 1) x' = _ from hE), uvF_big hlt]
        simp
      · have hl : bs'.length + (f' + 1) = bs.length + 9 := HL
        rw [List.length_append]; simp; omega
      · simp [intOf]; omega
    · have h63 : bs'.length + 1 ≤ maxLen := by unfold maxLen; omega
      have hm : x' % 256 = x' := by omega
      go_wp2_with (at_builtin; refine wpList_append_lies _ rfl _ _ _ rfl base 5 i0 _ 1 1 Try.underlying22 hi0 hz0 hz1 hz2 rfl (by omega) _ _ _ rfl (hA.own.alloc _) ⟨wr.heap.size, 0, none⟩ 1 1 [_] rfl rfl (World.news_of_block (heap_alloc_new _ _)) (by simp [Value.oneCell']) (by omega) h63 (by omega) (by simp; omega) _ rfl ?_)
      intro g cap w1 hown hgrow hat hlt1
      have hA1 := hA.trans (App.one hown hgrow hat)
      go_wp2
      go_ret
      refine ⟨_, rfl, ?_⟩
      rw [← (show bs' ++ uvF f x' = _ from hE), uvF_small (by omega), List.length_append, bV_append]
      first | exact hA1 | (rw [hm] at hA1; exact hA1)
end Go.Proofs.Qxb6616500a
