/-
  The state writer in memory: its box, its bytes, its queue, its map; and what each write leaves.
-/
import Derived.Test.Qxb6616500aSUv
import Derived.Laws.OwnMore
namespace Go.Proofs.Qxb6616500a
open Go.RowKit
set_option linter.unusedVariables false
/-- Block b is a block of cells of type t, none frozen. -/
def Tag (w : World) (b : Nat) (t : TypeId) : Prop := ∃ c, w.heap[b]? = some (.cells c t (0, 0))
theorem Tag.frozen {w : World} {b : Nat} {t : TypeId} (h : Tag w b t) (o : Nat) : w.frozen? ⟨b, o, none⟩ = false := by
  obtain ⟨c, hc⟩ := h
  exact frozen_of_row w b o c t hc
theorem Tag.of_block {w w' : World} {b : Nat} {t : TypeId} (h : Tag w b t) (hb : w'.heap[b]? = w.heap[b]?) : Tag w' b t := by
  obtain ⟨c, hc⟩ := h
  exact ⟨c, hb.trans hc⟩
theorem Tag.set {w : World} {b : Nat} {t : TypeId} (h : Tag w b t) (o : Nat) (v : Value) : Tag (w.setCell ⟨b, o, none⟩ v) b t := by
  obtain ⟨c, hc⟩ := h
  exact ⟨_, heap_setCell_same w b o c t v hc⟩
theorem Tag.lt {w : World} {b : Nat} {t : TypeId} (h : Tag w b t) : b < w.heap.size := by
  obtain ⟨c, hc⟩ := h
  exact (Array.getElem?_eq_some_iff.1 hc).1
theorem own_tag {w : World} {base : Nat} {e : TypeId} {v : Value} {n g : Nat} {xs : List Value} (h : w.ownsRow base e 1 v n xs) (hg : v.ownBlock = some g) : Tag w g e := by
  rcases h.2 with ⟨hv, _⟩ | ⟨g', cap, cur, hv, _, hc, _⟩
  · rw [hv] at hg; cases hg
  · rw [hv] at hg
    simp only [Value.ownBlock, Option.some.injEq] at hg
    subst hg
    exact ⟨cur, hc⟩
theorem own_ne {w : World} {base : Nat} {e t : TypeId} {v : Value} {n b : Nat} {xs : List Value} (h : w.ownsRow base e 1 v n xs) (hb : Tag w b t) (hne : e ≠ t) : some b ≠ v.ownBlock := fun hg => by
  obtain ⟨c, hc⟩ := own_tag h hg.symm
  obtain ⟨c', hc'⟩ := hb
  rw [hc] at hc'
  cases hc'
  exact hne rfl
theorem own_ne_own {w : World} {base : Nat} {e e' : TypeId} {v v' : Value} {n n' : Nat} {xs xs' : List Value} (h : w.ownsRow base e 1 v n xs) (h' : w.ownsRow base e' 1 v' n' xs') (hne : e' ≠ e) : v.ownBlock = none ∨ v.ownBlock ≠ v'.ownBlock := by
  cases hv : v.ownBlock with
  | none => exact Or.inl rfl
  | some g => exact Or.inr (own_ne h' (own_tag h hv) hne)
theorem own_ne_map {α : Type} {w : World} {base : Nat} {e : TypeId} {v : Value} {n mb N : Nat} {xs : List Value} {emb : α → Value} {f : α → Option Value} (h : w.ownsRow base e 1 v n xs) (hm : Mp w mb emb f N) : some mb ≠ v.ownBlock := fun hg => by
  obtain ⟨c, hc⟩ := own_tag h hg.symm
  obtain ⟨es, clock, hb, _⟩ := hm
  rw [hc] at hb
  cases hb
theorem tag_ne_map {α : Type} {w : World} {b t mb N : Nat} {emb : α → Value} {f : α → Option Value} (h : Tag w b t) (hm : Mp w mb emb f N) : b ≠ mb := fun e => by
  subst e
  obtain ⟨c, hc⟩ := h
  obtain ⟨es, clock, hb, _⟩ := hm
  rw [hc] at hb
  cases hb
theorem own_set {w : World} {base : Nat} {e : TypeId} {v : Value} {n b : Nat} {xs : List Value} (h : w.ownsRow base e 1 v n xs) (hb : some b ≠ v.ownBlock) (o : Nat) (u : Value) : (w.setCell ⟨b, o, none⟩ u).ownsRow base e 1 v n xs :=
  h.kept (w' := w.setCell ⟨b, o, none⟩ u) (row := some b) ⟨rfl, rfl, rfl, by simp, fun i _ hi => heap_setCell_other w _ i u (fun e => hi (by rw [e]))⟩ (Or.inr (fun e => hb e.symm))

/-- The writer: its box at b, its map at mb; the bytes, the queue, the count of reads, the map. -/
structure WS {α : Type} (w : World) (base b mb : Nat) (bv qv : Value) (bs : List Int) (qs : List Value) (rd : Int) (emb : α → Value) (f : α → Option Value) (N : Nat) : Prop where
  tag : Tag w b 64
  lob : base ≤ b
  lom : base ≤ mb
  lo : base ≤ w.heap.size
  c0 : w.cell? ⟨b, 0, none⟩ = some bv
  c1 : w.cell? ⟨b, 1, none⟩ = some (.map (some mb))
  c3 : w.cell? ⟨b, 3, none⟩ = some qv
  c4 : w.cell? ⟨b, 4, none⟩ = some (.int .i64 rd)
  ob : w.ownsRow base 5 1 bv bs.length (bV bs)
  oq : w.ownsRow base 38 1 qv qs.length qs
  mp : Mp w mb emb f N
section
variable {α : Type} {w w' : World} {base b mb : Nat} {bv qv : Value} {bs : List Int} {qs : List Value} {rd : Int} {emb : α → Value} {f : α → Option Value} {N : Nat}
theorem WS.lt (h : WS w base b mb bv qv bs qs rd emb f N) : b < w.heap.size := h.tag.lt
/-- More blocks, none of those there turned. -/
theorem WS.grown (h : WS w base b mb bv qv bs qs rd emb f N) (hb : Below w.heap.size w w') : WS w' base b mb bv qv bs qs rd emb f N := by
  have hg : w.grownBy w' none := ⟨hb.os, hb.tape, hb.output, hb.size, fun i hi _ => hb.block i hi⟩
  have k : ∀ {v : Value}, v.ownBlock = none ∨ v.ownBlock ≠ (none : Option Nat) := fun {v} => by cases v.ownBlock <;> simp
  exact ⟨h.tag.of_block (hb.block _ h.lt), h.lob, h.lom, Nat.le_trans h.lo hb.size, keep_all hb h.c0, keep_all hb h.c1, keep_all hb h.c3, keep_all hb h.c4, h.ob.kept hg k, h.oq.kept hg k, h.mp.grown hb⟩
theorem WS.drew (h : WS w base b mb bv qv bs qs rd emb f N) : WS w.drew base b mb bv qv bs qs rd emb f N := ⟨h.tag, h.lob, h.lom, h.lo, h.c0, h.c1, h.c3, h.c4, h.ob, h.oq, h.mp⟩
theorem WS.set4 (h : WS w base b mb bv qv bs qs rd emb f N) (r : Int) : WS (w.setCell ⟨b, 4, none⟩ (.int .i64 r)) base b mb bv qv bs qs r emb f N := by
  refine ⟨h.tag.set _ _, h.lob, h.lom, by simpa using h.lo, ?_, ?_, ?_, World.cell?_setCell_same w _ _ h.c4, own_set h.ob (own_ne h.ob h.tag (by decide)) _ _, own_set h.oq (own_ne h.oq h.tag (by decide)) _ _, h.mp.setCell (tag_ne_map h.tag h.mp) _⟩
  · rw [World.cell?_setCell_other w _ _ _ (addr_ne (by decide))]; exact h.c0
  · rw [World.cell?_setCell_other w _ _ _ (addr_ne (by decide))]; exact h.c1
  · rw [World.cell?_setCell_other w _ _ _ (addr_ne (by decide))]; exact h.c3
/-- The bytes grow, and the new slice is laid into the box. -/
theorem WS.bytes (h : WS w base b mb bv qv bs qs rd emb f N) {v : Value} {bs' : List Int} (hA : App w w' base 5 bv v bs'.length (bV bs')) : WS (w'.setCell ⟨b, 0, none⟩ v) base b mb v qv bs' qs rd emb f N := by
  have nb : some b ≠ bv.ownBlock := own_ne h.ob h.tag (by decide)
  have tag' : Tag w' b 64 := h.tag.of_block (hA.grown.block b h.lt nb)
  have mp' : Mp w' mb emb f N := h.mp.of_block (hA.grown.block mb h.mp.lt (own_ne_map h.ob h.mp))
  have oq' := h.oq.kept hA.grown (own_ne_own h.oq h.ob (by decide))
  refine ⟨tag'.set _ _, h.lob, h.lom, by have := hA.grown.size; have := h.lo; simp; omega, World.cell?_setCell_same w' _ _ (hA.grown.cell h.c0 nb), ?_, ?_, ?_, own_set hA.own (own_ne hA.own tag' (by decide)) _ _, own_set oq' (own_ne oq' tag' (by decide)) _ _, mp'.setCell (tag_ne_map tag' mp') _⟩
  · rw [World.cell?_setCell_other w' _ _ _ (addr_ne (by decide))]; exact hA.grown.cell h.c1 nb
  · rw [World.cell?_setCell_other w' _ _ _ (addr_ne (by decide))]; exact hA.grown.cell h.c3 nb
  · rw [World.cell?_setCell_other w' _ _ _ (addr_ne (by decide))]; exact hA.grown.cell h.c4 nb
theorem WS.queue (h : WS w base b mb bv qv bs qs rd emb f N) {v : Value} {qs' : List Value} (hA : App w w' base 38 qv v qs'.length qs') : WS (w'.setCell ⟨b, 3, none⟩ v) base b mb bv v bs qs' rd emb f N := by
  have nb : some b ≠ qv.ownBlock := own_ne h.oq h.tag (by decide)
  have tag' : Tag w' b 64 := h.tag.of_block (hA.grown.block b h.lt nb)
  have mp' : Mp w' mb emb f N := h.mp.of_block (hA.grown.block mb h.mp.lt (own_ne_map h.oq h.mp))
  have ob' := h.ob.kept hA.grown (own_ne_own h.ob h.oq (by decide))
  refine ⟨tag'.set _ _, h.lob, h.lom, by have := hA.grown.size; have := h.lo; simp; omega, ?_, ?_, World.cell?_setCell_same w' _ _ (hA.grown.cell h.c3 nb), ?_, own_set ob' (own_ne ob' tag' (by decide)) _ _, own_set hA.own (own_ne hA.own tag' (by decide)) _ _, mp'.setCell (tag_ne_map tag' mp') _⟩
  · rw [World.cell?_setCell_other w' _ _ _ (addr_ne (by decide))]; exact hA.grown.cell h.c0 nb
  · rw [World.cell?_setCell_other w' _ _ _ (addr_ne (by decide))]; exact hA.grown.cell h.c1 nb
  · rw [World.cell?_setCell_other w' _ _ _ (addr_ne (by decide))]; exact hA.grown.cell h.c4 nb
theorem WS.map {f' : α → Option Value} {N' : Nat} (h : WS w base b mb bv qv bs qs rd emb f N) (hm : Mp w' mb emb f' N') (hg : w.grownBy w' (some mb)) : WS w' base b mb bv qv bs qs rd emb f' N' := by
  have nb : some b ≠ some mb := fun e => tag_ne_map h.tag h.mp (by injection e)
  exact ⟨h.tag.of_block (hg.block b h.lt nb), h.lob, h.lom, Nat.le_trans h.lo hg.size, hg.cell h.c0 nb, hg.cell h.c1 nb, hg.cell h.c3 nb, hg.cell h.c4 nb, h.ob.kept hg (Or.inr (fun e => own_ne_map h.ob h.mp e.symm)), h.oq.kept hg (Or.inr (fun e => own_ne_map h.oq h.mp e.symm)), hm⟩
end
end Go.Proofs.Qxb6616500a
