/-
  The contracts of ZZnewImage (29) and ZZimageAddChange (30); an image while its history is built.
-/
import Derived.Test.Qxb6616500aProj
import Derived.Deep.RegionHeld3
import Derived.Deep.AppendLies
namespace Go.Proofs.Qxb6616500a
open Go.RowKit
set_option linter.unusedVariables false
/-- A slice of changes of the call's own, each of a commit up to upTo. -/
def HvA (w : World) (base : Nat) (upTo : Int) (N : Nat) (v : Value) : Prop := ∃ len xs, w.ownsRow base 93 4 v len xs ∧ 0 < len ∧ len ≤ N ∧ ∀ j, j < len → ∃ s, s ≤ upTo ∧ xs[j * 4]? = some (.int .u64 s)
/-- The history while it is built: no two keys' slices lie in one row. -/
def HistA (w : World) (bh : Nat) (upTo : Int) (N : Nat) : Prop := ∃ g n, Mp w bh (fun a : Int => Value.int .i64 a) g n ∧ (∀ c v, g c = some v → HvA w (bh + 2) upTo N v) ∧
  ∀ c c' v v', c ≠ c' → g c = some v → g c' = some v' → v.ownBlock ≠ v'.ownBlock
theorem HvA.hval {w : World} {base : Nat} {upTo : Int} {N : Nat} {v : Value} (h : HvA w base upTo N v) : Hval w upTo N v := by
  obtain ⟨len, xs, ho, h1, h2, h3⟩ := h
  obtain ⟨s, hs, hx⟩ := h3 (len - 1) (by omega)
  rcases ho.2 with ⟨_, h0⟩ | ⟨g, cap, cur, rfl, _⟩
  · omega
  · refine ⟨g, len, cap, s, rfl, h1, h2, hs, ?_⟩
    have := ho.cells (g := g) rfl _ _ hx
    rwa [Addr.add_lit, Nat.zero_add] at this
theorem HvA.mono {w : World} {base : Nat} {upTo : Int} {N N' : Nat} {v : Value} (h : HvA w base upTo N v) (hn : N ≤ N') : HvA w base upTo N' v := by
  obtain ⟨len, xs, ho, h1, h2, h3⟩ := h
  exact ⟨len, xs, ho, h1, by omega, h3⟩
theorem HvA.kept {w w' : World} {base : Nat} {upTo : Int} {N : Nat} {v : Value} {row : Option Nat} (h : HvA w base upTo N v) (hg : w.grownBy w' row) (hne : v.ownBlock ≠ row) : HvA w' base upTo N v := by
  obtain ⟨len, xs, ho, r⟩ := h
  exact ⟨len, xs, ho.kept hg (Or.inr hne), r⟩
theorem HvA.block {w : World} {base : Nat} {upTo : Int} {N : Nat} {v : Value} (h : HvA w base upTo N v) : ∃ b, v.ownBlock = some b ∧ base ≤ b ∧ b < w.heap.size := by
  obtain ⟨len, xs, ho, h1, _⟩ := h
  rcases ho.2 with ⟨_, h0⟩ | ⟨g, cap, cur, rfl, _⟩
  · omega
  · exact ⟨g, rfl, ho.lt g rfl⟩

/-- An image while its history is built: its history's map is block bh, itself block bh + 1; all else of it lies below bh. -/
def ImgH (w : World) (bh nh nd : Nat) (hc : Nat → Int) (hv dv : Nat → Int × Int) (f pf : Int → Option (Int × Int)) (upTo : Int) (N : Nat) : Prop :=
  ∃ br pm w0, Rec w0 br nh nd hc hv dv f ∧ Am w0 pm pf ∧ w0.heap.size ≤ bh ∧ Below w0.heap.size w0 w ∧ Own w (bh + 1) 5 (gX br pm bh upTo) ∧ HistA w bh upTo N
theorem HistA.hist {w : World} {bh : Nat} {upTo : Int} {N : Nat} (h : HistA w bh upTo N) (hN : N ≤ 4096) : Hist w bh upTo 4096 := by
  obtain ⟨g, n, h1, h2, _⟩ := h
  exact ⟨g, n, h1, fun c v hv => ((h2 c v hv).mono hN).hval⟩
theorem ImgH.img {w : World} {bh nh nd : Nat} {hc : Nat → Int} {hv dv : Nat → Int × Int} {f pf : Int → Option (Int × Int)} {upTo : Int} {N : Nat} (h : ImgH w bh nh nd hc hv dv f pf upTo N) (hN : N ≤ 4096) : Img w (bh + 1) nh nd hc hv dv f pf upTo := by
  obtain ⟨br, pm, w0, R, P, hle, hb, hX, hH⟩ := h
  exact ⟨br, pm, bh, hX, R.grown hb, P.grown hb, hH.hist hN⟩

set_option maxRecDepth 100000 in
set_option maxHeartbeats 1000000 in
theorem newImage_any {w : World} {bc bd bv nh nd : Nat} {hc : Nat → Int} {hv dv : Nat → Int × Int} {am pm : Option Nat} {f pf : Int → Option (Int × Int)} (upTo : Int) (cols : Cols hc nh nd) (hh : nh ≤ 8192) (hd : nd ≤ 16384)
    (hC : Own w bc nh (gI hc)) (hD : Own w bd (nd * 3) (gV dv)) (hV : Own w bv (nh * 3) (gV hv)) (A : Am w am f) (P : Am w pm pf) :
    Calls Try.prog 29 #[.slice (some ⟨bc, 0, none⟩) nh nh, .slice (some ⟨bd, 0, none⟩) nd nd, .slice (some ⟨bv, 0, none⟩) nh nh, .map am, .map pm, .int .u64 upTo] w
      fun e w' => e = .returned (.pointer (some ⟨w.heap.size + 3, 0, none⟩)) ∧ ImgH w' (w.heap.size + 2) nh nd hc hv dv f pf upTo 0 ∧ Below w.heap.size w w' ∧ w.heap.size + 3 < w'.heap.size := by
  have hmm := @run_makeMap Try.prog
  go_enter Try.func29, Try.ntmps29
  go_wp2
  go_ret
  have e1 : Below w.heap.size w ((w.alloc (Obj.cells #[.slice (some ⟨bc, 0, none⟩) nh nh, .slice (some ⟨bd, 0, none⟩) nd nd] 90)).alloc (Obj.cells #[.pointer (some ⟨w.heap.size, 0, none⟩), .slice (some ⟨bv, 0, none⟩) nh nh, .map am] 82)) :=
    ((Below.refl _ _).alloc (Nat.le_refl _) _).alloc (by simp) _
  refine ⟨rfl, ⟨w.heap.size + 1, pm, (w.alloc (Obj.cells #[.slice (some ⟨bc, 0, none⟩) nh nh, .slice (some ⟨bd, 0, none⟩) nd nd] 90)).alloc (Obj.cells #[.pointer (some ⟨w.heap.size, 0, none⟩), .slice (some ⟨bv, 0, none⟩) nh nh, .map am] 82),
    ⟨cols, hh, hd, w.heap.size, bc, bv, bd, am, ?_, ?_, ?_, ?_, ?_, hC.grown e1, hV.grown e1, hD.grown e1, A.grown e1⟩, P.grown e1, by simp, ((Below.refl _ _).alloc (Nat.le_refl _) _).alloc (by simp) _, ?_, ?_⟩,
    (e1.alloc (by simp; omega) _).alloc (by simp; omega) _, by simp⟩
  · simp [go_sem]
  · simp [go_sem]
  · simp [go_sem]
  · simp [go_sem]
  · simp [go_sem]
  · have := ownX (((w.alloc (Obj.cells #[.slice (some ⟨bc, 0, none⟩) nh nh, .slice (some ⟨bd, 0, none⟩) nd nd] 90)).alloc (Obj.cells #[.pointer (some ⟨w.heap.size, 0, none⟩), .slice (some ⟨bv, 0, none⟩) nh nh, .map am] 82)).alloc (.map #[] 0)) (w.heap.size + 1) pm (w.heap.size + 2) upTo
    simpa using this
  · refine ⟨fun _ => none, 0, ?_, (fun c v h => by cases h), (fun c c' v v' _ h => by cases h)⟩
    have := Mp.made ((w.alloc (Obj.cells #[.slice (some ⟨bc, 0, none⟩) nh nh, .slice (some ⟨bd, 0, none⟩) nd nd] 90)).alloc (Obj.cells #[.pointer (some ⟨w.heap.size, 0, none⟩), .slice (some ⟨bv, 0, none⟩) nh nh, .map am] 82)) (fun a : Int => Value.int .i64 a)
    have := this.alloc (.cells #[.pointer (some ⟨w.heap.size + 1, 0, none⟩), .map pm, .map (some (w.heap.size + 1 + 1)), .int .u64 upTo, .pointer none] 78)
    simpa using this

theorem below_grownBy {w w' : World} (hb : Below w.heap.size w w') : w.grownBy w' none := ⟨hb.os, hb.tape, hb.output, hb.size, fun k hk _ => hb.block k hk⟩
theorem ImgH.grown {w w' : World} {bh nh nd : Nat} {hc : Nat → Int} {hv dv : Nat → Int × Int} {f pf : Int → Option (Int × Int)} {upTo : Int} {N : Nat} (h : ImgH w bh nh nd hc hv dv f pf upTo N) (hb : Below w.heap.size w w') : ImgH w' bh nh nd hc hv dv f pf upTo N := by
  obtain ⟨br, pm, w0, R, P, hle, hb0, hX, g, n, h1, h2, h3⟩ := h
  refine ⟨br, pm, w0, R, P, hle, hb0.trans (hb.mono hb0.size), hX.grown hb, g, n, h1.grown hb, fun c v hv => ?_, h3⟩
  obtain ⟨b, hb1, _⟩ := (h2 c v hv).block
  exact (h2 c v hv).kept (below_grownBy hb) (by rw [hb1]; simp)
theorem info93 : (Try.prog.info? 93).map (fun i => (i.zero, i.size, i.bytes)) = some (some (.agg #[.int .u64 0, .int .u8 0, .int .i64 0, .pointer none]), 4, 32) := by kernel_rfl
/-- The look-up hangs on the map's block alone. -/
theorem HistA.look {w : World} {bh : Nat} {upTo : Int} {N : Nat} {g : Int → Option Value} {n : Nat} (h1 : Mp w bh (fun a : Int => Value.int .i64 a) g n) (h2 : ∀ c v, g c = some v → HvA w (bh + 2) upTo N v) (c : Int) :
    ∃ v len xs, w.ownsRow (bh + 2) 93 4 v len xs ∧ len ≤ N ∧ (∀ j, j < len → ∃ s, s ≤ upTo ∧ xs[j * 4]? = some (.int .u64 s)) ∧ (g c = some v ∨ (g c = none ∧ v = .slice none 0 0)) ∧
      ∀ w' : World, w'.heap[bh]? = w.heap[bh]? → (Instr.lookup 76 (.map (some bh)) (.int .i64 c) false).run Try.prog w' = .ok v w' := by
  cases hg : g c with
  | none => exact ⟨.slice none 0 0, 0, [], World.ownsRow_nil _ _ _ _, by omega, by omega, Or.inr ⟨rfl, rfl⟩, fun w' hb => (h1.of_block hb).look_none (key3 w') Try.underlying76 false (zero91 w') hg⟩
  | some v =>
    obtain ⟨len, xs, a, b, c', d⟩ := h2 c v hg
    exact ⟨v, len, xs, a, c', d, Or.inl rfl, fun w' hb => (h1.of_block hb).look_some (key3 w') Try.underlying76 false hg⟩

theorem Own.of_block {w w' : World} {b N : Nat} {g : Nat → Value} (h : Own w b N g) (hb : w'.heap[b]? = w.heap[b]?) : Own w' b N g :=
  fun o ho => ⟨by rw [World.cell?_of_block (w := w) (a := ⟨b, o, none⟩) hb]; exact (h o ho).1, by rw [World.frozen?_of_block (w := w) (a := ⟨b, o, none⟩) hb]; exact (h o ho).2⟩
theorem grown_drew {w w' : World} {row : Option Nat} (h : w.drew.grownBy w' row) : w.grownBy w' row := ⟨h.os, h.tape, h.output, h.size, h.block⟩

/-- The image behind one change more: no Go in sight. -/
theorem addChange_end {w w1 w2 w0 : World} {bh nh nd : Nat} {hc : Nat → Int} {hv dv : Nat → Int × Int} {f pf : Int → Option (Int × Int)} {upTo : Int} {N br n gg cap len n' : Nat} {pm : Option Nat} {g : Int → Option Value} {ov : Value} {xs : List Value} {c s p q : Int} {A B : Obj}
    (HR : Rec w0 br nh nd hc hv dv f ∧ Am w0 pm pf) (hle : w0.heap.size ≤ bh) (hb : Below w0.heap.size w0 w) (hX : Own w (bh + 1) 5 (gX br pm bh upTo)) (lt1 : bh + 1 < w.heap.size)
    (hV : ∀ c v, g c = some v → HvA w (bh + 2) upTo N v) (hI : ∀ c c' v v', c ≠ c' → g c = some v → g c' = some v' → v.ownBlock ≠ v'.ownBlock)
    (hO : w.ownsRow (bh + 2) 93 4 ov len xs) (hlen : len ≤ N) (hxs : ∀ j, j < len → ∃ s, s ≤ upTo ∧ xs[j * 4]? = some (.int .u64 s)) (hgc : g c = some ov ∨ (g c = none ∧ ov = .slice none 0 0)) (hs : s ≤ upTo)
    (hown1 : w1.ownsRow (bh + 2) 93 4 (.slice (some ⟨gg, 0, none⟩) (len + 1) cap) (len + 1) (xs ++ [.int .u64 s, .int .u8 p, .int .i64 q, .pointer none]))
    (hgrow : ((w.alloc A).alloc B).drew.grownBy w1 ov.ownBlock) (hat : ov.ownBlock = some gg ∨ gg = w.heap.size + 1 + 1)
    (hM2 : Mp w2 bh (fun a : Int => Value.int .i64 a) (fun x => if x = c then some (.slice (some ⟨gg, 0, none⟩) (len + 1) cap) else g x) n') (hg2 : w1.grownBy w2 (some bh)) (hM : Mp w bh (fun a : Int => Value.int .i64 a) g n) :
    ImgH w2 bh nh nd hc hv dv f pf upTo (N + 1) ∧ Below bh w w2 ∧ ∀ (k : Nat) (cs : Array Value) (t : TypeId) (fr : Nat × Nat), w.heap[k]? = some (Obj.cells cs t fr) → t ≠ 93 → w2.heap[k]? = w.heap[k]? := by
  have hw1 : w.grownBy w1 ov.ownBlock := ((World.grownBy_alloc w A _).trans (World.grownBy_alloc _ B _)).trans (grown_drew hgrow)
  have ob : ∀ b, ov.ownBlock = some b → bh + 2 ≤ b ∧ b < w.heap.size := fun b hb' => hO.lt b hb'
  have hs1 := hw1.size
  have B1 : Below bh w w1 := (Below.refl bh w).grown hw1 (by omega) (fun k e => by have := ob k e; omega)
  have B2 : Below bh w w2 := B1.grown hg2 (by omega) (fun k e => by cases e; exact Nat.le_refl _)
  have ggb := hown1.lt gg rfl
  refine ⟨⟨br, pm, w0, HR.1, HR.2, hle, hb.trans (B2.mono hle), hX.of_block ?_, _, n', hM2, ?_, ?_⟩, B2, ?_⟩
  · rw [hg2.block (bh + 1) (by omega) (by simp), hw1.block (bh + 1) lt1 (fun e => by have := ob _ e.symm; omega)]
  · intro x v hx
    by_cases e : x = c
    · rw [if_pos e] at hx
      cases hx
      refine ⟨len + 1, _, hown1.kept hg2 (Or.inr (by simp [Value.ownBlock]; omega)), by omega, by omega, fun j hj => ?_⟩
      have hl := hO.1
      by_cases hj' : j < len
      · obtain ⟨s', h1, h2⟩ := hxs j hj'
        exact ⟨s', h1, by rw [List.getElem?_append_left (by omega)]; exact h2⟩
      · have : j = len := by omega
        subst this
        exact ⟨s, hs, by rw [List.getElem?_append_right (by omega), hl, Nat.sub_self]; rfl⟩
    · rw [if_neg e] at hx
      have h0 := hV x v hx
      obtain ⟨b, hb1, hb2, hb3⟩ := h0.block
      refine ((h0.kept hw1 ?_).kept hg2 (by rw [hb1]; simp; omega)).mono (by omega)
      rcases hgc with hgc | ⟨_, rfl⟩
      · exact hI x c v ov e hx hgc
      · rw [hb1]; simp [Value.ownBlock]
  · intro x x' v v' hne h1 h2
    have key : ∀ y u, y ≠ c → g y = some u → Value.ownBlock (.slice (some ⟨gg, 0, none⟩) (len + 1) cap) ≠ u.ownBlock := by
      intro y u hy hu
      obtain ⟨b, hb1, hb2, hb3⟩ := (hV y u hu).block
      rcases hat with hat | hat
      · rcases hgc with hgc | ⟨_, rfl⟩
        · have := hI c y ov u (fun e => hy e.symm) hgc hu
          rw [hat] at this
          exact this
        · simp [Value.ownBlock] at hat
      · rw [hb1]
        simp [Value.ownBlock]
        omega
    by_cases e : x = c
    · rw [if_pos e] at h1
      cases h1
      have e' : x' ≠ c := fun h => hne (e.trans h.symm)
      rw [if_neg e'] at h2
      exact key x' v' e' h2
    · rw [if_neg e] at h1
      by_cases e' : x' = c
      · rw [if_pos e'] at h2
        cases h2
        exact (key x v e h1).symm
      · rw [if_neg e'] at h2
        exact hI x x' v v' hne h1 h2
  · intro k cs t fr hk ht
    have hkl : k < w.heap.size := (Array.getElem?_eq_some_iff.1 hk).1
    have n1 : some k ≠ ov.ownBlock := by
      intro e
      rcases hO.2 with ⟨rfl, _⟩ | ⟨g', cap', cur, rfl, _, hg', _⟩
      · simp [Value.ownBlock] at e
      · simp [Value.ownBlock] at e
        subst e
        rw [hk] at hg'
        cases hg'
        exact ht rfl
    have n2 : some k ≠ some bh := by
      intro e
      cases e
      obtain ⟨es, clock, hb', _⟩ := hM
      rw [hk] at hb'
      cases hb'
    rw [hg2.block k (by omega) n2, hw1.block k hkl n1]

set_option maxRecDepth 100000 in
set_option maxHeartbeats 4000000 in
theorem addChange_any {w : World} {bh nh nd : Nat} {hc : Nat → Int} {hv dv : Nat → Int × Int} {f pf : Int → Option (Int × Int)} {upTo : Int} {N : Nat} (I : ImgH w bh nh nd hc hv dv f pf upTo N) (hN : N < 4096) (c s p q : Int) (hs : s ≤ upTo) :
    Calls Try.prog 30 #[.pointer (some ⟨bh + 1, 0, none⟩), .int .i64 c, .int .u64 s, .agg #[.int .u8 p, .int .i64 q, .pointer none]] w
      fun e w' => e = .returned (.tuple #[]) ∧ ImgH w' bh nh nd hc hv dv f pf upTo (N + 1) ∧ Below bh w w' ∧ ∀ (k : Nat) (cs : Array Value) (t : TypeId) (fr : Nat × Nat), w.heap[k]? = some (Obj.cells cs t fr) → t ≠ 93 → w'.heap[k]? = w.heap[k]? := by
  obtain ⟨br, pm, w0, R, P, hle, hb, hX, g, n, hM, hV, hI⟩ := I
  obtain ⟨ov, len, xs, hown, hlen, hxs, hgc, hL⟩ := HistA.look hM hV c
  have x2 : w.cell? ⟨bh + 1, 2, none⟩ = some (.map (some bh)) := (hX 2 (by omega)).1
  obtain ⟨i0, hi0, hz0, hz1, hz2⟩ := info_parts info93
  have lt1 : bh + 1 < w.heap.size := World.block_lt_of_cell? w _ x2
  have ob : ∀ b, ov.ownBlock = some b → bh + 2 ≤ b ∧ b < w.heap.size := fun b hb' => hown.lt b hb'
  have HR : Hid (Rec w0 br nh nd hc hv dv f ∧ Am w0 pm pf) := ⟨R, P⟩
  have HO := hown
  have ne1 : some (bh + 1) ≠ ov.ownBlock := fun e => by have := ob _ e.symm; omega
  have ne2 : some w.heap.size ≠ ov.ownBlock := fun e => by have := ob _ e.symm; omega
  have ne3 : some bh ≠ ov.ownBlock := fun e => by have := ob _ e.symm; omega
  have hbA : ∀ A, (w.alloc A).heap[bh]? = w.heap[bh]? := fun A => Below.heap_alloc w A bh (by omega)
  have hbB : ∀ A B, ((w.alloc A).alloc B).heap[bh]? = w.heap[bh]? := fun A B => (Below.heap_alloc _ B bh (by simp; omega)).trans (hbA A)
  have lA : ∀ A, (Instr.lookup 76 (.map (some bh)) (.int .i64 c) false).run Try.prog (w.alloc A).drew = .ok ov (w.alloc A).drew := fun A => hL _ (hbA A)
  have lB : ∀ A B, (Instr.lookup 76 (.map (some bh)) (.int .i64 c) false).run Try.prog ((w.alloc A).alloc B).drew = .ok ov ((w.alloc A).alloc B).drew := fun A B => hL _ (hbB A B)
  have hnB : Hid (∀ A B, ((w.alloc A).alloc B).drew.heap[w.heap.size + 1]? = some B) := fun A B => by have := heap_alloc_new (w.alloc A) B; rwa [World.size_alloc] at this
  have cA : Hid (∀ A, (w.alloc A).cell? ⟨bh + 1, 2, none⟩ = some (.map (some bh))) := fun A => keep_all ((Below.refl _ _).alloc (Nat.le_refl _) A) x2
  have cB : Hid (∀ A B, ((w.alloc A).alloc B).cell? ⟨bh + 1, 2, none⟩ = some (.map (some bh))) := fun A B => keep_all (((Below.refl _ _).alloc (Nat.le_refl _) A).alloc (by simp) B) x2
  have KL : Hid (∀ w' : World, w'.heap[bh]? = w.heap[bh]? → (Instr.lookup 76 (.map (some bh)) (.int .i64 c) false).run Try.prog w' = .ok ov w') := hL
  have KM : Hid (Mp w bh (fun a : Int => Value.int .i64 a) g n) := hM
  have KB : Hid (∀ A B, ((w.alloc A).alloc B).heap[bh]? = w.heap[bh]?) := hbB
  clear R P hL hM hown hbA hbB
  go_enter Try.func30, Try.ntmps30
  go_wp2_with fail
  go_region_held3 (fun w' => w'.cell? ⟨bh + 1, 2, none⟩ = some (.map (some bh)) ∧ w'.cell? ⟨w.heap.size, 0, none⟩ = some (.int .u8 p) ∧ w'.cell? ⟨w.heap.size, 1, none⟩ = some (.int .i64 q) ∧ w'.cell? ⟨w.heap.size, 2, none⟩ = some (.pointer none))
    (first
      | exact ⟨cA.out _, by simp [go_sem], by simp [go_sem], by simp [go_sem]⟩
      | exact ⟨cB.out _ _, by simp [go_sem], by simp [go_sem], by simp [go_sem]⟩
      | exact ⟨y0, y1, y2, y3⟩
      | exact ⟨z0, z1, z2, z3⟩)
    ((refine step_append_lies _ (by rfl) _ _ _ (by rfl) (bh + 2) 93 i0 _ 4 32 Try.underlying91 hi0 hz0 hz1 hz2 rfl (by omega) ov len xs (by rfl) (((HO.alloc _).alloc _).drew)
        ⟨w.heap.size + 1, 0, none⟩ 1 1 [.int .u64 s, .int .u8 p, .int .i64 q, .pointer none] (by rfl) (by rfl) (World.news_of_block (cs := #[.int .u64 s, .int .u8 p, .int .i64 q, .pointer none]) (t := 93) (fr := (0, 0)) (hnB.out _ _)) (by simp [Value.oneCell'])
        (by omega) (by unfold maxLen; omega) (by omega) (by simp; omega) (w.heap.size + 1 + 1) (by simp) ?_; intro gg cap w1 hown1 hgrow hat hlt; obtain ⟨w2, hupd, hM2, hg2⟩ := Mp.store (KM.out.of_block ((hgrow.block bh (by simp; omega) ne3).trans (KB.out _ _))) (key3 w1) Try.underlying76 c (.slice (some ⟨gg, 0, none⟩) (len + 1) cap)
      have y0 : w1.cell? ⟨bh + 1, 2, none⟩ = some (.map (some bh)) := by rw [hgrow.cell_far _ (by simp; omega) ne1]; exact cB.out _ _
      have y1 : w1.cell? ⟨w.heap.size, 0, none⟩ = some (.int .u8 p) := by rw [hgrow.cell_far _ (by simp; omega) ne2]; simp [go_sem]
      have y2 : w1.cell? ⟨w.heap.size, 1, none⟩ = some (.int .i64 q) := by rw [hgrow.cell_far _ (by simp; omega) ne2]; simp [go_sem]
      have y3 : w1.cell? ⟨w.heap.size, 2, none⟩ = some (.pointer none) := by rw [hgrow.cell_far _ (by simp; omega) ne2]; simp [go_sem]
      have zsz := hgrow.size
      have z0 : w2.cell? ⟨bh + 1, 2, none⟩ = some (.map (some bh)) := by rw [hg2.cell_far _ (by simp at zsz ⊢; omega) (by simp)]; exact y0
      have z1 : w2.cell? ⟨w.heap.size, 0, none⟩ = some (.int .u8 p) := by rw [hg2.cell_far _ (by simp at zsz ⊢; omega) (by simp; omega)]; exact y1
      have z2 : w2.cell? ⟨w.heap.size, 1, none⟩ = some (.int .i64 q) := by rw [hg2.cell_far _ (by simp at zsz ⊢; omega) (by simp; omega)]; exact y2
      have z3 : w2.cell? ⟨w.heap.size, 2, none⟩ = some (.pointer none) := by rw [hg2.cell_far _ (by simp at zsz ⊢; omega) (by simp; omega)]; exact y3))
  all_goals
    go_end0
    exact ⟨rfl, addChange_end HR.out hle hb hX lt1 hV hI HO hlen hxs hgc hs hown1 hgrow hat hM2 hg2 KM.out⟩
end Go.Proofs.Qxb6616500a
