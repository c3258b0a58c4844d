/-
  The state writer's law: keys that are pointers to rows; the rows that are made.
-/
import Derived.Test.Qxb6616500aSPlain
import Derived.Test.Qxb6616500aRows
import Derived.LaidEqlPtr
namespace Go.Proofs.Qxb6616500a
open Go.RowKit
set_option linter.unusedVariables false
/-- Row p is among the first n picks. -/
def Met (pk : Nat → Int) (n p : Nat) : Prop := ∃ j, fstOf pk (p : Int) n = some j
/-- The rows that are made: one block each. -/
structure Rws (w : World) (pk : Nat → Int) (n : Nat) (blk : Nat → Nat) : Prop where
  row : ∀ p, Met pk n p → ∃ c, w.heap[blk p]? = some (.cells c 87 (0, 0))
  inj : ∀ p q, Met pk n p → Met pk n q → blk p = blk q → p = q
theorem Rws.of_blocks {w w' : World} {pk : Nat → Int} {n : Nat} {blk : Nat → Nat} (h : Rws w pk n blk) (hb : ∀ p, Met pk n p → w'.heap[blk p]? = w.heap[blk p]?) : Rws w' pk n blk :=
  ⟨fun p hp => by rw [hb p hp]; exact h.row p hp, h.inj⟩
theorem Rws.lt {w : World} {pk : Nat → Int} {n : Nat} {blk : Nat → Nat} (h : Rws w pk n blk) {p : Nat} (hp : Met pk n p) : blk p < w.heap.size := by
  obtain ⟨c, hc⟩ := h.row p hp
  exact (Array.getElem?_eq_some_iff.1 hc).1
theorem Rws.grown {w w' : World} {pk : Nat → Int} {n : Nat} {blk : Nat → Nat} (h : Rws w pk n blk) (hb : Below w.heap.size w w') : Rws w' pk n blk :=
  h.of_blocks fun p hp => hb.block _ (h.lt hp)
/-- A pointer to row p. -/
def rP (blk : Nat → Nat) (p : Nat) : Value := .pointer (some ⟨blk p, 0, none⟩)
theorem rP_inj {blk : Nat → Nat} {p q : Nat} (h : rP blk p = rP blk q) : blk p = blk q := by
  simpa [rP] using h
/-- The keys. -/
def embP (pk : Nat → Int) (n : Nat) (blk : Nat → Nat) (a : {p : Nat // Met pk n p}) : Value := rP blk a.1
theorem info87 : (Try.prog.info? 87).map (fun i => i.size) = some 8 := by kernel_rfl
theorem sz87 : ∃ i, Try.prog.info? 87 = some i ∧ i.size ≠ 0 := by
  have h := info87
  cases hi : Try.prog.info? 87 with
  | none => rw [hi] at h; cases h
  | some i => rw [hi] at h; simp at h; exact ⟨i, rfl, by omega⟩
theorem eqP {w : World} {pk : Nat → Int} {n : Nat} {blk : Nat → Nat} (h : Rws w pk n blk) {p q : Nat} (hp : Met pk n p) (hq : Met pk n q) :
    (Op.equal 38 (rP blk p) (rP blk q)).run Try.prog w = .ok (decide (p = q)) w := by
  obtain ⟨i, hi, hs⟩ := sz87
  have hd : ∀ d : Nat, (Op.equalIn (d + 1) 38 (rP blk p) (rP blk q)).run Try.prog w = .ok (decide (p = q)) w := fun d => by
    by_cases e : p = q
    · subst e
      rw [decide_eq_true rfl]
      simp [rP, Op.equalIn, run_underlying Try.underlying38, sizeOf, typeInfo, hi, run_sameAddr_same]
    · rw [decide_eq_false e]
      obtain ⟨c, hc⟩ := h.row p hp
      obtain ⟨c', hc'⟩ := h.row q hq
      have hne : (⟨blk p, 0, none⟩ : Addr) ≠ ⟨blk q, 0, none⟩ := fun e' => e (h.inj p q hp hq (by injection e'))
      simp [rP, Op.equalIn, run_underlying Try.underlying38, sizeOf, typeInfo, hi, hs, run_sameAddr_other w hne hc hc']
  simp only [Op.equal, Op.maxDepth]
  exact hd 9999
theorem ask_spec {w : World} {pk : Nat → Int} {n : Nat} {blk : Nat → Nat} (h : Rws w pk n blk) (a : {p : Nat // Met pk n p}) : ∀ (es : List MapEntry) (i : Nat), (∀ e ∈ es, ∃ c, e.key = embP pk n blk c) →
    ((Instr.findAsking 38 (embP pk n blk a) es i).run Try.prog w = .ok none w ∧ ∀ e ∈ es, e.key ≠ embP pk n blk a) ∨ ∃ j e, (Instr.findAsking 38 (embP pk n blk a) es i).run Try.prog w = .ok (some (i + j, e.val)) w ∧ es[j]? = some e ∧ e.key = embP pk n blk a
  | [], i, _ => Or.inl ⟨by simp [Instr.findAsking], by simp⟩
  | e :: es, i, hes => by
    obtain ⟨c, hc⟩ := hes e (by simp)
    have he : (Op.equal 38 (embP pk n blk a) e.key).run Try.prog w = .ok (decide (a.1 = c.1)) w := by rw [hc]; exact eqP h a.2 c.2
    by_cases hac : a.1 = c.1
    · refine Or.inr ⟨0, e, ?_, rfl, ?_⟩
      · simp [Instr.findAsking, he, hac, Result.andThen]
      · rw [hc]; simp [embP, hac]
    · rcases ask_spec h a es (i + 1) (fun y hy => hes y (by simp [hy])) with ⟨h1, h2⟩ | ⟨j, e0, h1, h2, h3⟩
      · refine Or.inl ⟨by simp [Instr.findAsking, he, hac, h1, Result.andThen], ?_⟩
        intro y hy
        rcases List.mem_cons.1 hy with rfl | hy
        · rw [hc]
          intro e'
          apply hac
          exact (h.inj _ _ c.2 a.2 (rP_inj e')).symm
        · exact h2 y hy
      · refine Or.inr ⟨j + 1, e0, ?_, by simpa using h2, h3⟩
        simp [Instr.findAsking, he, hac, h1, Result.andThen]
        omega
theorem ptr_kyd {w : World} {pk : Nat → Int} {n : Nat} {blk : Nat → Nat} (h : Rws w pk n blk) : Kyd Try.prog w 38 (embP pk n blk) := by
  refine ⟨fun {a b} e => ?_, fun em a => ?_, fun a es hes => ?_, fun a => ?_⟩
  · exact Subtype.ext (h.inj _ _ a.2 b.2 (rP_inj e))
  · have hd : ∀ d : Nat, (Instr.checkKey em (d + 1) 38 (embP pk n blk a)).run Try.prog w = .ok () w := fun d => by simp [Instr.checkKey, run_underlying Try.underlying38, embP, rP]
    exact hd 9999
  · cases es with
    | nil => exact Or.inl ⟨by simp [Instr.findKey, run_underlying Try.underlying38, Instr.findNow], by simp⟩
    | cons e r =>
      have hk : (Instr.findKey 38 (embP pk n blk a) (e :: r)).run Try.prog w = (Instr.findAsking 38 (embP pk n blk a) (e :: r) 0).run Try.prog w := by
        simp [Instr.findKey, run_underlying Try.underlying38, Instr.findNow, Instr.sameNow]
      rw [hk]
      rcases ask_spec h a (e :: r) 0 hes with h1 | ⟨j, e0, h1, h2, h3⟩
      · exact Or.inl h1
      · exact Or.inr ⟨j, e0, by simpa using h1, h2, h3⟩
  · have hd : ∀ d : Nat, Instr.sameBits (d + 1) (embP pk n blk a) (embP pk n blk a) = true := fun d => by simp [embP, rP, Instr.sameBits]
    simp only [Instr.keyThatStays, hd 9999, if_true]
    rfl
end Go.Proofs.Qxb6616500a
