/-
  The law of the state writer, plain: first places, counts, numbers, the bytes, the queue. No Go in sight.
-/
import Derived.Test.Qxb6616500aMem
namespace Go.Proofs.Qxb6616500a
open Go.RowKit
set_option linter.unusedVariables false
/-- The first of the first n places that hold p. -/
def fstOf (pk : Nat → Int) (p : Int) : Nat → Option Nat
  | 0 => none
  | n + 1 => match fstOf pk p n with
    | some j => some j
    | none => if pk n = p then some n else none
theorem fst_step_some {pk : Nat → Int} {p : Int} {n j : Nat} (h : fstOf pk p n = some j) : fstOf pk p (n + 1) = some j := by simp [fstOf, h]
theorem fst_step_new {pk : Nat → Int} {p : Int} {n : Nat} (h : fstOf pk p n = none) (hp : pk n = p) : fstOf pk p (n + 1) = some n := by simp [fstOf, h, hp]
theorem fst_step_other {pk : Nat → Int} {p : Int} {n : Nat} (hp : pk n ≠ p) : fstOf pk p (n + 1) = fstOf pk p n := by
  cases h : fstOf pk p n with
  | none => simp [fstOf, h, hp]
  | some j => exact fst_step_some h
theorem fst_mono {pk : Nat → Int} {p : Int} {n m j : Nat} (h : fstOf pk p n = some j) (hnm : n ≤ m) : fstOf pk p m = some j := by
  induction m with
  | zero => obtain rfl : n = 0 := by omega
            exact h
  | succ m ih =>
    by_cases e : n = m + 1
    · subst e; exact h
    · exact fst_step_some (ih (by omega))
theorem fst_spec {pk : Nat → Int} {p : Int} : ∀ {n j : Nat}, fstOf pk p n = some j → j < n ∧ pk j = p ∧ fstOf pk p j = none
  | 0, j, h => by simp [fstOf] at h
  | n + 1, j, h => by
    cases hn : fstOf pk p n with
    | some i =>
      rw [fst_step_some hn] at h
      cases h
      obtain ⟨a, b, c⟩ := fst_spec hn
      exact ⟨by omega, b, c⟩
    | none =>
      simp only [fstOf, hn] at h
      split at h
      · cases h
        exact ⟨by omega, ‹_›, hn⟩
      · cases h
theorem fst_none {pk : Nat → Int} {p : Int} {n : Nat} (h : fstOf pk p n = none) : ∀ j, j < n → pk j ≠ p := by
  induction n with
  | zero => intro j hj; omega
  | succ n ih =>
    cases hn : fstOf pk p n with
    | some i => rw [fst_step_some hn] at h; cases h
    | none =>
      intro j hj
      by_cases e : j = n
      · subst e
        intro hp
        rw [fst_step_new hn hp] at h
        cases h
      · exact ih hn j (by omega)
theorem fst_there {pk : Nat → Int} {n k : Nat} (hk : k < n) : ∃ j, fstOf pk (pk k) n = some j := by
  cases h : fstOf pk (pk k) n with
  | some j => exact ⟨j, rfl⟩
  | none => exact absurd rfl (fst_none h k hk)

/-- Place k is the first of a row. -/
def isNew (pk : Nat → Int) (k : Nat) : Bool := decide (0 ≤ pk k) && (fstOf pk (pk k) k).isNone
/-- How many rows are first met before place k. -/
def cnt (pk : Nat → Int) : Nat → Nat
  | 0 => 0
  | k + 1 => cnt pk k + (if isNew pk k then 1 else 0)
theorem cnt_le (pk : Nat → Int) (k : Nat) : cnt pk k ≤ k := by
  induction k with
  | zero => exact Nat.le_refl _
  | succ k ih => unfold cnt; split <;> omega
theorem cnt_new {pk : Nat → Int} {k : Nat} (h : isNew pk k = true) : cnt pk (k + 1) = cnt pk k + 1 := by simp [cnt, h]
theorem cnt_old {pk : Nat → Int} {k : Nat} (h : isNew pk k = false) : cnt pk (k + 1) = cnt pk k := by simp [cnt, h]
theorem cnt_mono (pk : Nat → Int) {i k : Nat} (h : i ≤ k) : cnt pk i ≤ cnt pk k := by
  induction k with
  | zero => obtain rfl : i = 0 := by omega
            exact Nat.le_refl _
  | succ k ih =>
    by_cases e : i = k + 1
    · subst e; exact Nat.le_refl _
    · have := ih (by omega)
      show cnt pk i ≤ cnt pk k + _
      split <;> omega
theorem cnt_lt {pk : Nat → Int} {i k : Nat} (h : isNew pk i = true) (hik : i < k) : cnt pk i < cnt pk k := by
  have := cnt_mono pk (show i + 1 ≤ k by omega)
  rw [cnt_new h] at this
  omega
theorem new_of {pk : Nat → Int} {k : Nat} (h0 : 0 ≤ pk k) (h : fstOf pk (pk k) k = none) : isNew pk k = true := by simp [isNew, h0, h]
theorem old_of {pk : Nat → Int} {k j : Nat} (h : fstOf pk (pk k) k = some j) : isNew pk k = false := by simp [isNew, h]
theorem neg_of {pk : Nat → Int} {k : Nat} (h : pk k < 0) : isNew pk k = false := by
  have : ¬ 0 ≤ pk k := by omega
  simp [isNew, this]

/-- The number of the row at place j. -/
def numAt (pk : Nat → Int) (o : Option Nat) : Int := match o with
  | some j => (cnt pk j : Int) + 1
  | none => 0
/-- The number that place k writes, 0 for nil. -/
def idOf (pk : Nat → Int) (k : Nat) : Int := if pk k < 0 then 0 else numAt pk (fstOf pk (pk k) (k + 1))
theorem id_neg {pk : Nat → Int} {k : Nat} (h : pk k < 0) : idOf pk k = 0 := if_pos h
theorem id_at {pk : Nat → Int} {k n j : Nat} (h0 : 0 ≤ pk k) (hk : k < n) (h : fstOf pk (pk k) n = some j) : idOf pk k = (cnt pk j : Int) + 1 := by
  unfold idOf
  rw [if_neg (by omega)]
  obtain ⟨i, hi⟩ := fst_there (pk := pk) (show k < k + 1 by omega)
  have := fst_mono hi (show k + 1 ≤ n by omega)
  rw [h] at this
  cases this
  rw [hi]
  rfl
theorem id_bound (pk : Nat → Int) (k : Nat) : 0 ≤ idOf pk k ∧ idOf pk k ≤ (k : Int) + 1 := by
  unfold idOf
  split
  · omega
  · cases h : fstOf pk (pk k) (k + 1) with
    | none => simp [numAt]; omega
    | some j =>
      have := (fst_spec h).1
      have := cnt_le pk j
      simp [numAt]
      omega

/-- The bytes of a number, seven bits each. -/
def uvF : Nat → Int → List Int
  | 0, x => [x]
  | f + 1, x => if x < 128 then [x] else bits .or .u8 (x % 256) 128 :: uvF f (x / 128)
theorem uvF_length (f : Nat) (x : Int) : (uvF f x).length ≤ f + 1 := by
  induction f generalizing x with
  | zero => exact Nat.le_refl _
  | succ f ih =>
    unfold uvF
    split
    · simp
    · have := ih (x / 128)
      simp
      omega
theorem uvF_small {f : Nat} {x : Int} (h : x < 128) : uvF f x = [x] := by
  cases f with
  | zero => rfl
  | succ f => exact if_pos h
theorem uvF_big {f : Nat} {x : Int} (h : 128 ≤ x) : uvF (f + 1) x = bits .or .u8 (x % 256) 128 :: uvF f (x / 128) := if_neg (by omega)
/-- The bytes behind the first k picks. -/
def outB (pre : List Int) (pk : Nat → Int) : Nat → List Int
  | 0 => pre
  | k + 1 => outB pre pk k ++ uvF 9 (idOf pk k)
theorem outB_length (pre : List Int) (pk : Nat → Int) (k : Nat) : (outB pre pk k).length ≤ pre.length + 10 * k := by
  induction k with
  | zero => exact Nat.le_refl _
  | succ k ih =>
    have := uvF_length 9 (idOf pk k)
    simp [outB]
    omega

/-- The queue behind the first k picks. -/
def quF (blk : Nat → Nat) (pk : Nat → Int) : Nat → List Value
  | 0 => []
  | k + 1 => if isNew pk k then quF blk pk k ++ [.pointer (some ⟨blk (pk k).toNat, 0, none⟩)] else quF blk pk k
theorem quF_new {blk : Nat → Nat} {pk : Nat → Int} {k : Nat} (h : isNew pk k = true) : quF blk pk (k + 1) = quF blk pk k ++ [.pointer (some ⟨blk (pk k).toNat, 0, none⟩)] := by simp [quF, h]
theorem quF_old {blk : Nat → Nat} {pk : Nat → Int} {k : Nat} (h : isNew pk k = false) : quF blk pk (k + 1) = quF blk pk k := by simp [quF, h]
theorem quF_length (blk : Nat → Nat) (pk : Nat → Int) (k : Nat) : (quF blk pk k).length = cnt pk k := by
  induction k with
  | zero => rfl
  | succ k ih =>
    cases h : isNew pk k
    · rw [quF_old h, cnt_old h, ih]
    · rw [quF_new h, cnt_new h, List.length_append, ih]; rfl
theorem quF_at {blk : Nat → Nat} {pk : Nat → Int} {j k : Nat} (h : isNew pk j = true) (hjk : j < k) : (quF blk pk k)[cnt pk j]? = some (.pointer (some ⟨blk (pk j).toNat, 0, none⟩)) := by
  induction k with
  | zero => omega
  | succ k ih =>
    by_cases e : j = k
    · subst e
      rw [quF_new h, List.getElem?_append_right (by rw [quF_length]; exact Nat.le_refl _), quF_length, Nat.sub_self]
      rfl
    · have := ih (by omega)
      cases hk : isNew pk k
      · rw [quF_old hk]; exact this
      · rw [quF_new hk, List.getElem?_append_left (by rw [quF_length]; exact cnt_lt h (by omega))]; exact this
end Go.Proofs.Qxb6616500a
