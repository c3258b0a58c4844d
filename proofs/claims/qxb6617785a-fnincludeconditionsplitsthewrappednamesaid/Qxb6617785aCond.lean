/-
  What includeCondition answers, and the plain laws of it: no Go in sight.
-/
import Derived.Lib.Strings
namespace Go.Proofs.Qxb6617785a
open Go.Lib
def PATH : List UInt8 := [105, 110, 99, 108, 117, 100, 101, 46, 112, 97, 116, 104]
def PRE : List UInt8 := [105, 110, 99, 108, 117, 100, 101, 105, 102, 46]
def SUF : List UInt8 := [46, 112, 97, 116, 104]
/-- What includeCondition answers, in the walk's own forms. -/
def cond (s : ByteArray) : ByteArray × Bool :=
  if s.toList == [105, 110, 99, 108, 117, 100, 101, 46, 112, 97, 116, 104] then (⟨#[]⟩, true)
  else if s.size < 10 then (⟨#[]⟩, false)
  else if (s.extract 0 10).toList == [105, 110, 99, 108, 117, 100, 101, 105, 102, 46] then
    (if s.size - 10 < 5 then (s.extract 10 s.size, false)
     else if ((s.extract 10 s.size).extract (s.size - 10 - 5) (s.size - 10)).toList == [46, 112, 97, 116, 104] then ((s.extract 10 s.size).extract 0 (s.size - 10 - 5), true)
     else (s.extract 10 s.size, false))
  else (⟨#[]⟩, false)

theorem ext_toList {a b : ByteArray} (h : a.toList = b.toList) : a = b := by
  rw [toList_data, toList_data] at h
  obtain ⟨⟨x⟩⟩ := a
  obtain ⟨⟨y⟩⟩ := b
  simp at h
  rw [h]
theorem append_toList (a b : ByteArray) : (a ++ b).toList = a.toList ++ b.toList := by
  simp [toList_data, ByteArray.data_append]
theorem size_toList (a : ByteArray) : a.size = a.toList.length := by rw [toList_data]; exact size_eq a
theorem ex_toList (s : ByteArray) (a b : Nat) : (s.extract a b).toList = (s.toList.drop a).take (b - a) := by
  rw [extract_toList, toList_data]

theorem cond_wrapped (n : ByteArray) : cond (⟨#[105, 110, 99, 108, 117, 100, 101, 105, 102, 46]⟩ ++ n ++ ⟨#[46, 112, 97, 116, 104]⟩) = (n, true) := by
  have hl : (⟨#[105, 110, 99, 108, 117, 100, 101, 105, 102, 46]⟩ ++ n ++ ⟨#[46, 112, 97, 116, 104]⟩ : ByteArray).toList = PRE ++ (n.toList ++ SUF) := by
    simp [toList_data, PRE, SUF]
  generalize (⟨#[105, 110, 99, 108, 117, 100, 101, 105, 102, 46]⟩ ++ n ++ ⟨#[46, 112, 97, 116, 104]⟩ : ByteArray) = s at hl
  have hz : s.size = 15 + n.size := by rw [size_toList, hl, size_toList n]; simp [PRE, SUF]; omega
  unfold cond
  rw [if_neg, if_neg (by omega), if_pos, if_neg (by omega), if_pos]
  · have : ((s.extract 10 s.size).extract 0 (s.size - 10 - 5)) = n := by
      apply ext_toList
      rw [ex_toList, ex_toList, hl, hz, size_toList]
      simp only [PRE, SUF, List.cons_append, List.nil_append, List.drop_succ_cons, List.drop_zero, Nat.sub_zero]
      rw [show 15 + n.toList.length - 10 - 5 = n.toList.length by omega, show 15 + n.toList.length - 10 = n.toList.length + 5 by omega]
      rw [List.take_take, Nat.min_eq_left (by omega), List.take_left]
    rw [this]
  · rw [ex_toList, ex_toList, hl, hz, size_toList]
    simp only [PRE, SUF, List.cons_append, List.nil_append, List.drop_succ_cons, List.drop_zero]
    rw [show 15 + n.toList.length - 10 - 5 = n.toList.length by omega, show 15 + n.toList.length - 10 = n.toList.length + 5 by omega, show n.toList.length + 5 - n.toList.length = 5 by omega]
    rw [List.take_of_length_le (l := n.toList ++ [46, 112, 97, 116, 104]) (by simp), List.drop_left]
    rfl
  · rw [ex_toList, hl]; simp [PRE]
  · rw [hl]; simp [PRE, SUF]
theorem cond_upper (n : ByteArray) : cond (⟨#[105, 110, 99, 108, 117, 100, 101, 73, 102, 46]⟩ ++ n ++ ⟨#[46, 112, 97, 116, 104]⟩) = (⟨#[]⟩, false) := by
  have hl : (⟨#[105, 110, 99, 108, 117, 100, 101, 73, 102, 46]⟩ ++ n ++ ⟨#[46, 112, 97, 116, 104]⟩ : ByteArray).toList = [105, 110, 99, 108, 117, 100, 101, 73, 102, 46] ++ (n.toList ++ SUF) := by
    simp [toList_data, SUF]
  generalize (⟨#[105, 110, 99, 108, 117, 100, 101, 73, 102, 46]⟩ ++ n ++ ⟨#[46, 112, 97, 116, 104]⟩ : ByteArray) = s at hl
  have hz : s.size = 15 + n.size := by rw [size_toList, hl, size_toList n]; simp [SUF]; omega
  unfold cond
  rw [if_neg, if_neg (by omega), if_neg]
  · rw [ex_toList, hl]; simp
  · rw [hl]; simp

/-- The name has the opening. -/
def pre (n : ByteArray) : Bool := decide (10 ≤ n.size) && ((n.extract 0 10).toList == [105, 110, 99, 108, 117, 100, 101, 105, 102, 46])
/-- .. and has a separate ending. -/
def suf (n : ByteArray) : Bool := decide (15 ≤ n.size) && ((n.extract (n.size - 5) n.size).toList == [46, 112, 97, 116, 104])
theorem cond_path : cond ⟨#[105, 110, 99, 108, 117, 100, 101, 46, 112, 97, 116, 104]⟩ = (⟨#[]⟩, true) := by
  unfold cond
  rw [if_pos (by simp [toList_data])]
theorem cond_none {n : ByteArray} (h : (n.toList == [105, 110, 99, 108, 117, 100, 101, 46, 112, 97, 116, 104]) = false) (hp : pre n = false) : cond n = (⟨#[]⟩, false) := by
  unfold cond
  rw [if_neg (by rw [h]; decide)]
  by_cases hz : n.size < 10
  · rw [if_pos hz]
  · rw [if_neg hz]
    have : ((n.extract 0 10).toList == [105, 110, 99, 108, 117, 100, 101, 105, 102, 46]) = false := by
      unfold pre at hp
      simpa [show 10 ≤ n.size by omega] using hp
    rw [if_neg (by rw [this]; decide)]
/-- The end of the rest is the end of the name. -/
theorem end_of_rest {n : ByteArray} (h : 15 ≤ n.size) : (n.extract 10 n.size).extract (n.size - 10 - 5) (n.size - 10) = n.extract (n.size - 5) n.size := by
  apply ext_toList
  rw [ex_toList, ex_toList, ex_toList]
  rw [List.take_of_length_le (l := List.drop 10 n.toList) (by simp [size_toList]), List.drop_drop]
  congr 1
  · omega
  · congr 1
    omega
theorem cond_yes {n : ByteArray} (h : (n.toList == [105, 110, 99, 108, 117, 100, 101, 46, 112, 97, 116, 104]) = false) (hp : pre n = true) (hs : suf n = true) :
    cond n = (n.extract 10 (n.size - 5), true) := by
  simp only [pre, suf, Bool.and_eq_true, decide_eq_true_eq] at hp hs
  unfold cond
  rw [if_neg (by rw [h]; decide), if_neg (by omega), if_pos hp.2, if_neg (by omega), end_of_rest hs.1, if_pos hs.2]
  congr 1
  apply ext_toList
  rw [ex_toList, ex_toList, ex_toList]
  simp only [List.drop_zero, Nat.sub_zero]
  rw [List.take_take]
  congr 1
  omega
theorem cond_no {n : ByteArray} (h : (n.toList == [105, 110, 99, 108, 117, 100, 101, 46, 112, 97, 116, 104]) = false) (hp : pre n = true) (hs : suf n = false) :
    cond n = (n.extract 10 n.size, false) := by
  simp only [pre, Bool.and_eq_true, decide_eq_true_eq] at hp
  unfold cond
  rw [if_neg (by rw [h]; decide), if_neg (by omega), if_pos hp.2]
  by_cases hz : n.size - 10 < 5
  · rw [if_pos hz]
  · rw [if_neg hz, end_of_rest (by omega)]
    have : ((n.extract (n.size - 5) n.size).toList == [46, 112, 97, 116, 104]) = false := by
      unfold suf at hs
      simpa [show 15 ≤ n.size by omega] using hs
    rw [if_neg (by rw [this]; decide)]
/-- Opening, condition and ending together are the name again. -/
theorem rebuilt {n : ByteArray} (hp : pre n = true) (hs : suf n = true) :
    (⟨#[105, 110, 99, 108, 117, 100, 101, 105, 102, 46]⟩ ++ n.extract 10 (n.size - 5) ++ ⟨#[46, 112, 97, 116, 104]⟩ : ByteArray) = n := by
  simp only [pre, suf, Bool.and_eq_true, decide_eq_true_eq, beq_iff_eq] at hp hs
  obtain ⟨_, hp⟩ := hp
  obtain ⟨hz, hs⟩ := hs
  apply ext_toList
  rw [append_toList, append_toList, ex_toList]
  rw [show (⟨#[105, 110, 99, 108, 117, 100, 101, 105, 102, 46]⟩ : ByteArray).toList = (n.extract 0 10).toList by rw [hp]; simp [toList_data],
    show (⟨#[46, 112, 97, 116, 104]⟩ : ByteArray).toList = (n.extract (n.size - 5) n.size).toList by rw [hs]; simp [toList_data], ex_toList, ex_toList]
  have hl := size_toList n
  generalize n.toList = l at hl ⊢
  rw [hl] at hz ⊢
  have e3 : List.take (l.length - (l.length - 5)) (List.drop (l.length - 5) l) = List.drop (l.length - 5) l := List.take_of_length_le (by simp)
  rw [e3, List.drop_zero, Nat.sub_zero, List.append_assoc]
  have e2 : List.take (l.length - 5 - 10) (List.drop 10 l) ++ List.drop (l.length - 5) l = List.drop 10 l := by
    have := List.take_append_drop (l.length - 5 - 10) (List.drop 10 l)
    rw [List.drop_drop, show 10 + (l.length - 5 - 10) = l.length - 5 by omega] at this
    exact this
  rw [e2, List.take_append_drop]
end Go.Proofs.Qxb6617785a
