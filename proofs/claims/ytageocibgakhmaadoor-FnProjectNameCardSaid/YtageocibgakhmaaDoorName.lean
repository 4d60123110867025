/- Plain: what a project's name is; the two ways to it are one. -/
import Derived.Test.YtageocibgakhmaaDoorL
import Derived.Lib.Case
namespace Go.Proofs.YtageocibgakhmaaDoor.L
open Go.RowKit

def alnumB (c : UInt8) : Bool := (decide (97 ≤ c.toNat) && decide (c.toNat ≤ 122)) || (decide (48 ≤ c.toNat) && decide (c.toNat ≤ 57))
def dashB (c : UInt8) : Bool := decide (c.toNat = 95) || decide (c.toNat = 45)
def nameStep (t : List UInt8) (c : UInt8) : List UInt8 := if alnumB (Lib.lowerB c) || (!t.isEmpty && dashB (Lib.lowerB c)) then t ++ [Lib.lowerB c] else t
def nameL (t l : List UInt8) : List UInt8 := l.foldl nameStep t
def keepB (c : UInt8) : Bool := alnumB c || dashB c
theorem dash_alnum (c : UInt8) (h : dashB c = true) : alnumB c = false := by
  unfold dashB at h
  unfold alnumB
  simp only [Bool.or_eq_true, decide_eq_true_eq] at h
  rcases h with h | h
  · rw [h]; rfl
  · rw [h]; rfl
theorem nameL_full : ∀ (l t : List UInt8), t ≠ [] → nameL t l = t ++ (l.map Lib.lowerB).filter keepB
  | [], t, _ => by simp [nameL]
  | c :: r, t, h => by
    have ht : t.isEmpty = false := by cases t with
      | nil => exact absurd rfl h
      | cons => rfl
    have e : nameL t (c :: r) = nameL (nameStep t c) r := rfl
    rw [e]
    unfold nameStep
    rw [ht]
    simp only [Bool.not_false, Bool.true_and, List.map_cons, List.filter_cons]
    have hkd : keepB (Lib.lowerB c) = (alnumB (Lib.lowerB c) || dashB (Lib.lowerB c)) := rfl
    rw [← hkd]
    rcases hk : keepB (Lib.lowerB c) with _ | _
    · simp only [Bool.false_eq_true, if_false]
      rw [nameL_full r _ h]
    · simp only [if_true]
      rw [nameL_full r _ (by simp)]
      simp
theorem nameL_is : ∀ (l : List UInt8), nameL [] l = ((l.map Lib.lowerB).filter keepB).dropWhile dashB
  | [] => rfl
  | c :: r => by
    have e : nameL [] (c :: r) = nameL (nameStep [] c) r := rfl
    rw [e]
    unfold nameStep
    simp only [List.isEmpty_nil, Bool.not_true, Bool.false_and, Bool.or_false, List.map_cons, List.filter_cons]
    rcases ha : alnumB (Lib.lowerB c) with _ | _
    · simp only [Bool.false_eq_true, if_false]
      rw [nameL_is r]
      rcases hd : dashB (Lib.lowerB c) with _ | _
      · simp [keepB, ha, hd]
      · simp [keepB, ha, hd]
    · simp only [if_true, List.nil_append]
      have hd : dashB (Lib.lowerB c) = false := by
        rcases hd : dashB (Lib.lowerB c) with _ | _
        · rfl
        · rw [dash_alnum _ hd] at ha; cases ha
      rw [nameL_full r _ (by simp)]
      simp [keepB, ha, hd]
theorem nameL_size : ∀ (l t : List UInt8), (nameL t l).length ≤ t.length + l.length
  | [], t => by simp [nameL]
  | c :: r, t => by
    have e : nameL t (c :: r) = nameL (nameStep t c) r := rfl
    have ih := nameL_size r (nameStep t c)
    rw [e, List.length_cons]
    unfold nameStep at ih ⊢
    split at ih
    · rw [if_pos (by assumption)]
      rw [List.length_append] at ih
      simp only [List.length_singleton] at ih
      omega
    · rw [if_neg (by assumption)]
      omega
end Go.Proofs.YtageocibgakhmaaDoor.L
