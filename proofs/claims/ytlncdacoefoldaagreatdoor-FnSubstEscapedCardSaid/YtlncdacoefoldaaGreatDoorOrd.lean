/- Plain facts: the order of strings, lists that rise by their keys, the last value of a key. No statement, no program. -/
import GoSem.Op.String
import Derived.Lib.Strings
namespace Go.Proofs.YtlncdacoefoldaaGreatDoor.Ord
set_option linter.unusedVariables false
set_option linter.unusedSimpArgs false
set_option linter.unusedSectionVars false
open Go

/-- from the end on -/
theorem snocRec {α : Type} {motive : List α → Prop} (nil : motive []) (snoc : ∀ l x, motive l → motive (l ++ [x])) (l : List α) : motive l := by
  have : ∀ r : List α, motive r.reverse := fun r => by
    induction r with
    | nil => exact nil
    | cons x r ih => rw [List.reverse_cons]; exact snoc _ _ ih
  have h := this l.reverse
  rwa [List.reverse_reverse] at h
/-! ### the order of strings -/
theorem less_irrefl : ∀ l : List UInt8, Op.bytesLess l l = false
  | [] => rfl
  | a :: l => by simp [Op.bytesLess, less_irrefl l]
theorem toList_inj {s t : ByteArray} (h : s.toList = t.toList) : s = t := by
  have e : ∀ u : ByteArray, u.toList = u.data.toList := fun u => by
    exact Lib.toList_data u
  rw [e, e] at h
  exact ByteArray.ext (Array.toList_inj.1 h)
def lt (a b : ByteArray) : Bool := Op.bytesLess a.toList b.toList
theorem lt_irrefl (a : ByteArray) : lt a a = false := less_irrefl _
/-! ### lists that rise by their keys -/
section
variable {α : Type} (key : α → ByteArray)
/-- where a key stands, or would stand -/
def at_ (l : List α) (k : ByteArray) : Nat := (l.takeWhile (fun p => lt (key p) k)).length
def step (l : List α) (x : α) : List α :=
  match l[at_ key l (key x)]? with
  | some q => if key q = key x then l.set (at_ key l (key x)) x else l.take (at_ key l (key x)) ++ x :: l.drop (at_ key l (key x))
  | none => l.take (at_ key l (key x)) ++ x :: l.drop (at_ key l (key x))
def fit (l : List α) : List α := l.foldl (step key) []
variable {key}
theorem fit_snoc (l : List α) (x : α) : fit key (l ++ [x]) = step key (fit key l) x := by simp [fit]
theorem at_le (l : List α) (k : ByteArray) : at_ key l k ≤ l.length := (List.takeWhile_sublist _).length_le
theorem at_lt : ∀ {l : List α} {k : ByteArray} {j : Nat}, j < at_ key l k → ∃ p, l[j]? = some p ∧ lt (key p) k = true
  | [], k, j, h => by simp [at_] at h
  | q :: l, k, j, h => by
    unfold at_ at h
    rw [List.takeWhile_cons] at h
    split at h
    · rename_i hq
      cases j with
      | zero => exact ⟨q, rfl, hq⟩
      | succ j => exact at_lt (l := l) (j := j) (by simpa [at_] using h)
    · simp at h
theorem at_stop : ∀ {l : List α} {k : ByteArray} {p : α}, l[at_ key l k]? = some p → lt (key p) k = false
  | [], k, p, h => by simp [at_] at h
  | q :: l, k, p, h => by
    unfold at_ at h
    rw [List.takeWhile_cons] at h
    split at h
    · rename_i hq
      exact at_stop (l := l) (by simpa [at_] using h)
    · rename_i hq
      simp at h
      subst h
      simpa using hq
theorem step_set {l : List α} {x q : α} (h : l[at_ key l (key x)]? = some q) (e : key q = key x) : step key l x = l.set (at_ key l (key x)) x := by
  unfold step; rw [h]; simp [e]
theorem step_ins {l : List α} {x : α} (h : ∀ q, l[at_ key l (key x)]? = some q → key q ≠ key x) : step key l x = l.take (at_ key l (key x)) ++ x :: l.drop (at_ key l (key x)) := by
  unfold step
  split
  · rename_i q hq
    rw [if_neg (h q hq)]
  · rfl
theorem step_length (l : List α) (x : α) : (step key l x).length ≤ l.length + 1 := by
  unfold step
  have := at_le (key := key) l (key x)
  split
  · split
    · simp
    · simp; omega
  · simp; omega
theorem fit_length (l : List α) : (fit key l).length ≤ l.length := by
  induction l using snocRec with
  | nil => simp [fit]
  | snoc l x ih => rw [fit_snoc]; have := step_length (key := key) (fit key l) x; simp; omega
end

/-! ### texts in rising order, as often as they stand there -/
def Srt (l : List ByteArray) : Prop := l.Pairwise (fun a b => lt b a = false)
end Go.Proofs.YtlncdacoefoldaaGreatDoor.Ord
