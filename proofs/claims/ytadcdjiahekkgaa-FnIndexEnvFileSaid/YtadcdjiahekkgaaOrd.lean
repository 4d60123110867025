/- Plain facts: the order of strings, lists that rise by their keys, the last value of a key. No statement, no program. -/
import GoSem.Op.String
import Derived.Lib.Strings
namespace Go.Proofs.Ytadcdjiahekkgaa.Ord
set_option linter.unusedVariables false
set_option linter.unusedSimpArgs false
set_option linter.unusedSectionVars false
open Go

/-! ### the order of strings -/
theorem less_irrefl : ∀ l : List UInt8, Op.bytesLess l l = false
  | [] => rfl
  | a :: l => by simp [Op.bytesLess, less_irrefl l]
theorem toList_inj {s t : ByteArray} (h : s.toList = t.toList) : s = t := by
  have e : ∀ u : ByteArray, u.toList = u.data.toList := fun u => by
    exact Lib.toList_data u
  rw [e, e] at h
  exact ByteArray.ext (Array.toList_inj.1 h)
def lt (a b : ByteArray) : Bool := Op.bytesLess a.toList b.toList
theorem lt_irrefl (a : ByteArray) : lt a a = false := less_irrefl _
/-! ### lists that rise by their keys -/
section
variable {α : Type} (key : α → ByteArray)
def Asc (l : List α) : Prop := l.Pairwise (fun p q => lt (key p) (key q) = true)
/-- where a key stands, or would stand -/
def at_ (l : List α) (k : ByteArray) : Nat := (l.takeWhile (fun p => lt (key p) k)).length
def step (l : List α) (x : α) : List α :=
  match l[at_ key l (key x)]? with
  | some q => if key q = key x then l.set (at_ key l (key x)) x else l.take (at_ key l (key x)) ++ x :: l.drop (at_ key l (key x))
  | none => l.take (at_ key l (key x)) ++ x :: l.drop (at_ key l (key x))
variable {key}
end

/-! ### texts in rising order, as often as they stand there -/
def Srt (l : List ByteArray) : Prop := l.Pairwise (fun a b => lt b a = false)
def sortS (l : List ByteArray) : List ByteArray := l.mergeSort (fun a b => !lt b a)
end Go.Proofs.Ytadcdjiahekkgaa.Ord
