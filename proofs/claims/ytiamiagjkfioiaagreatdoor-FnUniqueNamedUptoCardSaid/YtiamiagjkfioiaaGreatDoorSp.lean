/- Plain: strings cut at one byte. -/
import Derived.Test.YtiamiagjkfioiaaGreatDoorRows
import Derived.Test.YtiamiagjkfioiaaGreatDoorL
namespace Go.Proofs.YtiamiagjkfioiaaGreatDoor.L
set_option linter.unusedVariables false
set_option linter.unusedSimpArgs false
set_option linter.unusedSectionVars false
open Go.RowKit

/-! ### cutting at one byte -/
def sp (d : UInt8) : List UInt8 → List (List UInt8)
  | [] => [[]]
  | c :: r => if c = d then [] :: sp d r else match sp d r with
    | [] => [[c]]
    | h :: t => (c :: h) :: t
theorem sp_ne (d : UInt8) (l : List UInt8) : sp d l ≠ [] := by
  cases l with
  | nil => simp [sp]
  | cons c r =>
    unfold sp
    split
    · simp
    · split <;> simp
theorem index_one_miss (d : UInt8) : ∀ (l : List UInt8), Lib.index l [d] = -1 → sp d l = [l]
  | [], _ => rfl
  | c :: r, h => by
    unfold Lib.index at h
    by_cases hc : c = d
    · subst hc
      simp [List.isPrefixOf] at h
    · have h0 : ([d] : List UInt8).isPrefixOf (c :: r) = false := by simp [List.isPrefixOf, Ne.symm hc]
      rw [h0] at h
      have h1 : Lib.index r [d] = -1 := by
        have hge := Lib.index_ge r [d]
        rcases Decidable.em (Lib.index r [d] = -1) with e | e
        · exact e
        · exfalso
          have hb : (Lib.index r [d] == -1) = false := by rw [beq_eq_false_iff_ne]; exact e
          rw [hb] at h
          simp only [Bool.false_eq_true, if_false] at h
          omega
      unfold sp
      rw [if_neg hc, index_one_miss d r h1]
theorem index_one_hit (d : UInt8) : ∀ (l : List UInt8) (i : Nat), Lib.index l [d] = i → sp d l = l.take i :: sp d (l.drop (i + 1))
  | [], i, h => by simp [Lib.index] at h
  | c :: r, i, h => by
    unfold Lib.index at h
    by_cases hc : c = d
    · subst hc
      have : i = 0 := by simp [List.isPrefixOf] at h; omega
      subst this
      simp [sp]
    · have h0 : ([d] : List UInt8).isPrefixOf (c :: r) = false := by simp [List.isPrefixOf, Ne.symm hc]
      rw [h0] at h
      have hge := Lib.index_ge r [d]
      by_cases e : Lib.index r [d] = -1
      · exfalso; simp [e] at h
        try omega
      · have h1 : Lib.index r [d] + 1 = i := by simpa [e] using h
        obtain ⟨j, rfl⟩ : ∃ j, i = j + 1 := ⟨i - 1, by omega⟩
        have ih := index_one_hit d r j (by omega)
        show sp d (c :: r) = (c :: r.take j) :: sp d (r.drop (j + 1))
        rw [sp, if_neg hc, ih]
theorem sp_length (d : UInt8) : ∀ (l : List UInt8), (sp d l).length ≤ l.length + 1
  | [] => by simp [sp]
  | c :: r => by
    have ih := sp_length d r
    unfold sp
    split
    · simp; omega
    · split
      · simp
      · rename_i h t e
        rw [e] at ih
        simp at ih ⊢
        omega

theorem strInfo : (Tryz.prog.info? 9).map (fun i => (i.zero, i.size, i.bytes)) = some (some (.string ByteArray.empty), 1, 16) := by kernel_rfl

def splitOk (w : World) (d : UInt8) (s : ByteArray) (e : Ending) (w' : World) : Prop := ∃ v, e = .returned v ∧ SSK (fun b => w.heap.size ≤ b) w' v ((sp d s.data.toList).map mk) ∧ Below w.heap.size w w'
end Go.Proofs.YtiamiagjkfioiaaGreatDoor.L
