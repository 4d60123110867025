/- Plain: where a text is cut at its first '='; the two ways of the program and of the specification agree. -/
import Derived.Test.YtcocmdbleicmcaaGreatDoorOverP
import Derived.Test.YtcocmdbleicmcaaGreatDoorAwake
import Derived.Test.YtcocmdbleicmcaaGreatDoorL
import Derived.Test.YtcocmdbleicmcaaGreatDoorPXx6
import Derived.Test.YtcocmdbleicmcaaGreatDoorPXx8
import Derived.Test.YtcocmdbleicmcaaGreatDoorPXx9
namespace Go.Proofs.YtcocmdbleicmcaaGreatDoor.M
set_option linter.unusedVariables false
set_option linter.unusedSimpArgs false
set_option linter.unusedSectionVars false
open Go.RowKit Go.Proofs.YtcocmdbleicmcaaGreatDoorW.PrintWords Go.Proofs.YtcocmdbleicmcaaGreatDoorW.PrintLast Go.Proofs.YtcocmdbleicmcaaGreatDoor.PX

def fnd (s : ByteArray) : Nat → Nat → Option Nat
  | 0, _ => none
  | n + 1, i => if bt s (i : Int) = 61 then some i else fnd s n (i + 1)
/-- The text before its first '=', and the text behind it. -/
def spE (s : ByteArray) : ByteArray × Option ByteArray := match fnd s s.size 0 with
  | none => (s, none)
  | some j => (s.extract 0 j, some (s.extract (j + 1) s.size))
def trip (x : ByteArray × Option ByteArray) : ByteArray × ByteArray × Bool := (x.1, x.2.getD ⟨#[]⟩, x.2.isSome)
theorem one_byte (s : ByteArray) (i : Nat) (h : i < s.size) : (s.extract i (i + 1)).toList = (⟨#[61]⟩ : ByteArray).toList ↔ bt s (i : Int) = 61 := by
  have hl : i < s.data.toList.length := by rw [Array.length_toList]; exact h
  have e1 : (s.extract i (i + 1)).toList = [s.data.toList[i]] := by
    rw [ByteArray.toList_eq, L.extract_mk, show i + 1 - i = 1 by omega, List.drop_eq_getElem_cons hl]
    simp [L.mk]
  have e2 : (⟨#[61]⟩ : ByteArray).toList = [61] := by rw [ByteArray.toList_eq]
  have e3 : bt s (i : Int) = ((s.data.toList[i]).toNat : Int) := by
    unfold bt
    rw [dif_pos (by simpa using h)]
    rfl
  rw [e1, e2, e3]
  constructor
  · intro h; injection h with h; rw [h]; rfl
  · intro h
    have : s.data.toList[i] = 61 := UInt8.toNat_inj.1 (by have : (61 : UInt8).toNat = 61 := rfl; omega)
    rw [this]
theorem fnd_lt (s : ByteArray) : ∀ n i j, n = s.size - i → i ≤ s.size → fnd s n i = some j → j < s.size
  | 0, i, j, h, hi, hf => by simp [fnd] at hf
  | n + 1, i, j, h, hi, hf => by
    rw [fnd] at hf
    split at hf
    · injection hf with hf; omega
    · exact fnd_lt s n (i + 1) j (by omega) (by omega) hf
end Go.Proofs.YtcocmdbleicmcaaGreatDoor.M
