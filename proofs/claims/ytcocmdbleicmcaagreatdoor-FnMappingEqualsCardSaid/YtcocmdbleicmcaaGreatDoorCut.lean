/- Plain: where a text is cut at its first '='; the two ways of the program and of the specification agree. -/
import Derived.Test.YtcocmdbleicmcaaGreatDoorOverP
import Derived.Test.YtcocmdbleicmcaaGreatDoorAwake
import Derived.Test.YtcocmdbleicmcaaGreatDoorL
import Derived.Test.YtcocmdbleicmcaaGreatDoorPXx6
import Derived.Test.YtcocmdbleicmcaaGreatDoorPXx8
import Derived.Test.YtcocmdbleicmcaaGreatDoorPXx9
namespace Go.Proofs.YtcocmdbleicmcaaGreatDoor.M
set_option linter.unusedVariables false
set_option linter.unusedSimpArgs false
set_option linter.unusedSectionVars false
open Go.RowKit Go.Proofs.YtcocmdbleicmcaaGreatDoorW.PrintWords Go.Proofs.YtcocmdbleicmcaaGreatDoorW.PrintLast Go.Proofs.YtcocmdbleicmcaaGreatDoor.PX

def fnd (s : ByteArray) : Nat → Nat → Option Nat
  | 0, _ => none
  | n + 1, i => if bt s (i : Int) = 61 then some i else fnd s n (i + 1)
/-- The text before its first '=', and the text behind it. -/
def spE (s : ByteArray) : ByteArray × Option ByteArray := match fnd s s.size 0 with
  | none => (s, none)
  | some j => (s.extract 0 j, some (s.extract (j + 1) s.size))
def trip (x : ByteArray × Option ByteArray) : ByteArray × ByteArray × Bool := (x.1, x.2.getD ⟨#[]⟩, x.2.isSome)
theorem cut_l0 (s : ByteArray) (hs : s.size < 4611686018427387903) : ∀ n i, n = s.size - i → i ≤ s.size → spec_mapsCut.l0 (n + 1) s (i : Int) = some (trip (match fnd s n i with
  | none => (s, none)
  | some j => (s.extract 0 j, some (s.extract (j + 1) s.size))))
  | 0, i, h, hi => by
    rw [spec_mapsCut.l0, if_neg (by omega)]; rfl
  | n + 1, i, h, hi => by
    rw [spec_mapsCut.l0, if_pos (by omega), if_pos (by omega), fnd]
    by_cases hb : bt s (i : Int) = 61
    · rw [if_pos hb, if_pos (by omega), wrapS i (by omega), if_pos (by omega), if_pos (by omega), if_pos hb]; rfl
    · rw [if_neg hb, if_neg hb, wrapS i (by omega)]
      exact cut_l0 s hs n (i + 1) (by omega) (by omega)
theorem cut_f (s : ByteArray) (hs : s.size < 4611686018427387903) : spec_mapsCut.f (s.size + 1) s = some (trip (spE s)) := by
  have := cut_l0 s hs s.size 0 (by omega) (by omega)
  exact this
theorem one_byte (s : ByteArray) (i : Nat) (h : i < s.size) : (s.extract i (i + 1)).toList = (⟨#[61]⟩ : ByteArray).toList ↔ bt s (i : Int) = 61 := by
  have hl : i < s.data.toList.length := by rw [Array.length_toList]; exact h
  have e1 : (s.extract i (i + 1)).toList = [s.data.toList[i]] := by
    rw [ByteArray.toList_eq, L.extract_mk, show i + 1 - i = 1 by omega, List.drop_eq_getElem_cons hl]
    simp [L.mk]
  have e2 : (⟨#[61]⟩ : ByteArray).toList = [61] := by rw [ByteArray.toList_eq]
  have e3 : bt s (i : Int) = ((s.data.toList[i]).toNat : Int) := by
    unfold bt
    rw [dif_pos (by simpa using h)]
    rfl
  rw [e1, e2, e3]
  constructor
  · intro h; injection h with h; rw [h]; rfl
  · intro h
    have : s.data.toList[i] = 61 := UInt8.toNat_inj.1 (by have : (61 : UInt8).toNat = 61 := rfl; omega)
    rw [this]
theorem idx_l0 (s : ByteArray) (hs : s.size < 4611686018427387903) : ∀ n i, n = s.size - i → i ≤ s.size → types_zzIndex.l0 (n + 1) s ⟨#[61]⟩ (i : Int) = some (match fnd s n i with
  | none => -1
  | some j => (j : Int))
  | 0, i, h, hi => by
    rw [types_zzIndex.l0, show ((⟨#[61]⟩ : ByteArray).size : Int) = 1 from rfl, wrapS i (by omega), if_neg (by omega)]; rfl
  | n + 1, i, h, hi => by
    rw [types_zzIndex.l0, show ((⟨#[61]⟩ : ByteArray).size : Int) = 1 from rfl, wrapS i (by omega), if_pos (by omega), if_pos (by omega), if_pos (by omega), fnd]
    have ho := one_byte s i (by omega)
    simp only [Int.toNat_natCast]
    by_cases hb : bt s (i : Int) = 61
    · rw [if_pos (ho.2 hb), if_pos hb]
    · rw [if_neg (fun h => hb (ho.1 h)), if_neg hb]
      exact idx_l0 s hs n (i + 1) (by omega) (by omega)
theorem fnd_lt (s : ByteArray) : ∀ n i j, n = s.size - i → i ≤ s.size → fnd s n i = some j → j < s.size
  | 0, i, j, h, hi, hf => by simp [fnd] at hf
  | n + 1, i, j, h, hi, hf => by
    rw [fnd] at hf
    split at hf
    · injection hf with hf; omega
    · exact fnd_lt s n (i + 1) j (by omega) (by omega) hf
theorem splitTwo_f (s : ByteArray) (hs : s.size < 4611686018427387903) : types_zzSplitTwo.f (s.size + 1) s ⟨#[61]⟩ = some (partsOf (spE s)) := by
  have hi : types_zzIndex.f (s.size + 1) s ⟨#[61]⟩ = some (match fnd s s.size 0 with
    | none => -1
    | some j => (j : Int)) := idx_l0 s hs s.size 0 (by omega) (by omega)
  unfold types_zzSplitTwo.f types_zzCut.f spE
  rw [hi]
  cases e : fnd s s.size 0 with
  | none =>
    simp only [Option.bind_some]
    rw [if_neg (by omega)]
    rfl
  | some j =>
    have hj := fnd_lt s s.size 0 j (by omega) (by omega) e
    simp only [Option.bind_some]
    rw [show ((⟨#[61]⟩ : ByteArray).size : Int) = 1 from rfl, wrapS j (by omega), if_pos (by omega), if_pos (by omega), if_pos (by omega), if_pos (by omega), if_pos (by omega)]
    rfl
end Go.Proofs.YtcocmdbleicmcaaGreatDoor.M
