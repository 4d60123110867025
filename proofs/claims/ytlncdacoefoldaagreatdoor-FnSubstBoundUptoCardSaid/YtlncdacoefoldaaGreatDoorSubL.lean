/- Plain: the printed functions of the package's matcher (zzLetter, zzName, zzOperator, zzLast), as lists of bytes tell them. -/
import Derived.Test.YtlncdacoefoldaaGreatDoorPXx1
import Derived.Test.YtlncdacoefoldaaGreatDoorPXx2
import Derived.Test.YtlncdacoefoldaaGreatDoorMrg3
namespace Go.Proofs.YtlncdacoefoldaaGreatDoor.U
set_option linter.unusedVariables false
set_option linter.unusedSimpArgs false
set_option linter.unusedSectionVars false
open Go.RowKit Go.Proofs.YtlncdacoefoldaaGreatDoorW.PrintWords Go.Proofs.YtlncdacoefoldaaGreatDoorW.PrintLast Go.Proofs.YtlncdacoefoldaaGreatDoor.PX

/-- what stands from a place on -/
def D (s : ByteArray) (i : Nat) : Bs := s.data.toList.drop i
theorem D_len (s : ByteArray) (i : Nat) : (D s i).length = s.size - i := by
  unfold D; rw [List.length_drop, Array.length_toList]; rfl
theorem D_nil {s : ByteArray} {i : Nat} (h : D s i = []) : s.size ≤ i := by
  have := D_len s i; rw [h] at this; simp at this; omega
theorem D_cons {s : ByteArray} {i : Nat} {c : UInt8} {r : Bs} (h : D s i = c :: r) : i < s.size ∧ bt s (i : Int) = (c.toNat : Int) ∧ D s (i + 1) = r := by
  have hl := D_len s i
  rw [h] at hl
  simp at hl
  have hi : i < s.size := by omega
  have h1 : s.data.toList[i]? = some c := by
    have : (D s i)[0]? = some c := by rw [h]; rfl
    unfold D at this
    rw [List.getElem?_drop] at this
    simpa using this
  refine ⟨hi, ?_, ?_⟩
  · unfold bt
    rw [dif_pos (by simpa using hi)]
    have h2 : s.data.toList[i]? = some s[i] := by rw [Array.getElem?_toList]; exact Array.getElem?_eq_getElem hi
    rw [h1] at h2
    injection h2 with h2
    rw [h2]; rfl
  · have : D s (i + 1) = (D s i).drop 1 := by unfold D; rw [List.drop_drop]
    rw [this, h]; rfl
theorem D_add (s : ByteArray) (i j : Nat) : D s (i + j) = (D s i).drop j := by unfold D; rw [List.drop_drop]
theorem wrA (i n : Nat) (h : i + n < 4611686018427387904) : wrap64 ((i : Int) + (n : Int)) = ((i + n : Nat) : Int) := by unfold wrap64; omega
theorem wrB (i : Nat) (h : i < 4611686018427387000) : wrap64 ((i : Int) + 1) = ((i + 1 : Nat) : Int) ∧ wrap64 ((i : Int) + 2) = ((i + 2 : Nat) : Int) ∧ wrap64 ((i : Int) + 3) = ((i + 3 : Nat) : Int) := by unfold wrap64; omega
theorem u8 (c d : UInt8) : c = d ↔ c.toNat = d.toNat := UInt8.toNat_inj.symm
theorem isL_iff (c : UInt8) : isL c = true ↔ (c.toNat = 95 ∨ (97 ≤ c.toNat ∧ c.toNat ≤ 122) ∨ (65 ≤ c.toNat ∧ c.toNat ≤ 90)) := by
  simp only [isL, Bool.or_eq_true, Bool.and_eq_true, beq_iff_eq, decide_eq_true_eq, UInt8.le_iff_toNat_le, u8]
  show (c.toNat = 95 ∨ _) ∨ _ ↔ _
  rw [or_assoc]
  rfl
theorem isD_iff (c : UInt8) : isD c = true ↔ (48 ≤ c.toNat ∧ c.toNat ≤ 57) := by
  simp only [isD, Bool.and_eq_true, decide_eq_true_eq, UInt8.le_iff_toNat_le]
  rfl
theorem isS_iff (c : UInt8) : isS c = true ↔ (c.toNat = 45 ∨ c.toNat = 43 ∨ c.toNat = 63) := by
  simp only [isS, Bool.or_eq_true, beq_iff_eq, u8]
  show (c.toNat = 45 ∨ c.toNat = 43) ∨ _ ↔ _
  rw [or_assoc]
  rfl
/-! ### a letter -/
def let3 (c : UInt8) (r : Bs) : Nat := if c = 226 ∧ r.take 2 = [132, 170] then 3 else 0
def let2 (c : UInt8) (r : Bs) : Nat := if c = 197 ∧ r.take 1 = [191] then 2 else let3 c r
theorem letN_nat (c : UInt8) (r : Bs) : letN (c :: r) = if c.toNat = 95 ∨ (97 ≤ c.toNat ∧ c.toNat ≤ 122) ∨ (65 ≤ c.toNat ∧ c.toNat ≤ 90) then 1 else let2 c r := by
  rw [letN]
  by_cases h : isL c = true
  · rw [if_pos h, if_pos ((isL_iff c).1 h)]
  · rw [if_neg h, if_neg (fun k => h ((isL_iff c).2 k))]
    unfold let2 let3
    simp
theorem j1_l (s : ByteArray) (i k : Nat) (hs : s.size < 4611686018427380000) (c : UInt8) (r : Bs) (h1 : i < s.size) (h3 : D s (i + 1) = r) (b : Bool) :
    template_zzLetter.j1 (k + 1) s (i : Int) (c.toNat : Int) b = some ((if b = true then 2 else let3 c r : Nat) : Int) := by
  obtain ⟨w1, w2, _⟩ := wrB i (by omega)
  cases b with
  | true => rw [template_zzLetter.j1, if_pos rfl]; rfl
  | false =>
    rw [template_zzLetter.j1, if_neg (show ¬ (false = true) by decide), w1, w2, if_neg (show ¬ (false = true) by decide)]
    cases r with
    | nil => have := D_nil h3; rw [if_neg (by omega)]; simp [let3]
    | cons d r =>
      obtain ⟨g1, g2, h5⟩ := D_cons h3
      cases r with
      | nil => have := D_nil h5; rw [if_neg (by omega)]; simp [let3]
      | cons e q =>
        obtain ⟨g3, g4, _⟩ := D_cons h5
        rw [if_pos (by omega), g2, show ((i + 2 : Nat) : Int) = ((i + 1 + 1 : Nat) : Int) by omega, g4]
        have hl : let3 c (d :: e :: q) = if (c.toNat : Int) = 226 ∧ (d.toNat : Int) = 132 ∧ (e.toNat : Int) = 170 then 3 else 0 := by
          unfold let3
          have : (c = 226 ∧ List.take 2 (d :: e :: q) = [132, 170]) ↔ ((c.toNat : Int) = 226 ∧ (d.toNat : Int) = 132 ∧ (e.toNat : Int) = 170) := by
            simp only [List.take_succ_cons, List.take_zero, List.cons.injEq, and_true, u8]
            show (c.toNat = 226 ∧ d.toNat = 132 ∧ e.toNat = 170) ↔ _
            omega
          simp only [this]
        rw [hl]
        by_cases c1 : (c.toNat : Int) = 226
        · by_cases c2 : (d.toNat : Int) = 132
          · by_cases c3 : (e.toNat : Int) = 170
            · rw [if_pos c1, if_pos (by omega), if_pos (by omega), if_pos c2, if_pos (by omega), if_pos c3, if_pos ⟨c1, c2, c3⟩]; rfl
            · rw [if_pos c1, if_pos (by omega), if_pos (by omega), if_pos c2, if_pos (by omega), if_neg c3, if_neg (fun h => c3 h.2.2)]; rfl
          · rw [if_pos c1, if_pos (by omega), if_pos (by omega), if_neg c2, if_neg (fun h => c2 h.2.1)]; rfl
        · rw [if_neg c1, if_neg (fun h => c1 h.1)]; rfl
theorem j0_l (s : ByteArray) (i k : Nat) (hs : s.size < 4611686018427380000) (c : UInt8) (r : Bs) (h1 : i < s.size) (h3 : D s (i + 1) = r) (b : Bool) :
    template_zzLetter.j0 (k + 2) s (i : Int) (c.toNat : Int) b = some ((if b = true then 1 else let2 c r : Nat) : Int) := by
  obtain ⟨w1, w2, _⟩ := wrB i (by omega)
  cases b with
  | true => rw [template_zzLetter.j0, if_pos rfl]; rfl
  | false =>
    rw [template_zzLetter.j0, if_neg (show ¬ (false = true) by decide), w1, if_neg (show ¬ (false = true) by decide)]
    simp only [j1_l s i k hs c r h1 h3]
    cases r with
    | nil =>
      have := D_nil h3
      rw [if_neg (by omega)]
      simp [let2, let3]
    | cons d r =>
      obtain ⟨g1, g2, h5⟩ := D_cons h3
      rw [if_pos (by omega), g2]
      have hl : let2 c (d :: r) = if (c.toNat : Int) = 197 ∧ (d.toNat : Int) = 191 then 2 else let3 c (d :: r) := by
        unfold let2
        have : (c = 197 ∧ List.take 1 (d :: r) = [191]) ↔ ((c.toNat : Int) = 197 ∧ (d.toNat : Int) = 191) := by
          simp only [List.take_succ_cons, List.take_zero, List.cons.injEq, and_true, u8]
          show (c.toNat = 197 ∧ d.toNat = 191) ↔ _
          omega
        simp only [this]
      rw [hl]
      by_cases c1 : (c.toNat : Int) = 197
      · rw [if_pos c1, if_pos (by omega)]
        by_cases c2 : (d.toNat : Int) = 191
        · rw [if_pos (by rw [c2]; rfl), if_pos ⟨c1, c2⟩]
        · rw [if_neg (by simpa using c2), if_neg (fun h => c2 h.2)]
      · rw [if_neg c1, if_neg (by simp), if_neg (fun h => c1 h.1)]
theorem letter_l (s : ByteArray) (i k : Nat) (hs : s.size < 4611686018427380000) : template_zzLetter.f (k + 2) s (i : Int) = some (letN (D s i) : Int) := by
  cases h : D s i with
  | nil =>
    have := D_nil h
    unfold template_zzLetter.f
    rw [if_pos (by omega)]
    rfl
  | cons c r =>
    obtain ⟨h1, h2, h3⟩ := D_cons h
    unfold template_zzLetter.f
    rw [if_neg (by omega), if_pos (by omega), if_pos (by omega), h2, letN_nat]
    simp only [j0_l s i k hs c r h1 h3]
    by_cases a : c.toNat = 95 ∨ (97 ≤ c.toNat ∧ c.toNat ≤ 122) ∨ (65 ≤ c.toNat ∧ c.toNat ≤ 90)
    · rw [if_pos a]
      repeat' split
      all_goals first
        | rfl
        | omega
        | (rename_i hb; exact absurd trivial hb)
        | (rename_i hb; rw [decide_eq_true_eq] at hb; omega)
    · rw [if_neg a]
      repeat' split
      all_goals first
        | rfl
        | omega
        | (rename_i hb; rw [decide_eq_true_eq] at hb; omega)
        | (rename_i hb; cases hb)
end Go.Proofs.YtlncdacoefoldaaGreatDoor.U
