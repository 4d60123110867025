/- Plain: the operator that stands first in a text. -/
import Derived.Test.YtlncdacoefoldaaGreatDoorMrg3
namespace Go.Proofs.YtlncdacoefoldaaGreatDoor.U
set_option linter.unusedVariables false
set_option linter.unusedSimpArgs false
set_option linter.unusedSectionVars false

def six : List Bs := [[58, 63], [63], [58, 45], [45], [58, 43], [43]]
theorem pre_op (s : Bs) (hs : s ∈ six) (c : UInt8) (r : Bs) : s.isPrefixOf (c :: r) = true ↔ opN (c :: r) ≠ 0 ∧ s = (c :: r).take (opN (c :: r)) := by
  have hS : ∀ d : UInt8, isS d = true ↔ (d = 45 ∨ d = 43 ∨ d = 63) := fun d => by
    simp only [isS, Bool.or_eq_true, beq_iff_eq]
    rw [or_assoc]
  by_cases c58 : c = 58
  · subst c58
    have n63 : ¬ ((63 : UInt8) = 58) := by decide
    have n45 : ¬ ((45 : UInt8) = 58) := by decide
    have n43 : ¬ ((43 : UInt8) = 58) := by decide
    cases r with
    | nil =>
      have ho : opN [58] = 0 := by decide
      rw [ho]
      simp only [six, List.mem_cons, List.not_mem_nil, or_false] at hs
      rcases hs with rfl | rfl | rfl | rfl | rfl | rfl <;> decide
    | cons d q =>
      have ho : opN (58 :: d :: q) = if isS d = true then 2 else 0 := by simp [opN]; rfl
      rw [ho]
      have hd := hS d
      by_cases e : isS d = true
      · rw [if_pos e]
        simp only [six, List.mem_cons, List.not_mem_nil, or_false] at hs
        rcases hd.1 e with rfl | rfl | rfl <;> rcases hs with rfl | rfl | rfl | rfl | rfl | rfl <;> simp [List.isPrefixOf]
      · rw [if_neg e]
        have e' := fun q => e (hd.2 q)
        have e1 : ¬ (63 = d) := fun q => e' (.inr (.inr q.symm))
        have e2 : ¬ (45 = d) := fun q => e' (.inl q.symm)
        have e3 : ¬ (43 = d) := fun q => e' (.inr (.inl q.symm))
        simp only [six, List.mem_cons, List.not_mem_nil, or_false] at hs
        rcases hs with rfl | rfl | rfl | rfl | rfl | rfl <;> simp [List.isPrefixOf, n63, n45, n43, e1, e2, e3]
  · have ho : opN (c :: r) = if isS c = true then 1 else 0 := by simp [opN, c58]
    rw [ho]
    have hc := hS c
    have c58' : ¬ (58 = c) := fun q => c58 q.symm
    by_cases e : isS c = true
    · rw [if_pos e]
      simp only [six, List.mem_cons, List.not_mem_nil, or_false] at hs
      rcases hc.1 e with rfl | rfl | rfl <;> rcases hs with rfl | rfl | rfl | rfl | rfl | rfl <;> simp [List.isPrefixOf]
    · rw [if_neg e]
      have e' := fun q => e (hc.2 q)
      have e1 : ¬ (63 = c) := fun q => e' (.inr (.inr q.symm))
      have e2 : ¬ (45 = c) := fun q => e' (.inl q.symm)
      have e3 : ¬ (43 = c) := fun q => e' (.inr (.inl q.symm))
      simp only [six, List.mem_cons, List.not_mem_nil, or_false] at hs
      rcases hs with rfl | rfl | rfl | rfl | rfl | rfl <;> simp [List.isPrefixOf, c58', e1, e2, e3]
theorem six_ne {s : Bs} (hs : s ∈ six) : s ≠ [] := by
  simp only [six, List.mem_cons, List.not_mem_nil, or_false] at hs
  rcases hs with rfl | rfl | rfl | rfl | rfl | rfl <;> simp
theorem sign_none : ∀ (t : Bs), signOf t = none → ∀ s ∈ six, idx s t = none
  | [], _, s, hs => by rw [idx, if_neg (six_ne hs)]
  | c :: r, h, s, hs => by
    rw [signOf] at h
    split at h
    · rename_i ho
      have hp := pre_op s hs c r
      have : s.isPrefixOf (c :: r) = false := by
        cases e : s.isPrefixOf (c :: r)
        · rfl
        · exact absurd ho (hp.1 e).1
      rw [idx, this, sign_none r h s hs]
      rfl
    · cases h
theorem take_op_mem (c : UInt8) (r : Bs) (ho : opN (c :: r) ≠ 0) : (c :: r).take (opN (c :: r)) ∈ six := by
  have hS : ∀ d : UInt8, isS d = true ↔ (d = 45 ∨ d = 43 ∨ d = 63) := fun d => by
    simp only [isS, Bool.or_eq_true, beq_iff_eq]
    rw [or_assoc]
  by_cases c58 : c = 58
  · subst c58
    cases r with
    | nil => exact absurd (show opN [58] = 0 by decide) ho
    | cons d q =>
      have h1 : opN (58 :: d :: q) = if isS d = true then 2 else 0 := by simp [opN]; rfl
      rw [h1] at ho ⊢
      by_cases e : isS d = true
      · rw [if_pos e]
        rcases (hS d).1 e with rfl | rfl | rfl <;> simp [six]
      · rw [if_neg e] at ho; exact absurd rfl ho
  · have h1 : opN (c :: r) = if isS c = true then 1 else 0 := by simp [opN, c58]
    rw [h1] at ho ⊢
    by_cases e : isS c = true
    · rw [if_pos e]
      rcases (hS c).1 e with rfl | rfl | rfl <;> simp [six]
    · rw [if_neg e] at ho; exact absurd rfl ho
theorem sign_some : ∀ (t sg : Bs), signOf t = some sg → sg ∈ six ∧ ∃ i, idx sg t = some i ∧ ∀ s ∈ six, s ≠ sg → ∀ j, idx s t = some j → i < j
  | [], _, h => by simp [signOf] at h
  | c :: r, sg, h => by
    rw [signOf] at h
    by_cases ho : opN (c :: r) = 0
    · rw [if_pos ho] at h
      obtain ⟨h1, i, h2, h3⟩ := sign_some r sg h
      have np : ∀ s ∈ six, s.isPrefixOf (c :: r) = false := fun s hs => by
        cases e : s.isPrefixOf (c :: r)
        · rfl
        · exact absurd ho ((pre_op s hs c r).1 e).1
      refine ⟨h1, i + 1, ?_, fun s hs hne j hj => ?_⟩
      · rw [idx, np sg h1, h2]; rfl
      · rw [idx, np s hs] at hj
        simp only [Bool.false_eq_true, if_false] at hj
        cases hk : idx s r with
        | none => rw [hk] at hj; cases hj
        | some k =>
          rw [hk] at hj
          simp at hj
          have := h3 s hs hne k hk
          omega
    · rw [if_neg ho] at h
      injection h with h
      have hm := take_op_mem c r ho
      rw [h] at hm
      refine ⟨hm, 0, ?_, fun s hs hne j hj => ?_⟩
      · rw [idx, if_pos ((pre_op sg hm c r).2 ⟨ho, h.symm⟩)]
      · rw [idx] at hj
        split at hj
        · rename_i hp
          exact absurd (((pre_op s hs c r).1 hp).2.trans h) hne
        · cases hk : idx s r with
          | none => rw [hk] at hj; cases hj
          | some k => rw [hk] at hj; simp at hj; omega
end Go.Proofs.YtlncdacoefoldaaGreatDoor.U
