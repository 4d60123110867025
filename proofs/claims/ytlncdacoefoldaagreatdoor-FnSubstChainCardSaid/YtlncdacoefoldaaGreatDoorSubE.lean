/- Plain laws of the package's substitution: texts without dollars, doubled dollars, a variable without braces. No program in sight. -/
import Derived.Test.YtlncdacoefoldaaGreatDoorSubM
namespace Go.Proofs.YtlncdacoefoldaaGreatDoor.U
set_option linter.unusedVariables false
set_option linter.unusedSimpArgs false
set_option linter.unusedSectionVars false

theorem atM_no {c : UInt8} (r : Bs) (h : c ≠ 36) : atM (c :: r) = none := by
  cases r with
  | nil => rfl
  | cons d r => simp [atM, h]
theorem scan_bare (f : Bs → Ans) (env : Env) : ∀ (l r : Bs), (∀ c ∈ l, c ≠ 36) → scan f env (l ++ r) 0 = (scan f env r 0).map (fun p => (l ++ p.1, p.2))
  | [], r, _ => by cases h : scan f env r 0 <;> simp [h]
  | c :: l, r, h => by
    have ih := scan_bare f env l r (fun c hc => h c (List.mem_cons_of_mem _ hc))
    rw [List.cons_append, scan, atM_no _ (h c (by simp))]
    simp only [ih]
    cases h : scan f env r 0 <;> simp
/-! ### names -/
def isN (c : UInt8) : Bool := isL c || isD c
/-- a name: a letter ahead, letters and digits behind -/
def Name (l : Bs) : Prop := (∃ c r, l = c :: r ∧ isL c = true) ∧ ∀ c ∈ l, isN c = true
theorem letN_L {c : UInt8} (r : Bs) (h : isL c = true) : letN (c :: r) = 1 := by simp [letN, h]
theorem charN_N {c : UInt8} (r : Bs) (h : isN c = true) : charN (c :: r) = 1 := by
  unfold isN at h
  cases hl : isL c
  · have hd : isD c = true := by simpa [hl] using h
    have h0 : letN (c :: r) = 0 := by
      have hlt : c.toNat ≤ 57 := by
        simp [isD] at hd
        have := UInt8.le_iff_toNat_le.1 hd.2
        simpa using this
      have a : (c == 0xc5) = false := by
        rw [beq_eq_false_iff_ne]; rintro rfl; simp at hlt
      have b : (c == 0xe2) = false := by
        rw [beq_eq_false_iff_ne]; rintro rfl; simp at hlt
      simp [letN, hl, a, b]
    simp [charN, h0, hd]
  · simp [charN, letN_L r hl]
/-- what ends a name: no letter, no digit, no byte beyond ASCII -/
def stops (c : UInt8) : Prop := isN c = false ∧ c.toNat < 128
theorem charN_stop {c : UInt8} (r : Bs) (h : stops c) : charN (c :: r) = 0 := by
  obtain ⟨h1, h2⟩ := h
  unfold isN at h1
  have hl : isL c = false := by cases e : isL c <;> simp [e] at h1 ⊢
  have hd : isD c = false := by cases e : isD c <;> simp [e] at h1 ⊢
  have a : (c == 0xc5) = false := by
    rw [beq_eq_false_iff_ne]; rintro rfl; simp at h2
  have b : (c == 0xe2) = false := by
    rw [beq_eq_false_iff_ne]; rintro rfl; simp at h2
  simp [charN, letN, hl, hd, a, b]
theorem more_name : ∀ (l r : Bs), (∀ c ∈ l, isN c = true) → more (l ++ r) 0 = l.length + more r 0
  | [], r, _ => by simp
  | c :: l, r, h => by
    have ih := more_name l r (fun c hc => h c (List.mem_cons_of_mem _ hc))
    rw [List.cons_append, more, charN_N _ (h c (by simp))]
    simp [ih]
    omega
theorem more_stop {c : UInt8} (r : Bs) (h : stops c) : more (c :: r) 0 = 0 := by rw [more, charN_stop r h]; simp
theorem nameN_name {l r : Bs} (h : Name l) (hr : more r 0 = 0) : nameN (l ++ r) = l.length := by
  obtain ⟨⟨c, q, rfl, hc⟩, h2⟩ := h
  have h3 := more_name (c :: q) r h2
  unfold nameN
  rw [h3, hr, List.cons_append, letN_L _ hc]
  simp
theorem nameN_stop {c : UInt8} (r : Bs) (h : stops c) : nameN (c :: r) = 0 := by
  have := charN_stop r h
  unfold charN at this
  unfold nameN
  by_cases e : letN (c :: r) = 0
  · rw [if_pos e]
  · simp [e] at this
theorem name_pos {l : Bs} (h : Name l) : 0 < l.length := by obtain ⟨⟨c, q, rfl, _⟩, _⟩ := h; simp
theorem isN_ne {c d : UInt8} (h : isN c = true) (hd : isN d = false) : c ≠ d := fun e => by rw [e, hd] at h; cases h
theorem scan_skip (f : Bs → Ans) (env : Env) : ∀ (l r : Bs), scan f env (l ++ r) l.length = scan f env r 0
  | [], r => rfl
  | c :: l, r => by rw [List.cons_append, List.length_cons, scan, scan_skip f env l r]
end Go.Proofs.YtlncdacoefoldaaGreatDoor.U
