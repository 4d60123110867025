/- Plain laws of the package's substitution: texts without dollars, doubled dollars, a variable without braces. No program in sight. -/
import Derived.Test.YtlncdacoefoldaaGreatDoorSubM
namespace Go.Proofs.YtlncdacoefoldaaGreatDoor.U
set_option linter.unusedVariables false
set_option linter.unusedSimpArgs false
set_option linter.unusedSectionVars false

theorem atM_no {c : UInt8} (r : Bs) (h : c ≠ 36) : atM (c :: r) = none := by
  cases r with
  | nil => rfl
  | cons d r => simp [atM, h]
theorem atM_two (r : Bs) : atM (36 :: 36 :: r) = some ⟨[36, 36], [36], [], [], []⟩ := by simp [atM]
def dbl : Bs → Bs
  | [] => []
  | c :: r => if c = 36 then 36 :: 36 :: dbl r else c :: dbl r
theorem repl_two (f : Bs → Ans) (env : Env) : repl f env [36, 36] = some ([36], none) := by
  have h1 : fb [36, 36] 0 false = none := by decide
  have h2 : find [36, 36] = some ⟨[36, 36], [36], [], [], []⟩ := by decide
  simp [repl, h1, h2]
theorem scan_dbl (f : Bs → Ans) (env : Env) : ∀ l, scan f env (dbl l) 0 = some (l, none)
  | [] => rfl
  | c :: r => by
    have ih := scan_dbl f env r
    unfold dbl
    by_cases h : c = 36
    · subst h
      rw [if_pos rfl, scan, atM_two]
      simp only [repl_two]
      rw [show ([36, 36] : Bs).length - 1 = 0 + 1 from rfl, scan, ih]
      rfl
    · rw [if_neg h, scan, atM_no _ h]
      simp only [ih]
theorem sub_dbl (env : Env) (n : Nat) (l : Bs) (h : l.length ≤ LIM) : sub env (n + 1) (dbl l) = some (l, none) := by
  rw [sub, scan_dbl]
  simp [h]
/-! ### names -/
end Go.Proofs.YtlncdacoefoldaaGreatDoor.U
