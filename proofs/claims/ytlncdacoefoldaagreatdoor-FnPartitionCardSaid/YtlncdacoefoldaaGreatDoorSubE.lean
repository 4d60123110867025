/- Plain laws of the package's substitution: texts without dollars, doubled dollars, a variable without braces. No program in sight. -/
import Derived.Test.YtlncdacoefoldaaGreatDoorSubM
namespace Go.Proofs.YtlncdacoefoldaaGreatDoor.U
set_option linter.unusedVariables false
set_option linter.unusedSimpArgs false
set_option linter.unusedSectionVars false

theorem atM_no {c : UInt8} (r : Bs) (h : c ≠ 36) : atM (c :: r) = none := by
  cases r with
  | nil => rfl
  | cons d r => simp [atM, h]
/-! ### names -/
end Go.Proofs.YtlncdacoefoldaaGreatDoor.U
