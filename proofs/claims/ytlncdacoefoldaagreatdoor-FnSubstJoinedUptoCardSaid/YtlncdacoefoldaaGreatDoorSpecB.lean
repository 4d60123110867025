/- Plain: what the specification says of a text depends on the variables alone whose names occur in it. No program in sight. -/
import Derived.Test.YtlncdacoefoldaaGreatDoorSpecJ
namespace Go.Proofs.YtlncdacoefoldaaGreatDoor.U
set_option linter.unusedVariables false
set_option linter.unusedSimpArgs false
set_option linter.unusedSectionVars false

theorem subS_scan {env : Env} {m : Nat} {t r : Bs} (h : subS env (m + 1) t = some (r, none)) : scanS (subS env m) env t 0 none = some (r, none) := by
  rw [subS] at h
  cases hs : scanS (subS env m) env t 0 none with
  | none => rw [hs] at h; cases h
  | some p =>
    obtain ⟨p1, p2⟩ := p
    rw [hs] at h
    cases p2 with
    | none => simpa using h
    | some c => simp at h
end Go.Proofs.YtlncdacoefoldaaGreatDoor.U
