/- What the bound of an Upto statement gives: strings that are read are small. No statement. -/
import Derived.Test.YtgeamhmenmomhaaLaw
import Derived.Test.YtgeamhmenmomhaaRows
namespace Go.Proofs.Ytgeamhmenmomhaa.L
set_option linter.unusedVariables false
set_option linter.unusedSimpArgs false
set_option linter.unusedSectionVars false
open Go.RowKit Go.ChangeShapes Go.WideShapes Go.ChangeAt

theorem bulk_all {H : Type} {l : List (DataW H)} (hk : Rows.uptoSmall H l = true) : Rows.uptoBulkAll l ≤ 1048576 := by
  simpa [Rows.uptoSmall] using hk
end Go.Proofs.Ytgeamhmenmomhaa.L
