/- sort.Strings of a row of one's own, and so: everything that the package may tell comes back. -/
import Derived.Test.YtgeamhmenmomhaaFromA
import Derived.Test.YtgeamhmenmomhaaStrs
namespace Go.Proofs.Ytgeamhmenmomhaa.A
set_option linter.unusedVariables false
set_option linter.unusedSimpArgs false
set_option linter.unusedSectionVars false
open Go.RowKit Go.Proofs.YtgeamhmenmomhaaW.PrintWords Go.Proofs.YtgeamhmenmomhaaW.PrintLast Go.Proofs.YtgeamhmenmomhaaW.PrintMore Go.Proofs.Ytgeamhmenmomhaa.PT Go.Proofs.Ytgeamhmenmomhaa.SM Go.Proofs.Ytgeamhmenmomhaa.L

theorem sortC : SortC := fun v l base W hr hl => by
  refine (Srt.strings_own (P := Try.prog) Try.lays192 (Srt.ownS hr) (by omega)).mono ?_
  rintro en w' ⟨rfl, ho, hg⟩
  exact ⟨rfl, Srt.kdS ho, hg⟩
theorem fromAny {w : World} {v : AV} {y : IV} (h : FromIs w v y) : FromC v y w := impl_fromAny sortC h w (Below.refl _ _)
end Go.Proofs.Ytgeamhmenmomhaa.A
