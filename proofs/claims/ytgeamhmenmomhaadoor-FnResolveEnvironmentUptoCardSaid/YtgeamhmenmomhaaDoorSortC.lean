/- sort.Strings of a row of one's own, and so: everything that the package may tell comes back. -/
import Derived.Test.YtgeamhmenmomhaaDoorFromA
import Derived.Test.YtgeamhmenmomhaaDoorStrs
namespace Go.Proofs.YtgeamhmenmomhaaDoor.A
set_option linter.unusedVariables false
set_option linter.unusedSimpArgs false
set_option linter.unusedSectionVars false
open Go.RowKit Go.Proofs.YtgeamhmenmomhaaDoorW.PrintWords Go.Proofs.YtgeamhmenmomhaaDoorW.PrintLast Go.Proofs.YtgeamhmenmomhaaDoorW.PrintMore Go.Proofs.YtgeamhmenmomhaaDoor.PT Go.Proofs.YtgeamhmenmomhaaDoor.SM Go.Proofs.YtgeamhmenmomhaaDoor.L

theorem sortC : SortC := fun v l base W hr hl => by
  refine (Srt.strings_own (P := Tryd.prog) Tryd.lays192 (Srt.ownS hr) (by omega)).mono ?_
  rintro en w' ⟨rfl, ho, hg⟩
  exact ⟨rfl, Srt.kdS ho, hg⟩
end Go.Proofs.YtgeamhmenmomhaaDoor.A
