/- sort.Strings of a row of one's own, and so: everything that the package may tell comes back. -/
import Derived.Test.YtiamiagjkfioiaaGreatDoorFromA
import Derived.Test.YtiamiagjkfioiaaGreatDoorStrs
namespace Go.Proofs.YtiamiagjkfioiaaGreatDoor.A
set_option linter.unusedVariables false
set_option linter.unusedSimpArgs false
set_option linter.unusedSectionVars false
open Go.RowKit Go.Proofs.YtiamiagjkfioiaaGreatDoorW.PrintWords Go.Proofs.YtiamiagjkfioiaaGreatDoorW.PrintLast Go.Proofs.YtiamiagjkfioiaaGreatDoorW.PrintMore Go.Proofs.YtiamiagjkfioiaaGreatDoor.PT Go.Proofs.YtiamiagjkfioiaaGreatDoor.SM Go.Proofs.YtiamiagjkfioiaaGreatDoor.L

theorem sortC : SortC := fun v l base W hr hl => by
  refine (Srt.strings_own (P := Tryz.prog) Tryz.lays192 (Srt.ownS hr) (by omega)).mono ?_
  rintro en w' ⟨rfl, ho, hg⟩
  exact ⟨rfl, Srt.kdS ho, hg⟩
end Go.Proofs.YtiamiagjkfioiaaGreatDoor.A
