/- Plain: the loops of pairsTo, pairsFrom, samePairs and zzFits3, and what a merge has. -/
import Derived.Test.YtcocmdbleicmcaaGreatDoorTold
import Derived.Test.YtcocmdbleicmcaaGreatDoorFitP
import Derived.Test.YtcocmdbleicmcaaGreatDoorMapA
import Derived.Test.YtcocmdbleicmcaaGreatDoorPXx3
import Derived.Test.YtcocmdbleicmcaaGreatDoorPXx4
import Derived.Test.YtcocmdbleicmcaaGreatDoorPXx5
namespace Go.Proofs.YtcocmdbleicmcaaGreatDoor.M
set_option linter.unusedVariables false
set_option linter.unusedSimpArgs false
set_option linter.unusedSectionVars false
open Go.RowKit Go.Proofs.YtcocmdbleicmcaaGreatDoorW.PrintWords Go.Proofs.YtcocmdbleicmcaaGreatDoorW.PrintLast Go.Proofs.YtcocmdbleicmcaaGreatDoor.PX

theorem wrapS (i : Nat) (h : i < 4611686018427387904) : wrap64 ((i : Int) + 1) = ((i + 1 : Nat) : Int) := by unfold wrap64; omega
open Go.Proofs.YtcocmdbleicmcaaGreatDoor.Ord (lastOf)
open SM
end Go.Proofs.YtcocmdbleicmcaaGreatDoor.M
