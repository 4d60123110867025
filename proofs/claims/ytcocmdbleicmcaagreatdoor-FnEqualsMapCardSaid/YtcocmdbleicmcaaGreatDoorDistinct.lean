/- The walks of utils.RemoveDuplicates and utils.ArrayContains, and of laws.FnDistinct. -/
import Derived.Test.YtcocmdbleicmcaaGreatDoorAwake
import Derived.Test.YtcocmdbleicmcaaGreatDoorShelf
import Derived.Test.YtcocmdbleicmcaaGreatDoorPairs
import Derived.Test.YtcocmdbleicmcaaGreatDoorDoor
import Derived.Test.YtcocmdbleicmcaaGreatDoorPXx3
import Derived.Test.YtcocmdbleicmcaaGreatDoorPXx5
namespace Go.Proofs.YtcocmdbleicmcaaGreatDoor.M
set_option linter.unusedVariables false
set_option linter.unusedSimpArgs false
set_option linter.unusedSectionVars false
open Go.RowKit Go.Proofs.YtcocmdbleicmcaaGreatDoorW.PrintWords Go.Proofs.YtcocmdbleicmcaaGreatDoorW.PrintLast Go.Proofs.YtcocmdbleicmcaaGreatDoor.PX Go.Proofs.YtcocmdbleicmcaaGreatDoor.SM

/-! ### plain -/
theorem sameT_l0 (l : List ByteArray) (hl : l.length < 4398046511104) : ∀ n i, n = l.length - i → i ≤ l.length → laws_sameTexts.l0 (n + 1) l l (i : Int) = some true
  | 0, i, h, hi => by
    obtain rfl : i = l.length := by omega
    rw [laws_sameTexts.l0, if_neg (by omega)]
  | n + 1, i, h, hi => by
    rw [laws_sameTexts.l0, if_pos (by omega), if_pos (by omega), if_pos (by omega), if_pos rfl, wrapS i (by omega)]
    exact sameT_l0 l hl n (i + 1) (by omega) (by omega)
theorem sameT_f (l : List ByteArray) (hl : l.length < 4398046511104) : laws_sameTexts.f (l.length + 1) l l = some true := by
  have := sameT_l0 l hl l.length 0 (by omega) (by omega)
  simpa [laws_sameTexts.f] using this
/-! ### slices.Contains -/
/-! ### the walks -/
end Go.Proofs.YtcocmdbleicmcaaGreatDoor.M
