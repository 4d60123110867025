/- Plain: the loops over options; what an override has. The walk of spec.Override. -/
import Derived.Test.YtcocmdbleicmcaaGreatDoorOverr
import Derived.Test.YtcocmdbleicmcaaGreatDoorPairs
import Derived.Test.YtcocmdbleicmcaaGreatDoorPXx3
import Derived.Test.YtcocmdbleicmcaaGreatDoorPXx4
namespace Go.Proofs.YtcocmdbleicmcaaGreatDoor.M
set_option linter.unusedVariables false
set_option linter.unusedSimpArgs false
set_option linter.unusedSectionVars false
open Go.RowKit Go.Proofs.YtcocmdbleicmcaaGreatDoorW.PrintWords Go.Proofs.YtcocmdbleicmcaaGreatDoorW.PrintLast Go.Proofs.YtcocmdbleicmcaaGreatDoor.PX

open Go.Proofs.YtcocmdbleicmcaaGreatDoor.Ord (lastOf)
open SM
theorem lastOf_mem {α : Type} {key : α → ByteArray} {l : List α} {k : ByteArray} {p : α} (h : lastOf key l k = some p) : p ∈ l := by
  induction l using Ord.snocRec with
  | nil => simp [lastOf] at h
  | snoc l x ih =>
    rw [Ord.lastOf_snoc] at h
    split at h
    · injection h with h; simp [h]
    · exact List.mem_append_left _ (ih h)
end Go.Proofs.YtcocmdbleicmcaaGreatDoor.M
