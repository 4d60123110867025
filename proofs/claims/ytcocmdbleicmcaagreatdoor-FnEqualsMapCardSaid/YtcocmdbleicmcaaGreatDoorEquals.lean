/- The walks of impl.equals and types.MappingWithEquals.OverrideBy. -/
import Derived.Test.YtcocmdbleicmcaaGreatDoorOpts
namespace Go.Proofs.YtcocmdbleicmcaaGreatDoor.M
set_option linter.unusedVariables false
set_option linter.unusedSimpArgs false
set_option linter.unusedSectionVars false
open Go.RowKit Go.Proofs.YtcocmdbleicmcaaGreatDoorW.PrintWords Go.Proofs.YtcocmdbleicmcaaGreatDoorW.PrintLast Go.Proofs.YtcocmdbleicmcaaGreatDoor.PX Go.Proofs.YtcocmdbleicmcaaGreatDoor.SM

theorem Held.below {w w1 : World} {m : List (ByteArray × PO)} (h : Held w m) (hb : Below w.heap.size w w1) : Held w1 m := fun k a s hm => by
  have := h k a s hm
  exact (hb.cell (World.block_lt_of_cell? w _ this)).trans this
end Go.Proofs.YtcocmdbleicmcaaGreatDoor.M
