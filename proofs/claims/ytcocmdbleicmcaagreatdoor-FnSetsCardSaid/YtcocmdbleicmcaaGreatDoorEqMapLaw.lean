/- The walks of spec.Listed, spec.Sorted, impl.StringList, impl.EqualsMap and laws.FnEqualsMap. -/
import Derived.Test.YtcocmdbleicmcaaGreatDoorStrList
import Derived.Test.YtcocmdbleicmcaaGreatDoorAwake
import Derived.Test.YtcocmdbleicmcaaGreatDoorDistinct
namespace Go.Proofs.YtcocmdbleicmcaaGreatDoor.M
set_option linter.unusedVariables false
set_option linter.unusedSimpArgs false
set_option linter.unusedSectionVars false
open Go.RowKit Go.Proofs.YtcocmdbleicmcaaGreatDoorW.PrintWords Go.Proofs.YtcocmdbleicmcaaGreatDoorW.PrintLast Go.Proofs.YtcocmdbleicmcaaGreatDoor.PX Go.Proofs.YtcocmdbleicmcaaGreatDoor.SM

set_option maxHeartbeats 4000000 in
set_option maxRecDepth 100000 in
theorem spec_Sorted (A0 : Option Addr) (c0 : Nat) (l0 : List ByteArray) (w : World) (hr0 : Kd.C Kd.string w A0 l0.length l0) (hc0 : l0.length ≤ c0) (hl : l0.length ≤ 1099511627776) :
    Calls Tryz.prog 40 #[.slice A0 l0.length c0] w fun e w' => ∃ v, e = .returned v ∧ Kd.R Kd.string 9 w' w.heap.size (fun _ => True) v (Ord.sortS l0) ∧ Below w.heap.size w w' := by
  have HR0 := Aside0.mk hr0
  have HC0 := Aside0.mk hc0
  clear hr0 hc0
  go_enter Tryz.func40, Tryz.ntmps40
  go_wp2_with (go_at_call 76; refine (spec_mapsSorted A0 c0 l0 _ HR0.out HC0.out hl).mono ?_; rintro e w1 ⟨v, rfl, ho, hb⟩; have HO := Aside0.mk ho; have HB := Aside0.mk hb; clear ho hb)
  go_ret
  exact ⟨v, rfl, HO.out, HB.out⟩
end Go.Proofs.YtcocmdbleicmcaaGreatDoor.M
