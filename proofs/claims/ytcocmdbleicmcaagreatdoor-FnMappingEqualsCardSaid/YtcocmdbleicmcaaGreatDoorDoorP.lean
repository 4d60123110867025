/- The doors of the maps' laws: []string, []spec.Pair, []spec.Opt; the table of spaces. -/
import Derived.Test.YtcocmdbleicmcaaGreatDoorDoor
import Derived.Lib.AppendIntMem
import Derived.Test.YtcocmdbleicmcaaGreatDoorAwake
namespace Go.Proofs.YtcocmdbleicmcaaGreatDoor.L
set_option linter.unusedVariables false
set_option linter.unusedSimpArgs false
set_option linter.unusedSectionVars false
open Go.RowKit Go.Proofs.YtcocmdbleicmcaaGreatDoorW.PrintWords Go.Proofs.YtcocmdbleicmcaaGreatDoorW.PrintLast Go.Proofs.YtcocmdbleicmcaaGreatDoor.PX
open Go.ChangeShapes Go.WideShapes Go.ChangeAt

theorem hel_string {H : Type} {enc : TypeId × Value → H} {W : World} (n : Nat) (cs : List Value) (y : DataW H × List MemPlace) (h : DataW.trod enc Tryz.prog W 0 (fun _ => true) true n 9 cs = some y) : ∃ x : ByteArray, Kd.string.K W x cs := by
  obtain ⟨s0, e0, _⟩ := DataW.trod_string Tryz.underlying9 h
  exact ⟨s0, e0⟩
theorem tab_of_laid {W : World} {laid : List (String × DataW Unit)} {ps : List MemPlace} (h : DataW.LaidVars Tryz.prog W laid ps) (hm : ("strings.asciiSpace", (Lib.tabData .u8 Lib.asciiSpaceTab : DataW Unit)) ∈ laid) : Lib.TabIs Tryz.prog W "strings.asciiSpace" .u8 Lib.asciiSpaceTab :=
  tabIs_of_laid (g := (Tryz.prog.globalNamed "strings.asciiSpace").getD 0) (t := ((Tryz.prog.globals[(Tryz.prog.globalNamed "strings.asciiSpace").getD 0]?).map (·.type)).getD 0) (by kernel_rfl) (by kernel_rfl) (n := 256) (e := 5) (by kernel_rfl) (by kernel_rfl) (by kernel_rfl) (by kernel_rfl) h hm
end Go.Proofs.YtcocmdbleicmcaaGreatDoor.L
