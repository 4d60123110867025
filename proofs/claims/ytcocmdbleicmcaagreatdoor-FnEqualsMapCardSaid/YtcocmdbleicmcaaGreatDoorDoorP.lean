/- The doors of the maps' laws: []string, []spec.Pair, []spec.Opt; the table of spaces. -/
import Derived.Test.YtcocmdbleicmcaaGreatDoorDoor
import Derived.Lib.AppendIntMem
import Derived.Test.YtcocmdbleicmcaaGreatDoorAwake
namespace Go.Proofs.YtcocmdbleicmcaaGreatDoor.L
set_option linter.unusedVariables false
set_option linter.unusedSimpArgs false
set_option linter.unusedSectionVars false
open Go.RowKit Go.Proofs.YtcocmdbleicmcaaGreatDoorW.PrintWords Go.Proofs.YtcocmdbleicmcaaGreatDoorW.PrintLast Go.Proofs.YtcocmdbleicmcaaGreatDoor.PX
open Go.ChangeShapes Go.WideShapes Go.ChangeAt

theorem hel_pair {H : Type} {enc : TypeId × Value → H} {W : World} (n : Nat) (cs : List Value) (y : DataW H × List MemPlace) (h : DataW.trod enc Tryz.prog W 0 (fun _ => true) true n 52 cs = some y) : ∃ x : S52, k52.K W x cs := by
  obtain ⟨y0, y1, m, _, hl, h0, h1⟩ := trod_struct2 Tryz.underlying52 h
  replace hl : cs.length = 2 := hl.trans (by kernel_rfl)
  obtain ⟨s0, e0, _⟩ := DataW.trod_string Tryz.underlying9 h0
  obtain ⟨s1, e1, _⟩ := DataW.trod_string Tryz.underlying9 h1
  have hc : Tryz.prog.cellsOf 9 = 1 := by kernel_rfl
  replace e0 : (cs.drop 0).take 1 = [.string s0] := (congrArg (fun n => (cs.drop 0).take n) hc.symm).trans e0
  replace e1 : (cs.drop 1).take 1 = [.string s1] := (congrArg (fun n => (cs.drop 1).take n) hc.symm).trans e1
  clear h h0 h1 hc
  match cs, hl with
  | [a, b], _ =>
    simp at e0 e1
    subst e0; subst e1
    exact ⟨⟨s0, s1⟩, k52_mk _ _⟩
theorem tab_of_laid {W : World} {laid : List (String × DataW Unit)} {ps : List MemPlace} (h : DataW.LaidVars Tryz.prog W laid ps) (hm : ("strings.asciiSpace", (Lib.tabData .u8 Lib.asciiSpaceTab : DataW Unit)) ∈ laid) : Lib.TabIs Tryz.prog W "strings.asciiSpace" .u8 Lib.asciiSpaceTab :=
  tabIs_of_laid (g := (Tryz.prog.globalNamed "strings.asciiSpace").getD 0) (t := ((Tryz.prog.globals[(Tryz.prog.globalNamed "strings.asciiSpace").getD 0]?).map (·.type)).getD 0) (by kernel_rfl) (by kernel_rfl) (n := 256) (e := 5) (by kernel_rfl) (by kernel_rfl) (by kernel_rfl) (by kernel_rfl) h hm
end Go.Proofs.YtcocmdbleicmcaaGreatDoor.L
