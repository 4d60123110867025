/- The doors of the laws' arguments: []string, []spec.Pair. -/
import Derived.Test.YtlncdacoefoldaaGreatDoorDoor
import Derived.Lib.AppendIntMem
namespace Go.Proofs.YtlncdacoefoldaaGreatDoor.L
set_option linter.unusedVariables false
set_option linter.unusedSimpArgs false
set_option linter.unusedSectionVars false
open Go.RowKit Go.Proofs.YtlncdacoefoldaaGreatDoorW.PrintWords Go.Proofs.YtlncdacoefoldaaGreatDoorW.PrintLast Go.Proofs.YtlncdacoefoldaaGreatDoor.PX
open Go.ChangeShapes Go.WideShapes Go.ChangeAt

theorem hel_string {H : Type} {enc : TypeId × Value → H} {W : World} (n : Nat) (cs : List Value) (y : DataW H × List MemPlace) (h : DataW.trod enc Tryz.prog W 0 (fun _ => true) true n 9 cs = some y) : ∃ x : ByteArray, Kd.string.K W x cs := by
  obtain ⟨s0, e0, _⟩ := DataW.trod_string Tryz.underlying9 h
  exact ⟨s0, e0⟩
theorem hel_pair {H : Type} {enc : TypeId × Value → H} {W : World} (n : Nat) (cs : List Value) (y : DataW H × List MemPlace) (h : DataW.trod enc Tryz.prog W 0 (fun _ => true) true n 59 cs = some y) : ∃ x : S59, k59.K W x cs := by
  obtain ⟨y0, y1, m, _, hl, h0, h1⟩ := trod_struct2 Tryz.underlying59 h
  replace hl : cs.length = 2 := hl.trans (by kernel_rfl)
  obtain ⟨s0, e0, _⟩ := DataW.trod_string Tryz.underlying9 h0
  obtain ⟨s1, e1, _⟩ := DataW.trod_string Tryz.underlying9 h1
  have hc : Tryz.prog.cellsOf 9 = 1 := by kernel_rfl
  replace e0 : (cs.drop 0).take 1 = [.string s0] := (congrArg (fun n => (cs.drop 0).take n) hc.symm).trans e0
  replace e1 : (cs.drop 1).take 1 = [.string s1] := (congrArg (fun n => (cs.drop 1).take n) hc.symm).trans e1
  clear h h0 h1 hc
  match cs, hl with
  | [a, b], _ =>
    simp at e0 e1
    subst e0; subst e1
    exact ⟨⟨s0, s1⟩, k59_mk _ _⟩
end Go.Proofs.YtlncdacoefoldaaGreatDoor.L
