/- The walk of laws.partIs, of any transform that answers; the law on secrets. -/
import Derived.Test.YtadcdjiahekkgaaTrans
namespace Go.Proofs.Ytadcdjiahekkgaa.A
set_option linter.unusedVariables false
set_option linter.unusedSimpArgs false
set_option linter.unusedSectionVars false
open Go.RowKit Go.Proofs.YtadcdjiahekkgaaW.PrintWords Go.Proofs.YtadcdjiahekkgaaW.PrintLast Go.Proofs.YtadcdjiahekkgaaW.PrintMore Go.Proofs.Ytadcdjiahekkgaa.PT Go.Proofs.Ytadcdjiahekkgaa.L Go.Proofs.Ytadcdjiahekkgaa.SM

/-- a transform, as a function's number -/
def Turns (f : FuncId) (g : Bool) (y z : IV) : Prop := ∀ (w : World) (v : Value), MadeI y w v → Calls Try.prog f #[v, .bool g] w fun e w' => (∃ u, e = .returned (.tuple #[u, .bool true]) ∧ MadeI z w' u) ∧ Below w.heap.size w w'
theorem Turns.use {f : FuncId} {g : Bool} {y z : IV} (h : Turns f g y z) {w : World} {v : Value} (hv : MadeI y w v) : Calls Try.prog f #[v, .bool g] w fun e w' => (∃ u, e = .returned (.tuple #[u, .bool true]) ∧ MadeI z w' u) ∧ Below w.heap.size w w' := h w v hv
end Go.Proofs.Ytadcdjiahekkgaa.A
