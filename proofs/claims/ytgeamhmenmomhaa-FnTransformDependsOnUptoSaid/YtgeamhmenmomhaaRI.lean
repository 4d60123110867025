/- What a value of the thin package holds, all its rows at or behind a block. No statement. -/
import Derived.Test.YtgeamhmenmomhaaRV
import Derived.Test.YtgeamhmenmomhaaAny
namespace Go.Proofs.Ytgeamhmenmomhaa.A
set_option linter.unusedVariables false
set_option linter.unusedSimpArgs false
set_option linter.unusedSectionVars false
open Go.RowKit Go.Proofs.YtgeamhmenmomhaaW.PrintWords Go.Proofs.YtgeamhmenmomhaaW.PrintLast Go.Proofs.YtgeamhmenmomhaaW.PrintMore Go.Proofs.Ytgeamhmenmomhaa.PT Go.Proofs.Ytgeamhmenmomhaa.L Go.Proofs.Ytgeamhmenmomhaa.SM

/-- what a value's cells hold -/
inductive DeepI (lo : Nat) (w : World) : IV → RV → Prop
  | mk {x : IV} {r : RV} {rs : List RV} (h0 : r.n0 = x.f0) (h1 : r.n1 = x.f1) (h2 : r.t = x.f2) (h3 : r.an = x.f3.length) (h3c : r.an ≤ r.ac) (h3k : Kd.C Kd.string w r.A x.f3.length x.f3) (h3f : Fr lo r.A)
      (h4 : r.bn = x.f4.length) (h4c : r.bn ≤ r.bc) (h4l : rs.length = x.f4.length) (h4k : Kd.C kR w r.B rs.length rs) (h4f : Fr lo r.B)
      (he : ∀ (i : Nat) (q1 : i < x.f4.length) (q2 : i < rs.length), DeepI lo w (x.f4[i]'q1) (rs[i]'q2)) : DeepI lo w x r
end Go.Proofs.Ytgeamhmenmomhaa.A
