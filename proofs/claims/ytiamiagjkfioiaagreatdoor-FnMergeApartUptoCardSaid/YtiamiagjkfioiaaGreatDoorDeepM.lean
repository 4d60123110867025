/- A made value's cells, all the way down. Plain. -/
import Derived.Test.YtiamiagjkfioiaaGreatDoorFit
namespace Go.Proofs.YtiamiagjkfioiaaGreatDoor.A
set_option linter.unusedVariables false
set_option linter.unusedSimpArgs false
set_option linter.unusedSectionVars false
open Go.RowKit Go.Proofs.YtiamiagjkfioiaaGreatDoorW.PrintWords Go.Proofs.YtiamiagjkfioiaaGreatDoorW.PrintLast Go.Proofs.YtiamiagjkfioiaaGreatDoorW.PrintMore Go.Proofs.YtiamiagjkfioiaaGreatDoor.PT Go.Proofs.YtiamiagjkfioiaaGreatDoor.L Go.Proofs.YtiamiagjkfioiaaGreatDoor.SM

theorem DeepP.rows {P : Nat → Prop} {w : World} {x : SV} {r : RV} (h : DeepP P w x r) : ∃ rs : List RV, r.n0 = x.f0 ∧ r.n1 = x.f1 ∧ r.t = x.f2 ∧ r.an = x.f3.length ∧ r.an ≤ r.ac ∧ Kd.C Kd.string w r.A x.f3.length x.f3 ∧ r.bn = x.f4.length ∧ r.bn ≤ r.bc ∧ Kd.C kR w r.B rs.length rs ∧ All2 (DeepP P w) x.f4 rs := by
  cases h with
  | @mk _ _ rs h0 h1 h2 h3 h3c h3k h3f h4 h4c h4l h4k h4f he => exact ⟨rs, h0, h1, h2, h3, h3c, h3k, h4, h4c, h4k, h4l.symm, he⟩
end Go.Proofs.YtiamiagjkfioiaaGreatDoor.A
