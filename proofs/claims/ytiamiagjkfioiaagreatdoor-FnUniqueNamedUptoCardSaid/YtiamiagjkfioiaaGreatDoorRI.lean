/- What a value of the thin package holds, all its rows at or behind a block. No statement. -/
import Derived.Test.YtiamiagjkfioiaaGreatDoorRV
import Derived.Test.YtiamiagjkfioiaaGreatDoorAny
namespace Go.Proofs.YtiamiagjkfioiaaGreatDoor.A
set_option linter.unusedVariables false
set_option linter.unusedSimpArgs false
set_option linter.unusedSectionVars false
open Go.RowKit Go.Proofs.YtiamiagjkfioiaaGreatDoorW.PrintWords Go.Proofs.YtiamiagjkfioiaaGreatDoorW.PrintLast Go.Proofs.YtiamiagjkfioiaaGreatDoorW.PrintMore Go.Proofs.YtiamiagjkfioiaaGreatDoor.PT Go.Proofs.YtiamiagjkfioiaaGreatDoor.L Go.Proofs.YtiamiagjkfioiaaGreatDoor.SM

/-- what a value's cells hold -/
inductive DeepI (lo : Nat) (w : World) : IV → RV → Prop
  | mk {x : IV} {r : RV} {rs : List RV} (h0 : r.n0 = x.f0) (h1 : r.n1 = x.f1) (h2 : r.t = x.f2) (h3 : r.an = x.f3.length) (h3c : r.an ≤ r.ac) (h3k : Kd.C Kd.string w r.A x.f3.length x.f3) (h3f : Fr lo r.A)
      (h4 : r.bn = x.f4.length) (h4c : r.bn ≤ r.bc) (h4l : rs.length = x.f4.length) (h4k : Kd.C kR w r.B rs.length rs) (h4f : Fr lo r.B)
      (he : ∀ (i : Nat) (q1 : i < x.f4.length) (q2 : i < rs.length), DeepI lo w (x.f4[i]'q1) (rs[i]'q2)) : DeepI lo w x r
theorem DeepI.kept {lo : Nat} {w w' : World} {x : IV} {r : RV} (h : DeepI lo w x r) (hb : ∀ k, lo ≤ k → k < w.heap.size → w'.heap[k]? = w.heap[k]?) : DeepI lo w' x r := by
  induction h with
  | mk h0 h1 h2 h3 h3c h3k h3f h4 h4c h4l h4k h4f he ih =>
    exact .mk h0 h1 h2 h3 h3c (kd_move h3k (fun _ _ q => q) (fun ad e hlt => hb _ (h3f ad e) hlt)) h3f h4 h4c h4l (kd_move h4k (fun _ _ q => q) (fun ad e hlt => hb _ (h4f ad e) hlt)) h4f ih
theorem DeepI.below_ {lo : Nat} {w w' : World} {x : IV} {r : RV} (h : DeepI lo w x r) (hb : Below w.heap.size w w') : DeepI lo w' x r := h.kept (fun k _ hk => hb.block k hk)
theorem DeepI.lower {lo lo' : Nat} {w : World} {x : IV} {r : RV} (h : DeepI lo w x r) (hl : lo' ≤ lo) : DeepI lo' w x r := by
  induction h with
  | mk h0 h1 h2 h3 h3c h3k h3f h4 h4c h4l h4k h4f he ih => exact .mk h0 h1 h2 h3 h3c h3k (h3f.lower hl) h4 h4c h4l h4k (h4f.lower hl) ih
/-- all parts of a value, as the print has them -/
theorem DeepI.kI {lo : Nat} {w : World} {x : IV} {r : RV} (h : DeepI lo w x r) : kI.K w x r.cs := by
  induction h with
  | @mk x r rs h0 h1 h2 h3 h3c h3k h3f h4 h4c h4l h4k h4f he ih =>
    have hC : Kd.C A.kI w r.B x.f4.length x.f4 := by
      obtain ⟨q1, q2, q3⟩ := h4k
      refine ⟨rfl, by rw [← h4l]; exact q2, fun hp => ?_⟩
      obtain ⟨ad, e, hc⟩ := q3 (by omega)
      refine ⟨ad, e, fun j p hj => ?_⟩
      have hj1 : j < x.f4.length := by
        rcases Nat.lt_or_ge j x.f4.length with q | q
        · exact q
        · rw [List.getElem?_eq_none q] at hj; cases hj
      have hj2 : j < rs.length := by omega
      obtain ⟨cs, ha, hb, hcc⟩ := hc j (rs[j]'hj2) (List.getElem?_eq_getElem hj2)
      have ep : p = x.f4[j]'hj1 := by rw [List.getElem?_eq_getElem hj1] at hj; injection hj with hj; exact hj.symm
      refine ⟨cs, ha, ?_, hcc⟩
      rw [ep, hb]
      exact ih j hj1 hj2
    have := k34_mk w x (c3 := r.ac) (A3 := r.A) (c4 := r.bc) (A4 := r.B) (by omega) h3k (by omega) hC
    unfold RV.cs
    rw [h0, h1, h2, h3, h4]
    exact this
end Go.Proofs.YtiamiagjkfioiaaGreatDoor.A
