/- Contracts of laws.to, laws.from, spec.Same over values of any form; spec.M of texts. -/
import Derived.Test.YtiamiagjkfioiaaGreatDoorTwin
import Derived.Test.YtiamiagjkfioiaaGreatDoorWithL
import Derived.Test.YtiamiagjkfioiaaGreatDoorSortC
import Derived.Test.YtiamiagjkfioiaaGreatDoorValT
namespace Go.Proofs.YtiamiagjkfioiaaGreatDoor.A
set_option linter.unusedVariables false
set_option linter.unusedSimpArgs false
set_option linter.unusedSectionVars false
open Go.RowKit Go.Proofs.YtiamiagjkfioiaaGreatDoorW.PrintWords Go.Proofs.YtiamiagjkfioiaaGreatDoorW.PrintLast Go.Proofs.YtiamiagjkfioiaaGreatDoorW.PrintMore Go.Proofs.YtiamiagjkfioiaaGreatDoor.PT Go.Proofs.YtiamiagjkfioiaaGreatDoor.L Go.Proofs.YtiamiagjkfioiaaGreatDoor.SM

abbrev cellsS (x : SV) (A3 : Option Addr) (c3 : Nat) (A4 : Option Addr) (c4 : Nat) : Value := .agg #[.int .i64 x.f0, .int .i64 x.f1, .string x.f2, .slice A3 x.f3.length c3, .slice A4 x.f4.length c4]
/-- a value that is read -/
def MadeS (x : SV) (w : World) (v : Value) : Prop := ∃ A3 c3 A4 c4, v = cellsS x A3 c3 A4 c4 ∧ x.f3.length ≤ c3 ∧ Kd.C Kd.string w A3 x.f3.length x.f3 ∧ x.f4.length ≤ c4 ∧ Kd.C kS w A4 x.f4.length x.f4
def MadeI (x : IV) (w : World) (v : Value) : Prop := ∃ A3 c3 A4 c4, v = cellsI x A3 c3 A4 c4 ∧ x.f3.length ≤ c3 ∧ Kd.C Kd.string w A3 x.f3.length x.f3 ∧ x.f4.length ≤ c4 ∧ Kd.C kI w A4 x.f4.length x.f4
theorem MadeS.below_ {x : SV} {w w' : World} {v : Value} (h : MadeS x w v) (hb : Below w.heap.size w w') : MadeS x w' v := by
  obtain ⟨A3, c3, A4, c4, e, h3, g3, h4, g4⟩ := h
  exact ⟨A3, c3, A4, c4, e, h3, Kd.C_below g3 hb, h4, Kd.C_below g4 hb⟩
theorem MadeI.below_ {x : IV} {w w' : World} {v : Value} (h : MadeI x w v) (hb : Below w.heap.size w w') : MadeI x w' v := by
  obtain ⟨A3, c3, A4, c4, e, h3, g3, h4, g4⟩ := h
  exact ⟨A3, c3, A4, c4, e, h3, Kd.C_below g3 hb, h4, Kd.C_below g4 hb⟩
theorem Deep.parts {lo : Nat} {w : World} {x : SV} {r : RV} (h : Deep lo w x r) : MadeS x w r.val := by
  cases h with
  | @mk _ _ rs h0 h1 h2 h3 h3c h3k h3f h4 h4c h4l h4k h4f he =>
    have hC : Kd.C A.kS w r.B x.f4.length x.f4 := by
      obtain ⟨q1, q2, q3⟩ := h4k
      refine ⟨rfl, by rw [← h4l]; exact q2, fun hp => ?_⟩
      obtain ⟨ad, e, hc⟩ := q3 (by omega)
      refine ⟨ad, e, fun j p hj => ?_⟩
      have hj1 : j < x.f4.length := by
        rcases Nat.lt_or_ge j x.f4.length with q | q
        · exact q
        · rw [List.getElem?_eq_none q] at hj; cases hj
      have hj2 : j < rs.length := by omega
      obtain ⟨cs, ha, hb, hcc⟩ := hc j (rs[j]'hj2) (List.getElem?_eq_getElem hj2)
      have ep : p = x.f4[j]'hj1 := by rw [List.getElem?_eq_getElem hj1] at hj; injection hj with hj; exact hj.symm
      refine ⟨cs, ha, ?_, hcc⟩
      rw [ep, hb]
      exact (he j hj1 hj2).kS
    refine ⟨r.A, r.ac, r.B, r.bc, ?_, by omega, h3k, by omega, hC⟩
    unfold RV.val cellsS
    rw [h0, h1, h2, h3, h4]
theorem law_to {x : SV} {y : IV} (ht : Twin x y) {v : Value} {w : World} (hv : MadeS x w v) : Calls Tryz.prog 14 #[v] w fun e w' => (∃ u, e = .returned u ∧ MadeI y w' u) ∧ Below w.heap.size w w' := by
  obtain ⟨A3, c3, A4, c4, rfl, h3, g3, h4, g4⟩ := hv
  obtain ⟨k, hk⟩ := to_f ht
  refine (laws_to.calls k x.f0 x.f1 x.f2 A3 c3 x.f3 A4 c4 x.f4 y.f0 y.f1 y.f2 y.f3 y.f4 w g3 h3 g4 h4 (hk k (Nat.le_refl _))).mono ?_
  rintro e w' ⟨v3, v4, rfl, hr3, hr4, hb⟩
  obtain ⟨B3, d3, rfl⟩ := Kd.R_slice hr3
  obtain ⟨B4, d4, rfl⟩ := Kd.R_slice hr4
  exact ⟨⟨_, rfl, B3, d3, B4, d4, rfl, (Kd.R_reads' hr3).2.1, (Kd.R_reads' hr3).2.2, (Kd.R_reads' hr4).2.1, (Kd.R_reads' hr4).2.2⟩, hb⟩
theorem law_from {x : SV} {y : IV} (ht : Twin x y) {v : Value} {w : World} (hv : MadeI y w v) : Calls Tryz.prog 16 #[v] w fun e w' => (∃ u, e = .returned u ∧ MadeS x w' u) ∧ Below w.heap.size w w' := by
  obtain ⟨A3, c3, A4, c4, rfl, h3, g3, h4, g4⟩ := hv
  obtain ⟨k, hk⟩ := from_f ht
  refine (laws_from.calls k y.f0 y.f1 y.f2 A3 c3 y.f3 A4 c4 y.f4 x.f0 x.f1 x.f2 x.f3 x.f4 w g3 h3 g4 h4 (hk k (Nat.le_refl _))).mono ?_
  rintro e w' ⟨v3, v4, rfl, hr3, hr4, hb⟩
  obtain ⟨B3, d3, rfl⟩ := Kd.R_slice hr3
  obtain ⟨B4, d4, rfl⟩ := Kd.R_slice hr4
  exact ⟨⟨_, rfl, B3, d3, B4, d4, rfl, (Kd.R_reads' hr3).2.1, (Kd.R_reads' hr3).2.2, (Kd.R_reads' hr4).2.1, (Kd.R_reads' hr4).2.2⟩, hb⟩
theorem law_same {x : SV} (hx : Bnd x) {v u : Value} {w : World} (hv : MadeS x w v) (hu : MadeS x w u) : Calls Tryz.prog 15 #[v, u] w fun e w' => e = .returned (.bool true) ∧ Below w.heap.size w w' := by
  obtain ⟨A3, c3, A4, c4, rfl, h3, g3, h4, g4⟩ := hv
  obtain ⟨B3, d3, B4, d4, rfl, l3, k3, l4, k4⟩ := hu
  obtain ⟨k, hk⟩ := same_f hx
  exact spec_Same.calls k x.f0 x.f1 x.f2 A3 c3 x.f3 A4 c4 x.f4 x.f0 x.f1 x.f2 B3 d3 x.f3 B4 d4 x.f4 true w g3 h3 g4 h4 k3 l3 k4 l4 (hk k (Nat.le_refl _))
end Go.Proofs.YtiamiagjkfioiaaGreatDoor.A
