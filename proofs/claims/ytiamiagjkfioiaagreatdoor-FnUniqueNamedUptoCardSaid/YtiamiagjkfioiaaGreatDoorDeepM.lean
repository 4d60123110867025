/- A made value's cells, all the way down. Plain. -/
import Derived.Test.YtiamiagjkfioiaaGreatDoorFitD
namespace Go.Proofs.YtiamiagjkfioiaaGreatDoor.A
set_option linter.unusedVariables false
set_option linter.unusedSimpArgs false
set_option linter.unusedSectionVars false
open Go.RowKit Go.Proofs.YtiamiagjkfioiaaGreatDoorW.PrintWords Go.Proofs.YtiamiagjkfioiaaGreatDoorW.PrintLast Go.Proofs.YtiamiagjkfioiaaGreatDoorW.PrintMore Go.Proofs.YtiamiagjkfioiaaGreatDoor.PT Go.Proofs.YtiamiagjkfioiaaGreatDoor.L Go.Proofs.YtiamiagjkfioiaaGreatDoor.SM

theorem sizeS_sub {x y : SV} (h : y ∈ x.f4) : SizeOf.sizeOf y < SizeOf.sizeOf x := by
  have h1 := List.sizeOf_lt_of_mem h
  cases x with
  | mk f0 f1 f2 f3 f4 =>
    simp only [S26.mk.sizeOf_spec] at h1 ⊢
    omega
theorem rows_ex {α : Type} {Q : Nat → α → Prop} : ∀ n : Nat, (∀ j, j < n → ∃ x, Q j x) → ∃ l : List α, l.length = n ∧ ∀ j x, l[j]? = some x → Q j x
  | 0, _ => ⟨[], rfl, fun j x h => by simp at h⟩
  | n + 1, h => by
    obtain ⟨l, hl, hq⟩ := rows_ex n (fun j hj => h j (by omega))
    obtain ⟨x, hx⟩ := h n (by omega)
    refine ⟨l ++ [x], by simp [hl], fun j y hy => ?_⟩
    rcases Nat.lt_or_ge j l.length with hj | hj
    · rw [List.getElem?_append_left hj] at hy; exact hq j y hy
    · have hj2 := (List.getElem?_eq_some_iff.1 hy).1
      simp only [List.length_append, List.length_singleton] at hj2
      obtain rfl : j = n := by omega
      rw [List.getElem?_append_right (by omega), hl] at hy
      simp only [Nat.sub_self, List.getElem?_cons_zero, Option.some.injEq] at hy
      exact hy ▸ hx
theorem val_cs {r : RV} {x : SV} {A3 A4 : Option Addr} {c3 c4 : Nat} (h : cellsS x A3 c3 A4 c4 = r.val) : r.cs = [.int .i64 x.f0, .int .i64 x.f1, .string x.f2, .slice A3 x.f3.length c3, .slice A4 x.f4.length c4] := by
  unfold cellsS RV.val at h
  injection h with h
  have := congrArg Array.toList h
  unfold RV.cs
  exact this.symm
/-- a value that is made has its cells, and rows of cells, in blocks that are there -/
theorem deep_of_made : ∀ (n : Nat) (x : SV), SizeOf.sizeOf x ≤ n → ∀ {w : World} {v : Value}, MadeS x w v → ∃ r : RV, v = r.val ∧ DeepP (fun k => k < w.heap.size) w x r
  | 0, x, h, _, _, _ => by cases x; simp at h
  | n + 1, x, hn, w, v, hv => by
    obtain ⟨A3, c3, A4, c4, rfl, h3, g3, h4, g4⟩ := hv
    obtain ⟨q1, q2, q3⟩ := g4
    have hj : ∀ j, j < x.f4.length → ∃ r : RV, (∃ ad, A4 = some ad ∧ ∃ cs : List Value, cs.length = kR.sz ∧ kR.K w r cs ∧ ∀ i u, cs[i]? = some u → w.cell? (ad.add (j * kR.sz + i)) = some u) ∧ ∀ hh : j < x.f4.length, DeepP (fun k => k < w.heap.size) w (x.f4[j]'hh) r := by
      intro j hj
      obtain ⟨ad, e, hc⟩ := q3 (by omega)
      obtain ⟨cs, ha, hb, hcc⟩ := hc j (x.f4[j]'hj) (List.getElem?_eq_getElem hj)
      obtain ⟨B3, d3, B4, d4, ecs, k3, l3, k4, l4⟩ := k26_open hb
      have hlt := sizeS_sub (List.getElem_mem hj)
      obtain ⟨r, hr, hd⟩ := deep_of_made n (x.f4[j]'hj) (by omega) (w := w) (v := cellsS (x.f4[j]'hj) B3 d3 B4 d4) ⟨B3, d3, B4, d4, rfl, k3, l3, k4, l4⟩
      exact ⟨r, ⟨ad, e, cs, ha, by show cs = r.cs; rw [val_cs hr, ecs], hcc⟩, fun _ => hd⟩
    obtain ⟨rs, hl, hq⟩ := rows_ex x.f4.length hj
    refine ⟨⟨x.f0, x.f1, x.f2, A3, x.f3.length, c3, A4, x.f4.length, c4⟩, rfl, .mk (rs := rs) rfl rfl rfl rfl h3 g3 (fun hp ad e => ?_) rfl h4 hl ⟨rfl, by rw [hl]; exact q2, fun hp => ?_⟩ (fun hp ad e => ?_) (fun i i1 i2 => (hq i _ (List.getElem?_eq_getElem i2)).2 i1)⟩
    · dsimp only at e; rw [e] at g3; exact C_lt g3 (by decide) hp
    · obtain ⟨ad, e, hc⟩ := q3 (by omega)
      refine ⟨ad, e, fun j p hjp => ?_⟩
      obtain ⟨ad', e', cs, a1, a2, a3⟩ := (hq j p hjp).1
      rw [e] at e'
      injection e' with e'
      subst e'
      exact ⟨cs, a1, a2, a3⟩
    · dsimp only at e
      have g4 : Kd.C A.kS w A4 x.f4.length x.f4 := ⟨q1, q2, q3⟩
      rw [e] at g4
      exact C_lt g4 (by decide) (by rw [← hl]; exact hp)
theorem DeepP.rows {P : Nat → Prop} {w : World} {x : SV} {r : RV} (h : DeepP P w x r) : ∃ rs : List RV, r.n0 = x.f0 ∧ r.n1 = x.f1 ∧ r.t = x.f2 ∧ r.an = x.f3.length ∧ r.an ≤ r.ac ∧ Kd.C Kd.string w r.A x.f3.length x.f3 ∧ r.bn = x.f4.length ∧ r.bn ≤ r.bc ∧ Kd.C kR w r.B rs.length rs ∧ All2 (DeepP P w) x.f4 rs := by
  cases h with
  | @mk _ _ rs h0 h1 h2 h3 h3c h3k h3f h4 h4c h4l h4k h4f he => exact ⟨rs, h0, h1, h2, h3, h3c, h3k, h4, h4c, h4k, h4l.symm, he⟩
end Go.Proofs.YtiamiagjkfioiaaGreatDoor.A
