/- What a row's arguments are to the print's words: slices of plain elements; a laid table. -/
import Derived.Test.YtlncdacoefoldaaGreatDoorPXx0
import Derived.Test.YtlncdacoefoldaaGreatDoorLaw
import Derived.Lib.LaidTab
import Derived.Deep.Strs
import Derived.ChangeSame
namespace Go.Proofs.YtlncdacoefoldaaGreatDoor.L
set_option linter.unusedVariables false
set_option linter.unusedSimpArgs false
set_option linter.unusedSectionVars false
open Go.RowKit Go.Proofs.YtlncdacoefoldaaGreatDoorW.PrintWords Go.Proofs.YtlncdacoefoldaaGreatDoorW.PrintLast Go.Proofs.YtlncdacoefoldaaGreatDoor.PX
open Go.ChangeShapes Go.WideShapes Go.ChangeAt

theorem rows_exist {α : Type} {Q : Nat → α → Prop} : ∀ n : Nat, (∀ j, j < n → ∃ x, Q j x) → ∃ l : List α, l.length = n ∧ ∀ j x, l[j]? = some x → Q j x
  | 0, _ => ⟨[], rfl, fun j x h => by simp at h⟩
  | n + 1, h => by
    obtain ⟨l, hl, hq⟩ := rows_exist n (fun j hj => h j (by omega))
    obtain ⟨x, hx⟩ := h n (by omega)
    refine ⟨l ++ [x], by simp [hl], fun j y hy => ?_⟩
    rcases Nat.lt_or_ge j l.length with hj | hj
    · rw [List.getElem?_append_left hj] at hy; exact hq j y hy
    · have hj2 := (List.getElem?_eq_some_iff.1 hy).1
      simp only [List.length_append, List.length_singleton] at hj2
      obtain rfl : j = n := by omega
      rw [List.getElem?_append_right (by omega), hl] at hy
      simp only [Nat.sub_self, List.getElem?_cons_zero, Option.some.injEq] at hy
      exact hy ▸ hx
theorem cells_some {w : World} {base : Nat} {a : Addr} {n : Nat} {cs : List Value} (h : w.cells? base a n = some cs) : cs.length = n ∧ ∀ i, i < n → w.cell? (a.add i) = cs[i]? := by
  unfold World.cells? at h
  split at h
  · have h1 := mapM_some_length h
    have h2 := mapM_some_get h
    rw [List.length_range] at h1
    exact ⟨h1, fun i hi => h2 i i (List.getElem?_range hi)⟩
  · cases h
end Go.Proofs.YtlncdacoefoldaaGreatDoor.L
