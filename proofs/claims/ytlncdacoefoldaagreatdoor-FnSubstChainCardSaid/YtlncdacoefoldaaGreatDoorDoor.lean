/- What a row's arguments are to the print's words: slices of plain elements; a laid table. -/
import Derived.Test.YtlncdacoefoldaaGreatDoorPXx0
import Derived.Test.YtlncdacoefoldaaGreatDoorLaw
import Derived.Lib.LaidTab
import Derived.Deep.Strs
import Derived.ChangeSame
namespace Go.Proofs.YtlncdacoefoldaaGreatDoor.L
set_option linter.unusedVariables false
set_option linter.unusedSimpArgs false
set_option linter.unusedSectionVars false
open Go.RowKit Go.Proofs.YtlncdacoefoldaaGreatDoorW.PrintWords Go.Proofs.YtlncdacoefoldaaGreatDoorW.PrintLast Go.Proofs.YtlncdacoefoldaaGreatDoor.PX
open Go.ChangeShapes Go.WideShapes Go.ChangeAt

theorem rows_exist {α : Type} {Q : Nat → α → Prop} : ∀ n : Nat, (∀ j, j < n → ∃ x, Q j x) → ∃ l : List α, l.length = n ∧ ∀ j x, l[j]? = some x → Q j x
  | 0, _ => ⟨[], rfl, fun j x h => by simp at h⟩
  | n + 1, h => by
    obtain ⟨l, hl, hq⟩ := rows_exist n (fun j hj => h j (by omega))
    obtain ⟨x, hx⟩ := h n (by omega)
    refine ⟨l ++ [x], by simp [hl], fun j y hy => ?_⟩
    rcases Nat.lt_or_ge j l.length with hj | hj
    · rw [List.getElem?_append_left hj] at hy; exact hq j y hy
    · have hj2 := (List.getElem?_eq_some_iff.1 hy).1
      simp only [List.length_append, List.length_singleton] at hj2
      obtain rfl : j = n := by omega
      rw [List.getElem?_append_right (by omega), hl] at hy
      simp only [Nat.sub_self, List.getElem?_cons_zero, Option.some.injEq] at hy
      exact hy ▸ hx
theorem cells_some {w : World} {base : Nat} {a : Addr} {n : Nat} {cs : List Value} (h : w.cells? base a n = some cs) : cs.length = n ∧ ∀ i, i < n → w.cell? (a.add i) = cs[i]? := by
  unfold World.cells? at h
  split at h
  · have h1 := mapM_some_length h
    have h2 := mapM_some_get h
    rw [List.length_range] at h1
    exact ⟨h1, fun i hi => h2 i i (List.getElem?_range hi)⟩
  · cases h
/-- An argument that is a slice of plain elements. -/
theorem C_of_trod {α : Type} {H : Type} {enc : TypeId × Value → H} {P : Program} {t e : TypeId} {W : World} {v : Value} {d : DataW H} {ps : List MemPlace} (k : Kd α) (ht : P.underlying t = some (.slice e)) (hsz : P.cellsOf e = k.sz) (hpos : 0 < k.sz)
    (hel : ∀ n cs y, DataW.trod enc P W 0 (fun _ => true) true n e cs = some y → ∃ x : α, k.K W x cs)
    (h : DataW.Trod enc P W 0 (fun _ => true) true t v d ps) (hv : ∃ a n c, v = .slice a n c) : ∃ A c, ∃ l : List α, v = .slice A l.length c ∧ l.length ≤ c ∧ Kd.C k W A l.length l := by
  obtain ⟨a, n, c, rfl⟩ := hv
  obtain ⟨fuel, hf⟩ := h
  rcases DataW.trod_slice ht hf with ⟨hcs, _⟩ | ⟨ad, len, cap, elems, rest, m, _, hcs, _, _, hl, hm, hlen, he, _, _⟩
  · have : Value.slice a n c = .slice none 0 0 := by simpa [Value.cells] using hcs
    rw [this]
    exact ⟨none, 0, [], rfl, Nat.le_refl _, rfl, by simp, fun h => absurd h (by simp)⟩
  · have e1 : Value.slice a n c = .slice (some ad) len cap := by simpa [Value.cells] using hcs
    rw [e1]
    have hcell : ∀ j, j < len → ∃ cs y, W.cells? 0 (ad.add (j * P.cellsOf e)) (P.cellsOf e) = some cs ∧ DataW.trod enc P W 0 (fun _ => true) true m e cs = some y := by
      intro j hj
      have hh := he j hj
      rw [List.getElem?_eq_getElem (by omega)] at hh
      obtain ⟨cs, h1, h2⟩ := Option.bind_eq_some_iff.1 hh
      exact ⟨cs, _, h1, h2⟩
    have hspot : 0 < len → ad.spot = none := by
      intro h0
      obtain ⟨cs, y, h1, _⟩ := hcell 0 h0
      obtain ⟨h2, h3⟩ := cells_some h1
      have h4 := h3 0 (by omega)
      rw [List.getElem?_eq_getElem (by omega)] at h4
      have hs0 : (ad.add (0 * P.cellsOf e)).add 0 = ad := by simp [Addr.add]
      rw [hs0] at h4
      exact (cell_spot h4).1
    obtain ⟨l, hll, hq⟩ := rows_exist (α := α) (Q := fun j x => ∃ cs : List Value, cs.length = k.sz ∧ k.K W x cs ∧ ∀ i u, cs[i]? = some u → W.cell? (ad.add (j * k.sz + i)) = some u) len (by
      intro j hj
      obtain ⟨cs, y, h1, h2⟩ := hcell j hj
      obtain ⟨h3, h4⟩ := cells_some h1
      obtain ⟨x, hx⟩ := hel m cs y h2
      refine ⟨x, cs, by rw [h3, hsz], hx, fun i u hu => ?_⟩
      have hi := (List.getElem?_eq_some_iff.1 hu).1
      have h5 := h4 i (by omega)
      have hsp := hspot (by omega)
      rw [hu, addr_add ad _ hsp, addr_add _ _ rfl] at h5
      rw [addr_add ad _ hsp, ← hsz, ← h5]
      congr 2
      simp only []; omega)
    refine ⟨some ad, cap, l, by rw [hll], by omega, rfl, by unfold maxLen at hm; omega, fun _ => ⟨ad, rfl, fun j p hp => hq j p hp⟩⟩
end Go.Proofs.YtlncdacoefoldaaGreatDoor.L
