/- What the bound of an Upto statement gives: strings that are read are small. No statement. -/
import Derived.Test.YtklbghadhneejaaDoorLaw
import Derived.Test.YtklbghadhneejaaDoorRows
namespace Go.Proofs.YtklbghadhneejaaDoor.L
set_option linter.unusedVariables false
set_option linter.unusedSimpArgs false
set_option linter.unusedSectionVars false
open Go.RowKit Go.ChangeShapes Go.WideShapes Go.ChangeAt

theorem bulk_strs {H : Type} : ∀ (l : List ByteArray), Rows.uptoBulkAll (strs (H := H) l) = (l.map fun x => x.size + 1).sum
  | [] => rfl
  | x :: r => by
    have := bulk_strs (H := H) r
    show Rows.uptoBulk (DataW.lit (H := H) (.string x.data.toList)) + Rows.uptoBulkAll (strs (H := H) r) = _
    rw [this, List.map_cons, List.sum_cons]
    simp only [Rows.uptoBulk]
    rw [Lib.size_eq]

/-- as ss_of_trod, with the bulk of what is read -/
theorem ss_of_trod_bulk {H : Type} {enc : TypeId × Value → H} {P : Program} {t e : TypeId} {W : World} {v : Value} {d : DataW H} {ps : List MemPlace} (ht : P.underlying t = some (.slice e)) (he : P.underlying e = some .string) (hc : P.cellsOf e = 1)
    (h : DataW.Trod enc P W 0 (fun _ => true) true t v d ps) (hv : ∃ a n c, v = .slice a n c) : ∃ l : List ByteArray, SS W v l ∧ (l.map fun x => x.size + 1).sum ≤ Rows.uptoBulk d := by
  obtain ⟨a, n, c, rfl⟩ := hv
  obtain ⟨fuel, hf⟩ := h
  rcases open_strings ht he hc hf with ⟨hcs, _⟩ | ⟨ad, len, cap, ss, hcs, _, hl, hm, hz, hx, hcell, hws⟩
  · have : Value.slice a n c = .slice none 0 0 := by simpa [Value.cells] using hcs
    rw [this]
    exact ⟨[], SS.nil W, by simp⟩
  · have e1 : Value.slice a n c = .slice (some ad) len cap := by simpa [Value.cells] using hcs
    rw [e1]
    simp only [if_true] at hz
    have hlen : (ss.take len).length = len := by rw [List.length_take]; omega
    refine ⟨ss.take len, ⟨some ad, cap, by rw [hlen], by rw [hlen]; exact hl, hm, by simp, fun hp => ?_⟩, ?_⟩
    · rw [List.length_map, hlen] at hp
      have h0 := hcell 0 (by omega)
      have hs0 : (ad.add 0) = ad := by simp [Addr.add]
      rw [hs0] at h0
      obtain ⟨q1, q2⟩ := cell_spot h0
      refine ⟨ad.block, ad.off, by cases ad; simp_all, trivial, q2, fun i hi => ?_⟩
      rw [List.length_map, hlen] at hi
      rw [← addr_add ad i q1, hcell i (by omega)]
      congr 1
      rw [List.getD_eq_getElem?_getD, List.getD_eq_getElem?_getD, List.getElem?_map, List.getElem?_take_of_lt hi, List.getElem?_eq_getElem (by omega)]
      rfl
    · have hd : d = .slice (strs (ss.take len)) (strs (ss.drop len)) := congrArg Prod.fst hx
      rw [hd]
      simp only [Rows.uptoBulk]
      rw [bulk_strs]
      omega

theorem bulk_all {H : Type} {l : List (DataW H)} (hk : Rows.uptoSmall H l = true) : Rows.uptoBulkAll l ≤ 1048576 := by
  simpa [Rows.uptoSmall] using hk
end Go.Proofs.YtklbghadhneejaaDoor.L
