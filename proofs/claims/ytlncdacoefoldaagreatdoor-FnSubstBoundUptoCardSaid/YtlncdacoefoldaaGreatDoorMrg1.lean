/- Texts of this claim, joined: Bulk, DoorB. -/
import Derived.Test.YtlncdacoefoldaaGreatDoorLaw
import Derived.Test.YtlncdacoefoldaaGreatDoorRows
import Derived.Test.YtlncdacoefoldaaGreatDoorDoor
import Derived.Lib.AppendIntMem
/- What the bound of an Upto statement gives: strings that are read are small. No statement. -/
namespace Go.Proofs.YtlncdacoefoldaaGreatDoor.L
set_option linter.unusedVariables false
set_option linter.unusedSimpArgs false
set_option linter.unusedSectionVars false
open Go.RowKit Go.ChangeShapes Go.WideShapes Go.ChangeAt

theorem bulk_all {H : Type} {l : List (DataW H)} (hk : Rows.uptoSmall H l = true) : Rows.uptoBulkAll l ≤ 1048576 := by
  simpa [Rows.uptoSmall] using hk
end Go.Proofs.YtlncdacoefoldaaGreatDoor.L

/- The doors of the laws' arguments where the bulk of what is read is bounded: []spec.Pair. -/
namespace Go.Proofs.YtlncdacoefoldaaGreatDoor.L
set_option linter.unusedVariables false
set_option linter.unusedSimpArgs false
set_option linter.unusedSectionVars false
open Go.RowKit Go.Proofs.YtlncdacoefoldaaGreatDoorW.PrintWords Go.Proofs.YtlncdacoefoldaaGreatDoorW.PrintLast Go.Proofs.YtlncdacoefoldaaGreatDoor.PX
open Go.ChangeShapes Go.WideShapes Go.ChangeAt

theorem bulk_pos {H : Type} : ∀ d : DataW H, 1 ≤ Rows.uptoBulk d
  | .lit l => by cases l <;> simp [Rows.uptoBulk]
  | .nil => by simp [Rows.uptoBulk]
  | .ptr d => by simp [Rows.uptoBulk]
  | .slice a b => by simp [Rows.uptoBulk]
  | .agg a => by simp [Rows.uptoBulk]
  | .iface _ d => by simp [Rows.uptoBulk]
  | .map a => by simp [Rows.uptoBulk]
  | .held _ => by simp [Rows.uptoBulk]
theorem bulk_mem {H : Type} : ∀ {l : List (DataW H)} {d : DataW H}, d ∈ l → Rows.uptoBulk d ≤ Rows.uptoBulkAll l
  | x :: l, d, h => by
    rw [Rows.uptoBulkAll]
    rcases List.mem_cons.1 h with rfl | h
    · omega
    · have := bulk_mem h; omega
theorem bulk_len {H : Type} : ∀ l : List (DataW H), l.length ≤ Rows.uptoBulkAll l
  | [] => Nat.le_refl _
  | x :: l => by
    have := bulk_len l
    have := bulk_pos x
    rw [Rows.uptoBulkAll, List.length_cons]; omega
theorem C_of_trod_bulk {α : Type} {H : Type} {enc : TypeId × Value → H} {P : Program} {t e : TypeId} {W : World} {v : Value} {d : DataW H} {ps : List MemPlace} (k : Kd α) (mu : α → Nat) (ht : P.underlying t = some (.slice e)) (hsz : P.cellsOf e = k.sz) (hpos : 0 < k.sz)
    (hel : ∀ n cs y, DataW.trod enc P W 0 (fun _ => true) true n e cs = some y → ∃ x : α, k.K W x cs ∧ mu x ≤ Rows.uptoBulk y.1)
    (h : DataW.Trod enc P W 0 (fun _ => true) true t v d ps) (hv : ∃ a n c, v = .slice a n c) : ∃ A c, ∃ l : List α, v = .slice A l.length c ∧ l.length ≤ c ∧ Kd.C k W A l.length l ∧ l.length ≤ Rows.uptoBulk d ∧ ∀ x ∈ l, mu x ≤ Rows.uptoBulk d := by
  obtain ⟨a, n, c, rfl⟩ := hv
  obtain ⟨fuel, hf⟩ := h
  rcases DataW.trod_slice ht hf with ⟨hcs, _⟩ | ⟨ad, len, cap, elems, rest, m, _, hcs, hx, _, hl, hm, hlen, he, _, _⟩
  · have : Value.slice a n c = .slice none 0 0 := by simpa [Value.cells] using hcs
    rw [this]
    exact ⟨none, 0, [], rfl, Nat.le_refl _, ⟨rfl, by simp, fun h => absurd h (by simp)⟩, Nat.zero_le _, fun x hx => by cases hx⟩
  · have e1 : Value.slice a n c = .slice (some ad) len cap := by simpa [Value.cells] using hcs
    rw [e1]
    have hd : d = .slice (elems.map (·.1)) (rest.map (·.1)) := congrArg Prod.fst hx
    have hcell : ∀ j, j < len → ∃ cs y, W.cells? 0 (ad.add (j * P.cellsOf e)) (P.cellsOf e) = some cs ∧ DataW.trod enc P W 0 (fun _ => true) true m e cs = some y ∧ y ∈ elems := by
      intro j hj
      have hh := he j hj
      rw [List.getElem?_eq_getElem (by omega)] at hh
      obtain ⟨cs, h1, h2⟩ := Option.bind_eq_some_iff.1 hh
      exact ⟨cs, _, h1, h2, List.getElem_mem _⟩
    have hspot : 0 < len → ad.spot = none := by
      intro h0
      obtain ⟨cs, y, h1, _, _⟩ := hcell 0 h0
      obtain ⟨h2, h3⟩ := cells_some h1
      have h4 := h3 0 (by omega)
      rw [List.getElem?_eq_getElem (by omega)] at h4
      have hs0 : (ad.add (0 * P.cellsOf e)).add 0 = ad := by simp [Addr.add]
      rw [hs0] at h4
      exact (cell_spot h4).1
    have hin : ∀ y ∈ elems, Rows.uptoBulk y.1 ≤ Rows.uptoBulk d := fun y hy => by
      have := bulk_mem (List.mem_map_of_mem (f := fun x : DataW H × List MemPlace => x.1) hy)
      rw [hd, Rows.uptoBulk]
      exact Nat.le_trans this (by omega)
    obtain ⟨l, hll, hq⟩ := rows_exist (α := α) (Q := fun j x => (∃ cs : List Value, cs.length = k.sz ∧ k.K W x cs ∧ ∀ i u, cs[i]? = some u → W.cell? (ad.add (j * k.sz + i)) = some u) ∧ mu x ≤ Rows.uptoBulk d) len (by
      intro j hj
      obtain ⟨cs, y, h1, h2, hy⟩ := hcell j hj
      obtain ⟨h3, h4⟩ := cells_some h1
      obtain ⟨x, hx, hmu⟩ := hel m cs y h2
      refine ⟨x, ⟨cs, by rw [h3, hsz], hx, fun i u hu => ?_⟩, Nat.le_trans hmu (hin y hy)⟩
      have hi := (List.getElem?_eq_some_iff.1 hu).1
      have h5 := h4 i (by omega)
      have hsp := hspot (by omega)
      rw [hu, addr_add ad _ hsp, addr_add _ _ rfl] at h5
      rw [addr_add ad _ hsp, ← hsz, ← h5]
      congr 2
      simp only []; omega)
    refine ⟨some ad, cap, l, by rw [hll], by omega, ⟨rfl, by unfold maxLen at hm; omega, fun _ => ⟨ad, rfl, fun j p hp => (hq j p hp).1⟩⟩, ?_, fun x hx => ?_⟩
    · have h1 := bulk_len (elems.map (·.1))
      rw [List.length_map] at h1
      rw [hd, Rows.uptoBulk, hll, ← hlen]
      omega
    · obtain ⟨j, hj⟩ := List.mem_iff_getElem?.1 hx
      exact (hq j x hj).2
theorem hel_pair_bulk {H : Type} {enc : TypeId × Value → H} {W : World} (n : Nat) (cs : List Value) (y : DataW H × List MemPlace) (h : DataW.trod enc Tryz.prog W 0 (fun _ => true) true n 59 cs = some y) : ∃ x : S59, k59.K W x cs ∧ x.f1.size ≤ Rows.uptoBulk y.1 := by
  obtain ⟨y0, y1, m, hy, hl, h0, h1⟩ := trod_struct2 Tryz.underlying59 h
  replace hl : cs.length = 2 := hl.trans (by kernel_rfl)
  obtain ⟨s0, e0, _⟩ := DataW.trod_string Tryz.underlying9 h0
  obtain ⟨s1, e1, f1⟩ := DataW.trod_string Tryz.underlying9 h1
  have hc : Tryz.prog.cellsOf 9 = 1 := by kernel_rfl
  replace e0 : (cs.drop 0).take 1 = [.string s0] := (congrArg (fun n => (cs.drop 0).take n) hc.symm).trans e0
  replace e1 : (cs.drop 1).take 1 = [.string s1] := (congrArg (fun n => (cs.drop 1).take n) hc.symm).trans e1
  clear h h0 h1 hc
  match cs, hl with
  | [a, b], _ =>
    simp at e0 e1
    subst e0; subst e1
    refine ⟨⟨s0, s1⟩, k59_mk _ _, ?_⟩
    rw [hy, f1.1]
    simp only [Rows.uptoBulk, Rows.uptoBulkAll]
    have := Lib.size_eq s1
    omega
theorem bulk_text {H : Type} (a : ByteArray) : Rows.uptoBulk (DataW.lit (H := H) (.string a.data.toList)) = a.size + 1 := by
  simp only [Rows.uptoBulk]
  rw [Lib.size_eq]
end Go.Proofs.YtlncdacoefoldaaGreatDoor.L
