/- Contracts of laws.zzFits1, zzFits3, spec.Fit, spec.FitPairs, laws.pairsTo, as a law's walk takes them. -/
import Derived.Test.YtgeamhmenmomhaaDoorFitM
import Derived.Test.YtgeamhmenmomhaaDoorLkT
import Derived.Test.YtgeamhmenmomhaaDoorPTx4
import Derived.Test.YtgeamhmenmomhaaDoorPTx7
namespace Go.Proofs.YtgeamhmenmomhaaDoor.A
set_option linter.unusedVariables false
set_option linter.unusedSimpArgs false
set_option linter.unusedSectionVars false
open Go.RowKit Go.Proofs.YtgeamhmenmomhaaDoorW.PrintWords Go.Proofs.YtgeamhmenmomhaaDoorW.PrintLast Go.Proofs.YtgeamhmenmomhaaDoorW.PrintMore Go.Proofs.YtgeamhmenmomhaaDoor.PT Go.Proofs.YtgeamhmenmomhaaDoor.L Go.Proofs.YtgeamhmenmomhaaDoor.SM

theorem wrapT1 (i : Nat) (h : i < 4611686018427387904) : wrap64 ((i : Int) + 1) = ((i + 1 : Nat) : Int) := by unfold wrap64; omega
theorem fits2_loop (l : List ByteArray) (hb : l.length ≤ 2147483647) : ∀ d j, j + d = l.length → ∃ r, laws_zzFits2.l0 (d + 1) l (l.length : Int) (j : Int) = some r
  | 0, j, hj => ⟨true, by simp only [laws_zzFits2.l0]; rw [if_neg (by omega)]⟩
  | d + 1, j, hj => by
    obtain ⟨r, hr⟩ := fits2_loop l hb d (j + 1) (by omega)
    rw [laws_zzFits2.l0, if_pos (by omega), if_pos (by omega), if_pos (by omega)]
    split
    · exact ⟨_, rfl⟩
    · exact ⟨r, by rw [wrapT1 _ (by omega)]; exact hr⟩
theorem fits1_total (a b : Int) (s : ByteArray) (l : List ByteArray) (vs : List SV) : ∃ k r, laws_zzFits1.f k a b s l vs = some r := by
  have h2 : ∃ r, laws_zzFits2.f (l.length + 1) l = some r := by
    unfold laws_zzFits2.f
    by_cases h : (l.length : Int) > 2147483647
    · exact ⟨_, if_pos h⟩
    · rw [if_neg h]
      exact fits2_loop l (by omega) l.length 0 (by omega)
  obtain ⟨r, hr⟩ := h2
  refine ⟨l.length + 1, ?_⟩
  unfold laws_zzFits1.f
  rw [hr]
  simp only [Option.bind_some]
  split
  · exact ⟨_, rfl⟩
  · split
    · split
      · exact ⟨_, rfl⟩
      · exact ⟨_, rfl⟩
    · exact ⟨_, rfl⟩
theorem law_fits1 {x : SV} {v : Value} {w : World} (hv : MadeS x w v) : Calls Tryd.prog 5 #[v] w fun e w' => (∃ r, e = .returned (.bool r)) ∧ Below w.heap.size w w' := by
  obtain ⟨A3, c3, A4, c4, rfl, h3, g3, h4, g4⟩ := hv
  obtain ⟨k, r, hk⟩ := fits1_total x.f0 x.f1 x.f2 x.f3 x.f4
  refine (laws_zzFits1.calls k x.f0 x.f1 x.f2 A3 c3 x.f3 A4 c4 x.f4 r w g3 h3 g4 h4 hk).mono ?_
  rintro e w' ⟨rfl, hb⟩
  exact ⟨⟨r, rfl⟩, hb⟩
theorem law_fit {x : SV} (hx : Bnd x) {v : Value} {w : World} (hv : MadeS x w v) : Calls Tryd.prog 7 #[v] w fun e w' => ∃ (y : SV) (u : Value), e = .returned u ∧ FineS y ∧ wt y ≤ wt x ∧ MadeS y w' u ∧ (∀ W', (∀ k, w.heap.size ≤ k → k < w'.heap.size → W'.heap[k]? = w'.heap[k]?) → MadeS y W' u) ∧ Below w.heap.size w w' := by
  refine (spec_Fit hx w v hv).mono ?_
  rintro e w' ⟨y, r, rfl, h1, h2, h3, h4⟩
  exact ⟨y, r.val, rfl, h1, h2, h3.parts, fun W' hW => (h3.kept hW).parts, h4⟩
theorem box5 {w : World} {g : Nat} {t : TypeId} {c0 c1 c2 c3 c4 : Value} (h : w.heap[g]? = some (.cells #[c0, c1, c2, c3, c4] t (0, 0))) (u0 u1 u2 u3 u4 : Value) :
    (((((w.setCell ⟨g, 0, none⟩ u0).setCell ⟨g, 1, none⟩ u1).setCell ⟨g, 2, none⟩ u2).setCell ⟨g, 3, none⟩ u3).setCell ⟨g, 4, none⟩ u4).heap[g]? = some (.cells #[u0, u1, u2, u3, u4] t (0, 0)) :=
  blk_put (blk_put (blk_put (blk_put (blk_put h 0 _ rfl) 1 _ rfl) 2 _ rfl) 3 _ rfl) 4 _ rfl
theorem far5 {w : World} {g k : Nat} (hk : k ≠ g) (u0 u1 u2 u3 u4 : Value) :
    (((((w.setCell ⟨g, 0, none⟩ u0).setCell ⟨g, 1, none⟩ u1).setCell ⟨g, 2, none⟩ u2).setCell ⟨g, 3, none⟩ u3).setCell ⟨g, 4, none⟩ u4).heap[k]? = w.heap[k]? := by
  rw [Below.heap_setCell _ _ _ _ (by show k ≠ g; exact hk), Below.heap_setCell _ _ _ _ (by show k ≠ g; exact hk), Below.heap_setCell _ _ _ _ (by show k ≠ g; exact hk), Below.heap_setCell _ _ _ _ (by show k ≠ g; exact hk), Below.heap_setCell _ _ _ _ (by show k ≠ g; exact hk)]
theorem fits3_l0 (l : List U.SP) (hl : l.length ≤ 2147483647) : ∀ n i, n = l.length - i → i ≤ l.length → ∃ r, laws_zzFits3.l0 (n + 1) l (l.length : Int) (i : Int) = some r
  | 0, i, h, hi => ⟨true, by rw [laws_zzFits3.l0, if_neg (by omega)]⟩
  | n + 1, i, h, hi => by
    obtain ⟨r, hr⟩ := fits3_l0 l hl n (i + 1) (by omega) (by omega)
    rw [laws_zzFits3.l0, if_pos (by omega), if_pos (by omega), if_pos (by omega), wrapT1 i (by omega), hr]
    have h4 : ∃ q, laws_zzFits4.f ((rd_T51 l i).f0) ((rd_T51 l i).f1) = some q := by
      unfold laws_zzFits4.f
      split
      · exact ⟨_, rfl⟩
      · split <;> exact ⟨_, rfl⟩
    obtain ⟨q, hq⟩ := h4
    rw [hq, Option.bind_some]
    split <;> exact ⟨_, rfl⟩
theorem law_fitP (l : List U.SP) (hl : l.length ≤ 1048576) (A0 : Option Addr) (c0 : Nat) (w : World) (hr : Kd.C k51 w A0 l.length l) (hc : l.length ≤ c0) : Calls Tryd.prog 8 #[.slice A0 l.length c0] w fun e w' => ∃ A c, e = .returned (.slice A (M.fitP l).length c) ∧ Kd.R k51 51 w' w.heap.size (fun _ => True) (.slice A (M.fitP l).length c) (M.fitP l) ∧ Below w.heap.size w w' := by
  refine (M.spec_FitPairs A0 c0 l w hr hc (by omega)).mono ?_
  rintro e w' ⟨v, rfl, h, hb⟩
  obtain ⟨A, c, rfl, _, _⟩ := Kd.R_reads h
  exact ⟨A, c, rfl, h, hb⟩
theorem law_pairsTo (l : List U.SP) (hl : l.length ≤ 1048576) (A0 : Option Addr) (c0 : Nat) (w : World) (hr : Kd.C k51 w A0 l.length l) (hc : l.length ≤ c0) : Calls Tryd.prog 13 #[.slice A0 l.length c0] w fun e w' => ∃ A c, e = .returned (.slice A l.length c) ∧ (l.map U.sI).length ≤ c ∧ Kd.C k69 w' A (l.map U.sI).length (l.map U.sI) ∧ Below w.heap.size w w' := by
  refine (laws_pairsTo.calls (l.length + 1) A0 c0 l (l.map U.sI) w hr hc (U.to_f l (by omega))).mono ?_
  rintro e w' ⟨v, rfl, h, hb⟩
  obtain ⟨A, c, rfl, h1, h2⟩ := Kd.R_reads h
  exact ⟨A, c, by rw [List.length_map], h1, h2, hb⟩
end Go.Proofs.YtgeamhmenmomhaaDoor.A
