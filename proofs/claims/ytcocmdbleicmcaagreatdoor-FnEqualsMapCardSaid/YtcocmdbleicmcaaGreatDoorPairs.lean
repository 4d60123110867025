/- Plain: the loops of pairsTo, pairsFrom, samePairs and zzFits3, and what a merge has. -/
import Derived.Test.YtcocmdbleicmcaaGreatDoorTold
import Derived.Test.YtcocmdbleicmcaaGreatDoorFitP
import Derived.Test.YtcocmdbleicmcaaGreatDoorMapA
import Derived.Test.YtcocmdbleicmcaaGreatDoorPXx3
import Derived.Test.YtcocmdbleicmcaaGreatDoorPXx4
import Derived.Test.YtcocmdbleicmcaaGreatDoorPXx5
namespace Go.Proofs.YtcocmdbleicmcaaGreatDoor.M
set_option linter.unusedVariables false
set_option linter.unusedSimpArgs false
set_option linter.unusedSectionVars false
open Go.RowKit Go.Proofs.YtcocmdbleicmcaaGreatDoorW.PrintWords Go.Proofs.YtcocmdbleicmcaaGreatDoorW.PrintLast Go.Proofs.YtcocmdbleicmcaaGreatDoor.PX

abbrev SP := S52
abbrev IP := S89
def sI (x : SP) : IP := ⟨x.f0, x.f1⟩
def iS (x : IP) : SP := ⟨x.f0, x.f1⟩
theorem wrapS (i : Nat) (h : i < 4611686018427387904) : wrap64 ((i : Int) + 1) = ((i + 1 : Nat) : Int) := by unfold wrap64; omega
theorem to_l0 (l : List SP) (hl : l.length < 4398046511104) : ∀ n i, n = l.length - i → i ≤ l.length → laws_pairsTo.l0 (n + 1) l ((l.take i).map sI) (i : Int) = some (l.map sI)
  | 0, i, h, hi => by
    obtain rfl : i = l.length := by omega
    rw [List.take_length, laws_pairsTo.l0, if_neg (by omega)]
  | n + 1, i, h, hi => by
    have hlt : i < l.length := by omega
    rw [laws_pairsTo.l0, if_pos (by omega), if_pos (by omega), if_pos (by simp only [List.length_map, List.length_take]; omega), wrapS i (by omega)]
    have e : (l.take i).map sI ++ [(⟨(rd_T52 l i).f0, (rd_T52 l i).f1⟩ : IP)] = (l.take (i + 1)).map sI := by
      rw [List.take_succ_eq_append_getElem hlt, List.map_append, rd_get hlt]; rfl
    rw [e]
    exact to_l0 l hl n (i + 1) (by omega) (by omega)
theorem to_f (l : List SP) (hl : l.length < 4398046511104) : laws_pairsTo.f (l.length + 1) l = some (l.map sI) := by
  have := to_l0 l hl l.length 0 (by omega) (by omega)
  simpa [laws_pairsTo.f] using this
theorem rd_getI {l : List IP} {i : Nat} (h : i < l.length) : rd_T89 l (i : Int) = l[i] := by
  simp [rd_T89, List.getD_eq_getElem?_getD, List.getElem?_eq_getElem h]
theorem from_l0 (l : List IP) (hl : l.length < 4398046511104) : ∀ n i, n = l.length - i → i ≤ l.length → laws_pairsFrom.l0 (n + 1) l ((l.take i).map iS) (i : Int) = some (l.map iS)
  | 0, i, h, hi => by
    obtain rfl : i = l.length := by omega
    rw [List.take_length, laws_pairsFrom.l0, if_neg (by omega)]
  | n + 1, i, h, hi => by
    have hlt : i < l.length := by omega
    rw [laws_pairsFrom.l0, if_pos (by omega), if_pos (by omega), if_pos (by simp only [List.length_map, List.length_take]; omega), wrapS i (by omega)]
    have e : (l.take i).map iS ++ [(⟨(rd_T89 l i).f0, (rd_T89 l i).f1⟩ : SP)] = (l.take (i + 1)).map iS := by
      rw [List.take_succ_eq_append_getElem hlt, List.map_append, rd_getI hlt]; rfl
    rw [e]
    exact from_l0 l hl n (i + 1) (by omega) (by omega)
theorem from_f (l : List IP) (hl : l.length < 4398046511104) : laws_pairsFrom.f (l.length + 1) l = some (l.map iS) := by
  have := from_l0 l hl l.length 0 (by omega) (by omega)
  simpa [laws_pairsFrom.f] using this
theorem same_l0 (l : List SP) (hl : l.length < 4398046511104) : ∀ n i, n = l.length - i → i ≤ l.length → laws_samePairs.l0 (n + 1) l l (i : Int) = some true
  | 0, i, h, hi => by
    obtain rfl : i = l.length := by omega
    rw [laws_samePairs.l0, if_neg (by omega)]
  | n + 1, i, h, hi => by
    rw [laws_samePairs.l0, if_pos (by omega), if_pos (by omega), if_pos (by omega), if_neg (by simp), wrapS i (by omega)]
    exact same_l0 l hl n (i + 1) (by omega) (by omega)
theorem same_f (l : List SP) (hl : l.length < 4398046511104) : laws_samePairs.f (l.length + 1) l l = some true := by
  have := same_l0 l hl l.length 0 (by omega) (by omega)
  simpa [laws_samePairs.f] using this
open Go.Proofs.YtcocmdbleicmcaaGreatDoor.Ord (lastOf)
open SM
theorem asc_iS {l : List IP} (h : Ord.Asc S89.f0 l) : Ord.Asc S52.f0 (l.map iS) := by
  unfold Ord.Asc at *; exact List.pairwise_map.2 h
theorem putsP_len (l : List IP) : (putsP l).length ≤ l.length := by
  induction l using Ord.snocRec with
  | nil => simp [putsP]
  | snoc l x ih =>
    have e : putsP (l ++ [x]) = put (putsP l) x.f0 x.f1 := by simp [putsP]
    rw [e]
    have := length_put (putsP l) x.f0 x.f1
    simp only [List.length_append, List.length_singleton]; omega
theorem fitP_asc (l : List SP) : Ord.Asc S52.f0 (fitP l) := Ord.fit_asc _
theorem fitP_len (l : List SP) : (fitP l).length ≤ l.length := Ord.fit_length l

end Go.Proofs.YtcocmdbleicmcaaGreatDoor.M
