/- The walks of utils.RemoveDuplicates and utils.ArrayContains, and of laws.FnDistinct. -/
import Derived.Test.YtcocmdbleicmcaaGreatDoorAwake
import Derived.Test.YtcocmdbleicmcaaGreatDoorShelf
import Derived.Test.YtcocmdbleicmcaaGreatDoorPairs
import Derived.Test.YtcocmdbleicmcaaGreatDoorDoor
import Derived.Test.YtcocmdbleicmcaaGreatDoorPXx3
import Derived.Test.YtcocmdbleicmcaaGreatDoorPXx5
namespace Go.Proofs.YtcocmdbleicmcaaGreatDoor.M
set_option linter.unusedVariables false
set_option linter.unusedSimpArgs false
set_option linter.unusedSectionVars false
open Go.RowKit Go.Proofs.YtcocmdbleicmcaaGreatDoorW.PrintWords Go.Proofs.YtcocmdbleicmcaaGreatDoorW.PrintLast Go.Proofs.YtcocmdbleicmcaaGreatDoor.PX Go.Proofs.YtcocmdbleicmcaaGreatDoor.SM

/-! ### plain -/
def dstep (out : List ByteArray) (x : ByteArray) : List ByteArray := if Lib.containsS out x = true then out else out ++ [x]
def dist (l : List ByteArray) : List ByteArray := l.foldl dstep []
theorem dist_snoc (l : List ByteArray) (x : ByteArray) : dist (l ++ [x]) = dstep (dist l) x := by simp [dist]
theorem dist_mem (l : List ByteArray) (x : ByteArray) : x ∈ dist l ↔ x ∈ l := by
  induction l using Ord.snocRec with
  | nil => simp [dist]
  | snoc l y ih =>
    rw [dist_snoc, dstep]
    split
    · rename_i h
      rw [Lib.containsS_iff] at h
      rw [ih]; simp only [List.mem_append, List.mem_singleton]
      exact ⟨.inl, fun h2 => h2.elim id (fun e => ih.1 (by rw [e]; exact h))⟩
    · simp only [List.mem_append, List.mem_singleton, ih]
theorem dist_nodup (l : List ByteArray) : (dist l).Nodup := by
  induction l using Ord.snocRec with
  | nil => simp [dist]
  | snoc l y ih =>
    rw [dist_snoc, dstep]
    split
    · exact ih
    · rename_i h
      exact List.nodup_append.2 ⟨ih, by simp, fun a ha b hb e => h ((Lib.containsS_iff _ _).2 (by rw [List.mem_singleton] at hb; rw [← hb, ← e]; exact ha))⟩
theorem dist_len (l : List ByteArray) : (dist l).length ≤ l.length := by
  induction l using Ord.snocRec with
  | nil => simp [dist]
  | snoc l y ih =>
    rw [dist_snoc, dstep]
    split <;> simp <;> omega
theorem in_l0 (l : List ByteArray) (s : ByteArray) (hl : l.length < 4398046511104) : ∀ n k i, n = l.length - i → i ≤ l.length → n + 1 ≤ k → spec_mapsIn.l0 k l s (i : Int) = some (Lib.containsS (l.drop i) s)
  | 0, k + 1, i, h, hi, hk => by
    obtain rfl : i = l.length := by omega
    rw [spec_mapsIn.l0, if_neg (by omega), List.drop_length]; rfl
  | n + 1, k + 1, i, h, hi, hk => by
    have hlt : i < l.length := by omega
    have hr : rdOf ByteArray.empty l (i : Int) = l[i] := by simp [rdOf, List.getD_eq_getElem?_getD, List.getElem?_eq_getElem hlt]
    rw [spec_mapsIn.l0, if_pos (by omega), if_pos (by omega), hr, wrapS i (by omega), in_l0 l s hl n k (i + 1) (by omega) (by omega) (by omega), List.drop_eq_getElem_cons hlt]
    by_cases e : l[i] = s
    · rw [if_pos (by rw [e]), (Lib.containsS_iff _ _).2 (by rw [e]; simp)]
    · rw [if_neg (fun h => e (Ord.toList_inj h))]
      congr 1
      rw [Bool.eq_iff_iff, Lib.containsS_iff, Lib.containsS_iff, List.mem_cons]
      exact ⟨.inr, fun h => h.elim (fun h => absurd h.symm e) id⟩
  | n, 0, i, h, hi, hk => by omega
theorem in_f (l : List ByteArray) (s : ByteArray) (hl : l.length < 4398046511104) (k : Nat) (hk : l.length + 1 ≤ k) : spec_mapsIn.f k l s = some (Lib.containsS l s) := by
  have := in_l0 l s hl l.length k 0 (by omega) (by omega) hk
  simpa [spec_mapsIn.f] using this
theorem distinct_l0 (l : List ByteArray) (hl : l.length < 4398046511104) : ∀ n i, n = l.length - i → i ≤ l.length → spec_Distinct.l0 (l.length + n + 2) l (dist (l.take i)) (i : Int) = some (dist l)
  | 0, i, h, hi => by
    obtain rfl : i = l.length := by omega
    rw [List.take_length, spec_Distinct.l0, if_neg (by omega)]
  | n + 1, i, h, hi => by
    have hlt : i < l.length := by omega
    have hr : rdOf ByteArray.empty l (i : Int) = l[i] := by simp [rdOf, List.getD_eq_getElem?_getD, List.getElem?_eq_getElem hlt]
    have hd := dist_len (l.take i)
    rw [List.length_take] at hd
    rw [show l.length + (n + 1) + 2 = (l.length + n + 2) + 1 by omega, spec_Distinct.l0, if_pos (by omega), if_pos (by omega), hr, in_f _ _ (by omega) _ (by omega), wrapS i (by omega)]
    have ih := distinct_l0 l hl n (i + 1) (by omega) (by omega)
    rw [List.take_succ_eq_append_getElem hlt, dist_snoc, dstep] at ih
    simp only [Option.bind_some]
    by_cases hin : Lib.containsS (dist (l.take i)) l[i] = true
    · rw [if_pos hin]; rw [if_pos hin] at ih; exact ih
    · rw [if_neg hin, if_pos (by omega)]; rw [if_neg hin] at ih; exact ih
theorem distinct_f (l : List ByteArray) (hl : l.length < 4398046511104) : spec_Distinct.f (l.length + l.length + 2) l = some (dist l) := by
  have := distinct_l0 l hl l.length 0 (by omega) (by omega)
  simpa [spec_Distinct.f, dist] using this
theorem sameT_l0 (l : List ByteArray) (hl : l.length < 4398046511104) : ∀ n i, n = l.length - i → i ≤ l.length → laws_sameTexts.l0 (n + 1) l l (i : Int) = some true
  | 0, i, h, hi => by
    obtain rfl : i = l.length := by omega
    rw [laws_sameTexts.l0, if_neg (by omega)]
  | n + 1, i, h, hi => by
    rw [laws_sameTexts.l0, if_pos (by omega), if_pos (by omega), if_pos (by omega), if_pos rfl, wrapS i (by omega)]
    exact sameT_l0 l hl n (i + 1) (by omega) (by omega)
theorem sameT_f (l : List ByteArray) (hl : l.length < 4398046511104) : laws_sameTexts.f (l.length + 1) l l = some true := by
  have := sameT_l0 l hl l.length 0 (by omega) (by omega)
  simpa [laws_sameTexts.f] using this
theorem fits2_l0 (l : List ByteArray) (hl : l.length ≤ 2147483647) : ∀ n i, n = l.length - i → i ≤ l.length → ∃ r, laws_zzFits2.l0 (n + 1) l (l.length : Int) (i : Int) = some r
  | 0, i, h, hi => by
    obtain rfl : i = l.length := by omega
    rw [laws_zzFits2.l0, if_neg (by omega)]; exact ⟨_, rfl⟩
  | n + 1, i, h, hi => by
    rw [laws_zzFits2.l0, if_pos (by omega), if_pos (by omega), if_pos (by omega), wrapS i (by omega)]
    split
    · exact ⟨_, rfl⟩
    · exact fits2_l0 l hl n (i + 1) (by omega) (by omega)
theorem fits2 (l : List ByteArray) : ∃ r, laws_zzFits2.f (l.length + 1) l = some r ∧ (r = true → l.length ≤ 2147483647) := by
  unfold laws_zzFits2.f
  split
  · exact ⟨_, rfl, fun h => by cases h⟩
  · obtain ⟨r, hr⟩ := fits2_l0 l (by omega) l.length 0 (by omega) (by omega)
    exact ⟨r, hr, fun _ => by omega⟩
/-! ### slices.Contains -/
/-! ### the walks -/
end Go.Proofs.YtcocmdbleicmcaaGreatDoor.M
