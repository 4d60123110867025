/- Plain: the loops over options; what an override has. The walk of spec.Override. -/
import Derived.Test.YtcocmdbleicmcaaGreatDoorOverr
import Derived.Test.YtcocmdbleicmcaaGreatDoorPairs
import Derived.Test.YtcocmdbleicmcaaGreatDoorPXx3
import Derived.Test.YtcocmdbleicmcaaGreatDoorPXx4
namespace Go.Proofs.YtcocmdbleicmcaaGreatDoor.M
set_option linter.unusedVariables false
set_option linter.unusedSimpArgs false
set_option linter.unusedSectionVars false
open Go.RowKit Go.Proofs.YtcocmdbleicmcaaGreatDoorW.PrintWords Go.Proofs.YtcocmdbleicmcaaGreatDoorW.PrintLast Go.Proofs.YtcocmdbleicmcaaGreatDoor.PX

abbrev SO := S75
abbrev IO := S76
def sIo (x : SO) : IO := ⟨x.f0, x.f1, x.f2⟩
def iSo (x : IO) : SO := ⟨x.f0, x.f1, x.f2⟩
theorem rd_getSO {l : List SO} {i : Nat} (h : i < l.length) : rd_T75 l (i : Int) = l[i] := by
  simp [rd_T75, List.getD_eq_getElem?_getD, List.getElem?_eq_getElem h]
theorem toO_l0 (l : List SO) (hl : l.length < 3518437208883) : ∀ n i, n = l.length - i → i ≤ l.length → laws_optsTo.l0 (n + 1) l ((l.take i).map sIo) (i : Int) = some (l.map sIo)
  | 0, i, h, hi => by
    obtain rfl : i = l.length := by omega
    rw [List.take_length, laws_optsTo.l0, if_neg (by omega)]
  | n + 1, i, h, hi => by
    have hlt : i < l.length := by omega
    rw [laws_optsTo.l0, if_pos (by omega), if_pos (by omega), if_pos (by simp only [List.length_map, List.length_take]; omega), wrapS i (by omega)]
    have e : (l.take i).map sIo ++ [(⟨(rd_T75 l i).f0, (rd_T75 l i).f1, (rd_T75 l i).f2⟩ : IO)] = (l.take (i + 1)).map sIo := by
      rw [List.take_succ_eq_append_getElem hlt, List.map_append, rd_getSO hlt]; rfl
    rw [e]
    exact toO_l0 l hl n (i + 1) (by omega) (by omega)
theorem toO_f (l : List SO) (hl : l.length < 3518437208883) : laws_optsTo.f (l.length + 1) l = some (l.map sIo) := by
  have := toO_l0 l hl l.length 0 (by omega) (by omega)
  simpa [laws_optsTo.f] using this
theorem rd_getIO {l : List IO} {i : Nat} (h : i < l.length) : rd_T76 l (i : Int) = l[i] := by
  simp [rd_T76, List.getD_eq_getElem?_getD, List.getElem?_eq_getElem h]
theorem fromO_l0 (l : List IO) (hl : l.length < 3518437208883) : ∀ n i, n = l.length - i → i ≤ l.length → laws_optsFrom.l0 (n + 1) l ((l.take i).map iSo) (i : Int) = some (l.map iSo)
  | 0, i, h, hi => by
    obtain rfl : i = l.length := by omega
    rw [List.take_length, laws_optsFrom.l0, if_neg (by omega)]
  | n + 1, i, h, hi => by
    have hlt : i < l.length := by omega
    rw [laws_optsFrom.l0, if_pos (by omega), if_pos (by omega), if_pos (by simp only [List.length_map, List.length_take]; omega), wrapS i (by omega)]
    have e : (l.take i).map iSo ++ [(⟨(rd_T76 l i).f0, (rd_T76 l i).f1, (rd_T76 l i).f2⟩ : SO)] = (l.take (i + 1)).map iSo := by
      rw [List.take_succ_eq_append_getElem hlt, List.map_append, rd_getIO hlt]; rfl
    rw [e]
    exact fromO_l0 l hl n (i + 1) (by omega) (by omega)
theorem fromO_f (l : List IO) (hl : l.length < 3518437208883) : laws_optsFrom.f (l.length + 1) l = some (l.map iSo) := by
  have := fromO_l0 l hl l.length 0 (by omega) (by omega)
  simpa [laws_optsFrom.f] using this
theorem sameO_l0 (l : List SO) (hl : l.length < 3518437208883) : ∀ n i, n = l.length - i → i ≤ l.length → laws_sameOpts.l0 (n + 1) l l (i : Int) = some true
  | 0, i, h, hi => by
    obtain rfl : i = l.length := by omega
    rw [laws_sameOpts.l0, if_neg (by omega)]
  | n + 1, i, h, hi => by
    rw [laws_sameOpts.l0, if_pos (by omega), if_pos (by omega), if_pos (by omega), if_neg (by simp), wrapS i (by omega)]
    exact sameO_l0 l hl n (i + 1) (by omega) (by omega)
theorem sameO_f (l : List SO) (hl : l.length < 3518437208883) : laws_sameOpts.f (l.length + 1) l l = some true := by
  have := sameO_l0 l hl l.length 0 (by omega) (by omega)
  simpa [laws_sameOpts.f] using this
theorem fits8 (a b : ByteArray) (c : Bool) : ∃ r, laws_zzFits8.f a b c = some r := by
  unfold laws_zzFits8.f; split
  · exact ⟨_, rfl⟩
  · split <;> exact ⟨_, rfl⟩
theorem fits7_l0 (l : List SO) (hl : l.length ≤ 2147483647) : ∀ n i, n = l.length - i → i ≤ l.length → ∃ r, laws_zzFits7.l0 (n + 1) l (l.length : Int) (i : Int) = some r
  | 0, i, h, hi => by
    obtain rfl : i = l.length := by omega
    rw [laws_zzFits7.l0, if_neg (by omega)]; exact ⟨_, rfl⟩
  | n + 1, i, h, hi => by
    rw [laws_zzFits7.l0, if_pos (by omega), if_pos (by omega), if_pos (by omega), wrapS i (by omega)]
    obtain ⟨r, hr⟩ := fits8 (rd_T75 l i).f0 (rd_T75 l i).f1 (rd_T75 l i).f2
    rw [hr]
    simp only [Option.bind_some]
    split
    · exact fits7_l0 l hl n (i + 1) (by omega) (by omega)
    · exact ⟨_, rfl⟩
theorem fits7 (l : List SO) : ∃ r, laws_zzFits7.f (l.length + 1) l = some r ∧ (r = true → l.length ≤ 2147483647) := by
  unfold laws_zzFits7.f
  split
  · exact ⟨_, rfl, fun h => by cases h⟩
  · obtain ⟨r, hr⟩ := fits7_l0 l (by omega) l.length 0 (by omega) (by omega)
    exact ⟨r, hr, fun _ => by omega⟩


open Go.Proofs.YtcocmdbleicmcaaGreatDoor.Ord (lastOf)
open SM
theorem lastOf_mem {α : Type} {key : α → ByteArray} {l : List α} {k : ByteArray} {p : α} (h : lastOf key l k = some p) : p ∈ l := by
  induction l using Ord.snocRec with
  | nil => simp [lastOf] at h
  | snoc l x ih =>
    rw [Ord.lastOf_snoc] at h
    split at h
    · injection h with h; simp [h]
    · exact List.mem_append_left _ (ih h)
theorem fitO_asc (l : List SO) : Ord.Asc S75.f0 (fitO l) := Ord.fit_asc _
theorem fitO_len (l : List SO) : (fitO l).length ≤ l.length := Nat.le_trans (Ord.fit_length _) (by rw [List.length_map]; exact Nat.le_refl _)
def valS (x : SO) : Option ByteArray := if x.f2 = true then some x.f1 else none
def eO : ByteArray × Option ByteArray → IO
  | (k, none) => ⟨k, ⟨#[]⟩, false⟩
  | (k, some s) => ⟨k, s, true⟩
theorem opO_eO (q : ByteArray × PO) : opO q = eO (q.1, q.2.map (·.2)) := by obtain ⟨k, _ | _⟩ := q <;> rfl
theorem putsE_mem (l : List IO) (q : ByteArray × Option ByteArray) : q ∈ putsE l ↔ (lastOf S76.f0 l q.1).map valO = some q.2 := by
  induction l using Ord.snocRec with
  | nil => simp [putsE, lastOf]
  | snoc l x ih =>
    rw [putsE_snoc, mem_put, Ord.lastOf_snoc, ih]
    obtain ⟨a, b⟩ := q
    simp only []
    by_cases h : x.f0 = a
    · subst h; simp [eq_comm]
    · rw [if_neg h]
      constructor
      · rintro (h' | h')
        · injection h' with h1 h2; exact absurd h1.symm h
        · exact h'.2
      · intro h'; exact .inr ⟨fun e => h e.symm, h'⟩
theorem asc_sIo {l : List SO} (h : Ord.Asc S75.f0 l) : Ord.Asc S76.f0 (l.map sIo) := by
  unfold Ord.Asc at *; exact List.pairwise_map.2 h
theorem asc_iSo {l : List IO} (h : Ord.Asc S76.f0 l) : Ord.Asc S75.f0 (l.map iSo) := by
  unfold Ord.Asc at *; exact List.pairwise_map.2 h
theorem putsE_asc {a : List SO} (ha : Ord.Asc S75.f0 a) (q : ByteArray × Option ByteArray) : q ∈ putsE (a.map sIo) ↔ ∃ x, x ∈ a ∧ x.f0 = q.1 ∧ valS x = q.2 := by
  rw [putsE_mem]
  constructor
  · intro h
    obtain ⟨y, hy, hv⟩ := Option.map_eq_some_iff.1 h
    obtain ⟨x, hx, rfl⟩ := List.mem_map.1 (lastOf_mem hy)
    have hk := Ord.lastOf_key hy
    exact ⟨x, hx, hk, hv⟩
  · rintro ⟨x, hx, hk, hv⟩
    have := (Ord.lastOf_asc (asc_sIo ha) (sIo x)).2 (List.mem_map_of_mem hx)
    rw [show S76.f0 (sIo x) = q.1 from hk] at this
    rw [this]
    exact congrArg some hv
end Go.Proofs.YtcocmdbleicmcaaGreatDoor.M
