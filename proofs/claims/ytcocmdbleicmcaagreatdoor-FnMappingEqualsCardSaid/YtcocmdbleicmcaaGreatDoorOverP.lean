/- Plain: the loops over options; what an override has. The walk of spec.Override. -/
import Derived.Test.YtcocmdbleicmcaaGreatDoorOverr
import Derived.Test.YtcocmdbleicmcaaGreatDoorPairs
import Derived.Test.YtcocmdbleicmcaaGreatDoorPXx3
import Derived.Test.YtcocmdbleicmcaaGreatDoorPXx4
namespace Go.Proofs.YtcocmdbleicmcaaGreatDoor.M
set_option linter.unusedVariables false
set_option linter.unusedSimpArgs false
set_option linter.unusedSectionVars false
open Go.RowKit Go.Proofs.YtcocmdbleicmcaaGreatDoorW.PrintWords Go.Proofs.YtcocmdbleicmcaaGreatDoorW.PrintLast Go.Proofs.YtcocmdbleicmcaaGreatDoor.PX

abbrev SO := S75
abbrev IO := S76
def sIo (x : SO) : IO := ⟨x.f0, x.f1, x.f2⟩
def iSo (x : IO) : SO := ⟨x.f0, x.f1, x.f2⟩
theorem rd_getIO {l : List IO} {i : Nat} (h : i < l.length) : rd_T76 l (i : Int) = l[i] := by
  simp [rd_T76, List.getD_eq_getElem?_getD, List.getElem?_eq_getElem h]
theorem fromO_l0 (l : List IO) (hl : l.length < 3518437208883) : ∀ n i, n = l.length - i → i ≤ l.length → laws_optsFrom.l0 (n + 1) l ((l.take i).map iSo) (i : Int) = some (l.map iSo)
  | 0, i, h, hi => by
    obtain rfl : i = l.length := by omega
    rw [List.take_length, laws_optsFrom.l0, if_neg (by omega)]
  | n + 1, i, h, hi => by
    have hlt : i < l.length := by omega
    rw [laws_optsFrom.l0, if_pos (by omega), if_pos (by omega), if_pos (by simp only [List.length_map, List.length_take]; omega), wrapS i (by omega)]
    have e : (l.take i).map iSo ++ [(⟨(rd_T76 l i).f0, (rd_T76 l i).f1, (rd_T76 l i).f2⟩ : SO)] = (l.take (i + 1)).map iSo := by
      rw [List.take_succ_eq_append_getElem hlt, List.map_append, rd_getIO hlt]; rfl
    rw [e]
    exact fromO_l0 l hl n (i + 1) (by omega) (by omega)
theorem fromO_f (l : List IO) (hl : l.length < 3518437208883) : laws_optsFrom.f (l.length + 1) l = some (l.map iSo) := by
  have := fromO_l0 l hl l.length 0 (by omega) (by omega)
  simpa [laws_optsFrom.f] using this
theorem sameO_l0 (l : List SO) (hl : l.length < 3518437208883) : ∀ n i, n = l.length - i → i ≤ l.length → laws_sameOpts.l0 (n + 1) l l (i : Int) = some true
  | 0, i, h, hi => by
    obtain rfl : i = l.length := by omega
    rw [laws_sameOpts.l0, if_neg (by omega)]
  | n + 1, i, h, hi => by
    rw [laws_sameOpts.l0, if_pos (by omega), if_pos (by omega), if_pos (by omega), if_neg (by simp), wrapS i (by omega)]
    exact sameO_l0 l hl n (i + 1) (by omega) (by omega)
theorem sameO_f (l : List SO) (hl : l.length < 3518437208883) : laws_sameOpts.f (l.length + 1) l l = some true := by
  have := sameO_l0 l hl l.length 0 (by omega) (by omega)
  simpa [laws_sameOpts.f] using this
open Go.Proofs.YtcocmdbleicmcaaGreatDoor.Ord (lastOf)
open SM
theorem lastOf_mem {α : Type} {key : α → ByteArray} {l : List α} {k : ByteArray} {p : α} (h : lastOf key l k = some p) : p ∈ l := by
  induction l using Ord.snocRec with
  | nil => simp [lastOf] at h
  | snoc l x ih =>
    rw [Ord.lastOf_snoc] at h
    split at h
    · injection h with h; simp [h]
    · exact List.mem_append_left _ (ih h)
theorem normO_idem (x : SO) : normO (normO x) = normO x := by
  unfold normO
  split
  · rename_i h; simp [h]
  · rename_i h; simp [h]
theorem fitO_norm {l : List SO} {x : SO} (h : x ∈ fitO l) : normO x = x := by
  have := lastOf_mem ((Ord.fit_mem _ _).1 h)
  obtain ⟨y, _, rfl⟩ := List.mem_map.1 this
  exact normO_idem y
theorem fitO_asc (l : List SO) : Ord.Asc S75.f0 (fitO l) := Ord.fit_asc _
theorem fitO_len (l : List SO) : (fitO l).length ≤ l.length := Nat.le_trans (Ord.fit_length _) (by rw [List.length_map]; exact Nat.le_refl _)
def valS (x : SO) : Option ByteArray := if x.f2 = true then some x.f1 else none
theorem valO_sIo (x : SO) : valO (sIo x) = valS x := rfl
def eO : ByteArray × Option ByteArray → IO
  | (k, none) => ⟨k, ⟨#[]⟩, false⟩
  | (k, some s) => ⟨k, s, true⟩
theorem opO_eO (q : ByteArray × PO) : opO q = eO (q.1, q.2.map (·.2)) := by obtain ⟨k, _ | _⟩ := q <;> rfl
theorem eO_norm {x : SO} (h : normO x = x) : eO (x.f0, valS x) = sIo x := by
  obtain ⟨k, v, b⟩ := x
  cases b with
  | true => rfl
  | false =>
    have h1 : (⟨#[]⟩ : ByteArray) = v := by
      have := congrArg (fun y : SO => y.f1) h
      simpa [normO] using this
    subst h1
    rfl
theorem sIo_inj {x y : SO} (h : sIo x = sIo y) : x = y := by
  obtain ⟨a, b, c⟩ := x; obtain ⟨d, e, f⟩ := y
  injection h with h1 h2 h3
  simp only at h1 h2 h3
  subst h1; subst h2; subst h3; rfl
theorem putsE_mem (l : List IO) (q : ByteArray × Option ByteArray) : q ∈ putsE l ↔ (lastOf S76.f0 l q.1).map valO = some q.2 := by
  induction l using Ord.snocRec with
  | nil => simp [putsE, lastOf]
  | snoc l x ih =>
    rw [putsE_snoc, mem_put, Ord.lastOf_snoc, ih]
    obtain ⟨a, b⟩ := q
    simp only []
    by_cases h : x.f0 = a
    · subst h; simp [eq_comm]
    · rw [if_neg h]
      constructor
      · rintro (h' | h')
        · injection h' with h1 h2; exact absurd h1.symm h
        · exact h'.2
      · intro h'; exact .inr ⟨fun e => h e.symm, h'⟩
theorem asc_iSo {l : List IO} (h : Ord.Asc S76.f0 l) : Ord.Asc S75.f0 (l.map iSo) := by
  unfold Ord.Asc at *; exact List.pairwise_map.2 h
theorem map_normO {l : List SO} (h : ∀ x, x ∈ l → normO x = x) : l.map normO = l := by
  induction l with
  | nil => rfl
  | cons a l ih => rw [List.map_cons, h a (by simp), ih (fun x hx => h x (by simp [hx]))]
end Go.Proofs.YtcocmdbleicmcaaGreatDoor.M
