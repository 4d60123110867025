/- Plain law of the mapped entries: what ToMapping, NewLabelsFromMappingWithEquals and ToMappingWithEquals leave, and the words of spec.Full and spec.Pairs. -/
import Derived.Test.YtcocmdbleicmcaaGreatDoorOverP
import Derived.Test.YtcocmdbleicmcaaGreatDoorPairs
import Derived.Test.YtcocmdbleicmcaaGreatDoorPXx6
namespace Go.Proofs.YtcocmdbleicmcaaGreatDoor.M
set_option linter.unusedVariables false
set_option linter.unusedSimpArgs false
set_option linter.unusedSectionVars false
open Go.RowKit Go.Proofs.YtcocmdbleicmcaaGreatDoorW.PrintWords Go.Proofs.YtcocmdbleicmcaaGreatDoorW.PrintLast Go.Proofs.YtcocmdbleicmcaaGreatDoor.PX Go.Proofs.YtcocmdbleicmcaaGreatDoor.SM

def fpO : ByteArray × PO → Option (ByteArray × ByteArray)
  | (_, none) => none
  | (k, some p) => some (k, p.2)
def fpI : ByteArray × Option ByteArray → Option (ByteArray × ByteArray)
  | (_, none) => none
  | (k, some s) => some (k, s)
def upI (p : ByteArray × ByteArray) : ByteArray × Option ByteArray := (p.1, some p.2)
theorem fpO_img (m : List (ByteArray × PO)) : m.filterMap fpO = (img m).filterMap fpI := by
  unfold img
  rw [List.filterMap_map]
  congr 1
  funext p
  obtain ⟨k, _ | _⟩ := p <;> rfl
theorem put_new {β : Type} {m : List (ByteArray × β)} {k : ByteArray} (v : β) (h : has m k = false) : put m k v = m ++ [(k, v)] := by simp [put, h]
theorem key_fresh {β : Type} {m ql rm : List (ByteArray × β)} (hn : (keys m).Nodup) (hp : (ql ++ rm).Perm m) {q : ByteArray × β} (hq : q ∈ rm) : ∀ p ∈ ql, p.1 ≠ q.1 := by
  intro p hp1 e
  have h1 : ((ql ++ rm).map (·.1)).Nodup := (hp.map (fun p : ByteArray × β => p.1)).nodup_iff.2 hn
  rw [List.map_append, List.nodup_append] at h1
  exact h1.2.2 p.1 (List.mem_map_of_mem hp1) q.1 (List.mem_map_of_mem hq) e
theorem has_none {β : Type} {m : List (ByteArray × β)} {k : ByteArray} (h : ∀ p ∈ m, p.1 ≠ k) : has m k = false := by
  cases e : has m k
  · rfl
  · simp only [has, List.any_eq_true, decide_eq_true_eq] at e
    obtain ⟨p, hp, e⟩ := e
    exact absurd e (h p hp)
theorem fresh_fp {m ql rm : List (ByteArray × PO)} (hn : (keys m).Nodup) (hp : (ql ++ rm).Perm m) {q : ByteArray × PO} (hq : q ∈ rm) : has (ql.filterMap fpO) q.1 = false := by
  refine has_none (fun p hp1 => ?_)
  obtain ⟨x, hx, e⟩ := List.mem_filterMap.1 hp1
  have := key_fresh hn hp hq x hx
  obtain ⟨k, _ | y⟩ := x
  · cases e
  · injection e with e; subst e; exact this
theorem fresh_up {m ql rm : List (ByteArray × ByteArray)} (hn : (keys m).Nodup) (hp : (ql ++ rm).Perm m) {q : ByteArray × ByteArray} (hq : q ∈ rm) : has (ql.map upI) q.1 = false := by
  refine has_none (fun p hp1 => ?_)
  obtain ⟨x, hx, rfl⟩ := List.mem_map.1 hp1
  exact key_fresh hn hp hq x hx
/-- The pairs of names with a value. -/
def prS (x : SO) : SP := ⟨x.f0, x.f1⟩
theorem asc_prS {L : List SO} (h : Ord.Asc S75.f0 L) : Ord.Asc S52.f0 (L.map prS) := by
  unfold Ord.Asc at h ⊢; rw [List.pairwise_map]; exact h
/-- What ToMapping leaves, told. -/
theorem mapped {L : List SO} (hA : Ord.Asc S75.f0 L) (hh : ∀ x, x ∈ L → x.f2 = true) {m1 : List (ByteArray × PO)} (hi : img m1 = putsE (L.map sIo)) {m3 : List (ByteArray × ByteArray)} (hp3 : m3.Perm (m1.filterMap fpO)) {g : List IP} (hg : Ord.Asc S89.f0 g) (hp : (g.map tpI).Perm m3) : g.map iS = L.map prS := by
  refine Ord.asc_ext (asc_iS hg) (asc_prS hA) (fun p => ?_)
  have h1 : p ∈ g.map iS ↔ (p.f0, p.f1) ∈ g.map tpI := by
    rw [List.mem_map, List.mem_map]
    constructor
    · rintro ⟨x, hx, rfl⟩; exact ⟨x, hx, rfl⟩
    · rintro ⟨x, hx, e⟩
      refine ⟨x, hx, ?_⟩
      obtain ⟨a, b⟩ := p
      obtain ⟨c, d⟩ := x
      simp only [tpI, Prod.mk.injEq] at e
      simp [iS, e.1, e.2]
  rw [h1, (hp.trans hp3).mem_iff, fpO_img, hi, List.mem_filterMap, List.mem_map]
  constructor
  · rintro ⟨q, hq, e⟩
    obtain ⟨x, hx, hk, hv⟩ := (putsE_asc hA q).1 hq
    refine ⟨x, hx, ?_⟩
    obtain ⟨k, _ | s⟩ := q
    · cases e
    · simp only [fpI, Option.some.injEq, Prod.mk.injEq] at e
      simp only at hk hv
      rw [valS, if_pos (hh x hx)] at hv
      injection hv with hv
      obtain ⟨a, b⟩ := p
      simp only at e
      simp [prS, hk, hv, e.1, e.2]
  · rintro ⟨x, hx, rfl⟩
    exact ⟨(x.f0, some x.f1), (putsE_asc hA _).2 ⟨x, hx, rfl, by rw [valS, if_pos (hh x hx)]⟩, rfl⟩
/-- What ToMappingWithEquals leaves, told. -/
theorem remapped {L : List SO} (hA : Ord.Asc S75.f0 L) (hh : ∀ x, x ∈ L → x.f2 = true) {g : List IP} (he : g.map iS = L.map prS) {m3 : List (ByteArray × PO)} (hp3 : (img m3).Perm ((putsP g).map upI)) {o : List IO} (ho : Ord.Asc S76.f0 o) (hp : o.Perm (m3.map opO)) : o.map iSo = L := by
  refine Ord.asc_ext (asc_iSo ho) hA (fun p => ?_)
  have hgs : g = (L.map prS).map sI := by
    rw [← he, List.map_map]
    conv => lhs; rw [← List.map_id g]
    rfl
  have h0 : p ∈ o.map iSo ↔ sIo p ∈ o := by
    rw [List.mem_map]
    constructor
    · rintro ⟨x, hx, rfl⟩; exact hx
    · intro h; exact ⟨_, h, rfl⟩
  have h1 : m3.map opO = (img m3).map eO := by
    unfold img; rw [List.map_map]; exact List.map_congr_left (fun q _ => opO_eO q)
  rw [h0, hp.mem_iff, h1, (hp3.map eO).mem_iff, List.map_map, List.mem_map]
  constructor
  · rintro ⟨q, hq, e⟩
    rw [hgs, putsA_mem (asc_prS hA)] at hq
    obtain ⟨x, hx, e2⟩ := List.mem_map.1 hq
    have e3 : x = p := by
      have hf := hh x hx
      obtain ⟨a, b, c⟩ := x
      obtain ⟨a', b', c'⟩ := p
      simp only [prS, S52.mk.injEq] at e2
      simp only [eO, upI, Function.comp_apply, sIo, S76.mk.injEq] at e
      simp only at hf
      simp [← e.1, ← e.2.1, ← e.2.2, e2.1, e2.2, hf]
    rw [← e3]; exact hx
  · intro hx
    refine ⟨(p.f0, p.f1), ?_, ?_⟩
    · rw [hgs, putsA_mem (asc_prS hA)]
      exact List.mem_map.2 ⟨p, hx, rfl⟩
    · have hf := hh p hx
      simp [eO, upI, sIo, hf]
def fullO (l : List SO) : List SO := l.filter (fun x => x.f2)
theorem fullO_has (l : List SO) : ∀ x, x ∈ fullO l → x.f2 = true := fun _ h => (List.mem_filter.1 h).2
theorem fullO_asc {l : List SO} (h : Ord.Asc S75.f0 l) : Ord.Asc S75.f0 (fullO l) := List.Pairwise.filter _ h
theorem fullO_len (l : List SO) : (fullO l).length ≤ l.length := List.length_filter_le _ _
theorem full_l0 (l : List SO) (hl : l.length < 3518437208883) : ∀ n i, n = l.length - i → i ≤ l.length → spec_Full.l0 (n + 1) l (fullO (l.take i)) (i : Int) = some (fullO l)
  | 0, i, h, hi => by
    obtain rfl : i = l.length := by omega
    rw [spec_Full.l0, if_neg (by omega), List.take_length]
  | n + 1, i, h, hi => by
    have hlt : i < l.length := by omega
    have hx := rd_getSO hlt
    have hd : (fullO (l.take i)).length < 3518437208883 := by have := fullO_len (l.take i); rw [List.length_take] at this; omega
    rw [spec_Full.l0, if_pos (by omega), if_pos (by omega), wrapS i (by omega), hx]
    have ht : fullO (l.take (i + 1)) = if l[i].f2 = true then fullO (l.take i) ++ [l[i]] else fullO (l.take i) := by
      rw [List.take_succ_eq_append_getElem hlt, fullO, List.filter_append]
      cases e : l[i].f2 <;> simp [e, fullO]
    by_cases e : l[i].f2 = true
    · rw [if_pos e, if_pos hd]
      rw [if_pos e] at ht
      rw [← ht]
      exact full_l0 l hl n (i + 1) (by omega) (by omega)
    · rw [if_neg e]
      rw [if_neg e] at ht
      rw [← ht]
      exact full_l0 l hl n (i + 1) (by omega) (by omega)
theorem full_f (l : List SO) (hl : l.length < 3518437208883) : spec_Full.f (l.length + 1) l = some (fullO l) := by
  have := full_l0 l hl l.length 0 (by omega) (by omega)
  exact this
theorem pairs_l0 (l : List SO) (hh : ∀ x, x ∈ l → x.f2 = true) (hl : l.length < 4398046511104) : ∀ n i, n = l.length - i → i ≤ l.length → spec_Pairs.l0 (n + 1) l ((l.take i).map prS) (i : Int) = some (l.map prS)
  | 0, i, h, hi => by
    obtain rfl : i = l.length := by omega
    rw [spec_Pairs.l0, if_neg (by omega), List.take_length]
  | n + 1, i, h, hi => by
    have hlt : i < l.length := by omega
    have hx := rd_getSO hlt
    have hd : ((l.take i).map prS).length < 4398046511104 := by rw [List.length_map, List.length_take]; omega
    rw [spec_Pairs.l0, if_pos (by omega), if_pos (by omega), wrapS i (by omega), hx, if_pos (hh _ (List.getElem_mem hlt)), if_pos hd]
    have ht : (l.take i).map prS ++ [⟨l[i].f0, l[i].f1⟩] = (l.take (i + 1)).map prS := by
      rw [List.take_succ_eq_append_getElem hlt, List.map_append]; rfl
    rw [ht]
    exact pairs_l0 l hh hl n (i + 1) (by omega) (by omega)
theorem pairs_f (l : List SO) (hh : ∀ x, x ∈ l → x.f2 = true) (hl : l.length < 4398046511104) : spec_Pairs.f (l.length + 1) l = some (l.map prS) := by
  have := pairs_l0 l hh hl l.length 0 (by omega) (by omega)
  exact this
end Go.Proofs.YtcocmdbleicmcaaGreatDoor.M
