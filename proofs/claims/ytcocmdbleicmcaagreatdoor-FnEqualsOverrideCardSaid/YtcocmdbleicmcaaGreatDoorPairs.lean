/- Plain: the loops of pairsTo, pairsFrom, samePairs and zzFits3, and what a merge has. -/
import Derived.Test.YtcocmdbleicmcaaGreatDoorMerge
import Derived.Test.YtcocmdbleicmcaaGreatDoorPXx3
import Derived.Test.YtcocmdbleicmcaaGreatDoorPXx4
import Derived.Test.YtcocmdbleicmcaaGreatDoorPXx5
namespace Go.Proofs.YtcocmdbleicmcaaGreatDoor.M
set_option linter.unusedVariables false
set_option linter.unusedSimpArgs false
set_option linter.unusedSectionVars false
open Go.RowKit Go.Proofs.YtcocmdbleicmcaaGreatDoorW.PrintWords Go.Proofs.YtcocmdbleicmcaaGreatDoorW.PrintLast Go.Proofs.YtcocmdbleicmcaaGreatDoor.PX

abbrev SP := S52
abbrev IP := S89
def sI (x : SP) : IP := ⟨x.f0, x.f1⟩
def iS (x : IP) : SP := ⟨x.f0, x.f1⟩
theorem wrapS (i : Nat) (h : i < 4611686018427387904) : wrap64 ((i : Int) + 1) = ((i + 1 : Nat) : Int) := by unfold wrap64; omega
theorem to_l0 (l : List SP) (hl : l.length < 4398046511104) : ∀ n i, n = l.length - i → i ≤ l.length → laws_pairsTo.l0 (n + 1) l ((l.take i).map sI) (i : Int) = some (l.map sI)
  | 0, i, h, hi => by
    obtain rfl : i = l.length := by omega
    rw [List.take_length, laws_pairsTo.l0, if_neg (by omega)]
  | n + 1, i, h, hi => by
    have hlt : i < l.length := by omega
    rw [laws_pairsTo.l0, if_pos (by omega), if_pos (by omega), if_pos (by simp only [List.length_map, List.length_take]; omega), wrapS i (by omega)]
    have e : (l.take i).map sI ++ [(⟨(rd_T52 l i).f0, (rd_T52 l i).f1⟩ : IP)] = (l.take (i + 1)).map sI := by
      rw [List.take_succ_eq_append_getElem hlt, List.map_append, rd_get hlt]; rfl
    rw [e]
    exact to_l0 l hl n (i + 1) (by omega) (by omega)
theorem to_f (l : List SP) (hl : l.length < 4398046511104) : laws_pairsTo.f (l.length + 1) l = some (l.map sI) := by
  have := to_l0 l hl l.length 0 (by omega) (by omega)
  simpa [laws_pairsTo.f] using this
theorem rd_getI {l : List IP} {i : Nat} (h : i < l.length) : rd_T89 l (i : Int) = l[i] := by
  simp [rd_T89, List.getD_eq_getElem?_getD, List.getElem?_eq_getElem h]
theorem from_l0 (l : List IP) (hl : l.length < 4398046511104) : ∀ n i, n = l.length - i → i ≤ l.length → laws_pairsFrom.l0 (n + 1) l ((l.take i).map iS) (i : Int) = some (l.map iS)
  | 0, i, h, hi => by
    obtain rfl : i = l.length := by omega
    rw [List.take_length, laws_pairsFrom.l0, if_neg (by omega)]
  | n + 1, i, h, hi => by
    have hlt : i < l.length := by omega
    rw [laws_pairsFrom.l0, if_pos (by omega), if_pos (by omega), if_pos (by simp only [List.length_map, List.length_take]; omega), wrapS i (by omega)]
    have e : (l.take i).map iS ++ [(⟨(rd_T89 l i).f0, (rd_T89 l i).f1⟩ : SP)] = (l.take (i + 1)).map iS := by
      rw [List.take_succ_eq_append_getElem hlt, List.map_append, rd_getI hlt]; rfl
    rw [e]
    exact from_l0 l hl n (i + 1) (by omega) (by omega)
theorem from_f (l : List IP) (hl : l.length < 4398046511104) : laws_pairsFrom.f (l.length + 1) l = some (l.map iS) := by
  have := from_l0 l hl l.length 0 (by omega) (by omega)
  simpa [laws_pairsFrom.f] using this
theorem same_l0 (l : List SP) (hl : l.length < 4398046511104) : ∀ n i, n = l.length - i → i ≤ l.length → laws_samePairs.l0 (n + 1) l l (i : Int) = some true
  | 0, i, h, hi => by
    obtain rfl : i = l.length := by omega
    rw [laws_samePairs.l0, if_neg (by omega)]
  | n + 1, i, h, hi => by
    rw [laws_samePairs.l0, if_pos (by omega), if_pos (by omega), if_pos (by omega), if_neg (by simp), wrapS i (by omega)]
    exact same_l0 l hl n (i + 1) (by omega) (by omega)
theorem same_f (l : List SP) (hl : l.length < 4398046511104) : laws_samePairs.f (l.length + 1) l l = some true := by
  have := same_l0 l hl l.length 0 (by omega) (by omega)
  simpa [laws_samePairs.f] using this
theorem fits4 (a b : ByteArray) : ∃ r, laws_zzFits4.f a b = some r := by
  unfold laws_zzFits4.f; split
  · exact ⟨_, rfl⟩
  · split <;> exact ⟨_, rfl⟩
theorem fits3_l0 (l : List SP) (hl : l.length ≤ 2147483647) : ∀ n i, n = l.length - i → i ≤ l.length → ∃ r, laws_zzFits3.l0 (n + 1) l (l.length : Int) (i : Int) = some r
  | 0, i, h, hi => by
    obtain rfl : i = l.length := by omega
    rw [laws_zzFits3.l0, if_neg (by omega)]; exact ⟨_, rfl⟩
  | n + 1, i, h, hi => by
    rw [laws_zzFits3.l0, if_pos (by omega), if_pos (by omega), if_pos (by omega), wrapS i (by omega)]
    obtain ⟨r, hr⟩ := fits4 (rd_T52 l i).f0 (rd_T52 l i).f1
    rw [hr]
    simp only [Option.bind_some]
    split
    · exact fits3_l0 l hl n (i + 1) (by omega) (by omega)
    · exact ⟨_, rfl⟩
theorem fits3 (l : List SP) : ∃ r, laws_zzFits3.f (l.length + 1) l = some r ∧ (r = true → l.length ≤ 2147483647) := by
  unfold laws_zzFits3.f
  split
  · exact ⟨_, rfl, fun h => by cases h⟩
  · obtain ⟨r, hr⟩ := fits3_l0 l (by omega) l.length 0 (by omega) (by omega)
    exact ⟨r, hr, fun _ => by omega⟩

open Go.Proofs.YtcocmdbleicmcaaGreatDoor.Ord (lastOf)
open SM
theorem putsP_mem (l : List IP) (q : ByteArray × ByteArray) : q ∈ putsP l ↔ lastOf S89.f0 l q.1 = some ⟨q.1, q.2⟩ := by
  induction l using Ord.snocRec with
  | nil => simp [putsP, lastOf]
  | snoc l x ih =>
    have e : putsP (l ++ [x]) = put (putsP l) x.f0 x.f1 := by simp [putsP]
    rw [e, mem_put, Ord.lastOf_snoc, ih]
    obtain ⟨a, b⟩ := q
    obtain ⟨c, d⟩ := x
    simp only []
    by_cases h : c = a
    · subst h; simp [eq_comm]
    · rw [if_neg h]
      constructor
      · rintro (h' | h')
        · injection h' with h1 h2; exact absurd h1.symm h
        · exact h'.2
      · intro h'; exact .inr ⟨fun e => h e.symm, h'⟩
theorem asc_sI {l : List SP} (h : Ord.Asc S52.f0 l) : Ord.Asc S89.f0 (l.map sI) := by
  unfold Ord.Asc at *; exact List.pairwise_map.2 h
theorem asc_iS {l : List IP} (h : Ord.Asc S89.f0 l) : Ord.Asc S52.f0 (l.map iS) := by
  unfold Ord.Asc at *; exact List.pairwise_map.2 h
theorem putsA_mem {l : List SP} (h : Ord.Asc S52.f0 l) (q : ByteArray × ByteArray) : q ∈ putsP (l.map sI) ↔ (⟨q.1, q.2⟩ : SP) ∈ l := by
  have h2 := Ord.lastOf_asc (asc_sI h) (⟨q.1, q.2⟩ : IP)
  rw [putsP_mem]
  refine h2.trans ?_
  simp only [List.mem_map]
  constructor
  · rintro ⟨⟨a, b⟩, h1, h2⟩; injection h2 with h2 h3; subst h2; subst h3; exact h1
  · intro h1; exact ⟨_, h1, rfl⟩
theorem len_sub : ∀ {l l' : List (ByteArray × ByteArray)}, l.Nodup → (∀ x ∈ l, x ∈ l') → l.length ≤ l'.length
  | [], _, _, _ => Nat.zero_le _
  | a :: t, l', hn, hs => by
    have ha := hs a (by simp)
    have h1 := List.nodup_cons.1 hn
    have := len_sub (l := t) (l' := l'.filter (fun x => decide (x ≠ a))) h1.2 (fun x hx => List.mem_filter.2 ⟨hs x (by simp [hx]), decide_eq_true (fun e => h1.1 (e ▸ hx : a ∈ t))⟩)
    have h2 : (l'.filter (fun x => decide (x ≠ a))).length < l'.length := List.length_filter_lt_length_iff_exists.2 ⟨a, ha, by simp⟩
    simp only [List.length_cons]; omega
theorem nodup_of_keys {m : List (ByteArray × ByteArray)} (h : (keys m).Nodup) : m.Nodup := (List.pairwise_map.1 h).imp (fun h e => h (by rw [e]))
theorem merged_len {l0 l1 : List IP} {m3 : List (ByteArray × ByteArray)} (hn : (keys m3).Nodup) (hm : ∀ p, p ∈ m3 ↔ p ∈ putsP l0 ∨ (p ∈ putsP l1 ∧ p.1 ∉ keys (putsP l0))) : m3.length ≤ (putsP l0).length + (putsP l1).length := by
  have h1 := len_sub (l := m3) (l' := putsP l0 ++ putsP l1) (nodup_of_keys hn) (fun x hx => by
    rcases (hm x).1 hx with h | h
    · exact List.mem_append_left _ h
    · exact List.mem_append_right _ h.1)
  rwa [List.length_append] at h1
theorem putsP_len (l : List IP) : (putsP l).length ≤ l.length := by
  induction l using Ord.snocRec with
  | nil => simp [putsP]
  | snoc l x ih =>
    have e : putsP (l ++ [x]) = put (putsP l) x.f0 x.f1 := by simp [putsP]
    rw [e]
    have := length_put (putsP l) x.f0 x.f1
    simp only [List.length_append, List.length_singleton]; omega
/-- What the merge tells is what the specification has. -/
theorem merged {a b : List SP} {l : List IP} (ha : Ord.Asc S52.f0 a) (hb : Ord.Asc S52.f0 b) (hl : Ord.Asc S89.f0 l)
    (h : ∀ q, q ∈ l.map tpI ↔ q ∈ putsP (a.map sI) ∨ (q ∈ putsP (b.map sI) ∧ q.1 ∉ keys (putsP (a.map sI)))) : l.map iS = fitP (b ++ a) := by
  refine Ord.asc_ext (asc_iS hl) (Ord.fit_asc _) (fun p => ?_)
  have h1 : p ∈ l.map iS ↔ (p.f0, p.f1) ∈ l.map tpI := by
    simp only [List.mem_map]
    constructor
    · rintro ⟨x, hx, rfl⟩; exact ⟨x, hx, rfl⟩
    · rintro ⟨⟨x, y⟩, hx, e⟩; injection e with e1 e2; simp only at e1 e2; exact ⟨_, hx, by rw [e1, e2]; rfl⟩
  have h2 : p.f0 ∈ keys (putsP (a.map sI)) ↔ ∃ v, (⟨p.f0, v⟩ : SP) ∈ a := by
    simp only [keys, List.mem_map]
    constructor
    · rintro ⟨⟨x, y⟩, hx, e⟩; simp only at e; subst e; exact ⟨y, (putsA_mem ha _).1 hx⟩
    · rintro ⟨v, hv⟩; exact ⟨(p.f0, v), (putsA_mem ha _).2 hv, rfl⟩
  rw [h1, h, putsA_mem ha, putsA_mem hb, h2, fitP, Ord.fit_mem, Ord.lastOf_append]
  simp only []
  have ea : lastOf S52.f0 a p.f0 = some p ↔ p ∈ a := Ord.lastOf_asc ha p
  have eb : lastOf S52.f0 b p.f0 = some p ↔ p ∈ b := Ord.lastOf_asc hb p
  cases e : lastOf S52.f0 a p.f0 with
  | none =>
    have hno : ¬ ∃ v, (⟨p.f0, v⟩ : SP) ∈ a := by
      rintro ⟨v, hv⟩
      have := (Ord.lastOf_asc ha (⟨p.f0, v⟩ : SP)).2 hv
      simp only at this
      rw [e] at this; cases this
    have hna : p ∉ a := fun hp => hno ⟨p.f1, hp⟩
    simp only [Option.none_or, eb]
    exact ⟨fun h => h.elim (fun h => absurd h hna) (·.1), fun h => .inr ⟨h, hno⟩⟩
  | some r =>
    have hk := Ord.lastOf_key e
    have hr : r ∈ a := by
      have := Ord.lastOf_asc ha r
      rw [hk] at this
      exact this.1 e
    have hin : ∃ v, (⟨p.f0, v⟩ : SP) ∈ a := ⟨r.f1, by rw [← hk]; exact hr⟩
    simp only [Option.some_or]
    rw [e] at ea
    rw [ea]
    exact ⟨fun h => h.elim id (fun h => absurd hin h.2), .inl⟩
theorem fitP_asc (l : List SP) : Ord.Asc S52.f0 (fitP l) := Ord.fit_asc _
theorem fitP_len (l : List SP) : (fitP l).length ≤ l.length := Ord.fit_length l

set_option maxHeartbeats 4000000 in
set_option maxRecDepth 100000 in
theorem impl_MappingMerge (A0 : Option Addr) (c0 : Nat) (l0 : List IP) (A1 : Option Addr) (c1 : Nat) (l1 : List IP) (w : World) (hr0 : Kd.C k89 w A0 l0.length l0) (hc0 : l0.length ≤ c0) (hl0 : l0.length ≤ 4294967296) (hr1 : Kd.C k89 w A1 l1.length l1) (hc1 : l1.length ≤ c1) (hl1 : l1.length ≤ 4294967296) :
    Calls Tryz.prog 23 #[.slice A0 l0.length c0, .slice A1 l1.length c1] w fun e w' => ∃ v l, e = .returned v ∧ Kd.R k89 89 w' w.heap.size (fun _ => True) v l ∧ Ord.Asc S89.f0 l ∧ (∀ q, q ∈ l.map tpI ↔ q ∈ putsP l0 ∨ (q ∈ putsP l1 ∧ q.1 ∉ keys (putsP l0))) ∧ l.length ≤ 8589934592 ∧ Below w.heap.size w w' := by
  have HR0 := Aside0.mk hr0
  have HR1 := Aside0.mk hr1
  have HC0 := Aside0.mk hc0
  have HC1 := Aside0.mk hc1
  clear hr0 hc0 hr1 hc1
  go_enter Tryz.func23, Tryz.ntmps23
  go_upto_region 1 with (fail)
  go_wp2_with (first
    | (go_at_call_has 66 A0; refine (impl_pairs A0 c0 l0 _ HR0.out HC0.out (by omega)).mono ?_; rintro e w1 ⟨b1, rfl, ht1, hb1, hB1⟩; have HT1 := Aside0.mk ht1; have HB1 := Aside0.mk hB1; have HL1 := Aside0.mk hb1; clear ht1 hB1 hb1)
    | (go_at_call_has 66 A1; refine (impl_pairs A1 c1 l1 _ (Kd.C_below HR1.out HB1.out) HC1.out (by omega)).mono ?_; rintro e w2 ⟨b2, rfl, ht2, hb2, hB2⟩; have HT2 := Aside0.mk ht2; have HT3 := Aside0.mk (HT1.out.below hB2); have HNE := Aside0.mk (show b1 ≠ b2 from fun e => by have := HT1.out.lt; omega); have HB2 := Aside0.mk (below_then HB1.out HB1.out.size hB2); clear ht2 hB2 hb2)
    | (go_at_call 67; refine (types_Merge b1 b2 (putsP l0) (putsP l1) _ w.heap.size w HT3.out HT2.out HNE.out HL1.out HB2.out).mono ?_; rintro e w3 ⟨rfl, ⟨m3, ht, hm⟩, hb⟩; have HT4 := Aside0.mk ht; have HM3 := Aside0.mk hm; have HB3 := Aside0.mk hb; have HLm := Aside0.mk (show m3.length ≤ 8589934592 from by (have h1 := merged_len ht.nodup hm; have h2 := putsP_len l0; have h3 := putsP_len l1; omega)); clear ht hm hb)
    | (go_at_call 65; refine (impl_told b1 m3 _ HT4.out (Nat.le_trans HLm.out (by decide))).mono ?_; rintro e w4 ⟨v, l, rfl, ho, ha, hp, hb⟩; have HO := Aside0.mk (Kd.R_lower ho HB3.out.size); have HA := Aside0.mk ha; have HP := Aside0.mk hp; have HB4 := Aside0.mk (below_then HB3.out HB3.out.size hb); clear ho ha hp hb))
  go_ret
  exact ⟨_, _, rfl, HO.out, HA.out, fun q => (HP.out.mem_iff).trans (HM3.out q), by have := HP.out.length_eq; rw [List.length_map] at this; rw [this]; exact HLm.out, HB4.out⟩
end Go.Proofs.YtcocmdbleicmcaaGreatDoor.M
