/- Plain law of KEY=VALUE texts of a mapping: split again they are the same mapping. -/
import Derived.Test.YtcocmdbleicmcaaGreatDoorCut
import Derived.Test.YtcocmdbleicmcaaGreatDoorMapd
import Derived.Test.YtcocmdbleicmcaaGreatDoorPXx9
namespace Go.Proofs.YtcocmdbleicmcaaGreatDoor.M
set_option linter.unusedVariables false
set_option linter.unusedSimpArgs false
set_option linter.unusedSectionVars false
open Go.RowKit Go.Proofs.YtcocmdbleicmcaaGreatDoorW.PrintWords Go.Proofs.YtcocmdbleicmcaaGreatDoorW.PrintLast Go.Proofs.YtcocmdbleicmcaaGreatDoor.PX Go.Proofs.YtcocmdbleicmcaaGreatDoor.SM

theorem uidx_l0 (s : ByteArray) (hs : s.size < 4611686018427387903) : ∀ n i, n = s.size - i → i ≤ s.size → utils_zzIndex.l0 (n + 1) s ⟨#[61]⟩ (i : Int) = some (match fnd s n i with
  | none => -1
  | some j => (j : Int))
  | 0, i, h, hi => by
    rw [utils_zzIndex.l0, show ((⟨#[61]⟩ : ByteArray).size : Int) = 1 from rfl, wrapS i (by omega), if_neg (by omega)]; rfl
  | n + 1, i, h, hi => by
    rw [utils_zzIndex.l0, show ((⟨#[61]⟩ : ByteArray).size : Int) = 1 from rfl, wrapS i (by omega), if_pos (by omega), if_pos (by omega), if_pos (by omega), fnd]
    have ho := one_byte s i (by omega)
    simp only [Int.toNat_natCast]
    by_cases hb : bt s (i : Int) = 61
    · rw [if_pos (ho.2 hb), if_pos hb]
    · rw [if_neg (fun h => hb (ho.1 h)), if_neg hb]
      exact uidx_l0 s hs n (i + 1) (by omega) (by omega)
theorem ucut_f (s : ByteArray) (hs : s.size < 4611686018427387903) : utils_zzCut.f (s.size + 1) s ⟨#[61]⟩ = some (trip (spE s)) := by
  have hi : utils_zzIndex.f (s.size + 1) s ⟨#[61]⟩ = some (match fnd s s.size 0 with
    | none => -1
    | some j => (j : Int)) := uidx_l0 s hs s.size 0 (by omega) (by omega)
  unfold utils_zzCut.f spE
  rw [hi]
  cases e : fnd s s.size 0 with
  | none =>
    simp only [Option.bind_some]
    rw [if_neg (by omega)]
    rfl
  | some j =>
    have hj := fnd_lt s s.size 0 j (by omega) (by omega) e
    simp only [Option.bind_some]
    rw [show ((⟨#[61]⟩ : ByteArray).size : Int) = 1 from rfl, wrapS j (by omega), if_pos (by omega), if_pos (by omega), if_pos (by omega), if_pos (by omega), if_pos (by omega)]
    rfl
theorem bt_get (s : ByteArray) (i : Nat) (h : i < s.data.toList.length) : bt s (i : Int) = ((s.data.toList[i]).toNat : Int) := by
  unfold bt
  rw [dif_pos (by simpa using h)]
  rfl
theorem bt_61 (s : ByteArray) (i : Nat) (h : i < s.data.toList.length) : bt s (i : Int) = 61 ↔ s.data.toList[i] = 61 := by
  rw [bt_get s i h]
  constructor
  · intro e
    exact UInt8.toNat_inj.1 (by have : (61 : UInt8).toNat = 61 := rfl; omega)
  · intro e; rw [e]; rfl
theorem fnd_at (s : ByteArray) (p : Nat) (hp : p < s.size) (h61 : bt s (p : Int) = 61) : ∀ n i, n = s.size - i → i ≤ p → (∀ j, i ≤ j → j < p → bt s (j : Int) ≠ 61) → fnd s n i = some p
  | 0, i, h, hi, _ => by omega
  | n + 1, i, h, hi, hn => by
    rw [fnd]
    rcases Nat.lt_or_ge i p with hlt | hge
    · rw [if_neg (hn i (Nat.le_refl _) hlt)]
      exact fnd_at s p hp h61 n (i + 1) (by omega) (by omega) (fun j h1 h2 => hn j (by omega) h2)
    · obtain rfl : i = p := by omega
      rw [if_pos h61]
/-- NAME=VALUE. -/
def kvE (k v : ByteArray) : ByteArray := k ++ (⟨#[61]⟩ : ByteArray) ++ v
theorem kvE_data (k v : ByteArray) : (kvE k v).data.toList = k.data.toList ++ 61 :: v.data.toList := by
  simp [kvE, ByteArray.data_append]
theorem kvE_size (k v : ByteArray) : (kvE k v).size = k.size + 1 + v.size := by
  simp [kvE, ByteArray.size_append]; rfl
theorem ba_ext {s t : ByteArray} (h : s.data.toList = t.data.toList) : s = t := ByteArray.ext (Array.toList_inj.1 h)
theorem extract_list (s : ByteArray) (i j : Nat) : (s.extract i j).data.toList = (s.data.toList.drop i).take (j - i) := by
  rw [ByteArray.data_extract, Array.toList_extract, List.extract_eq_take_drop]
theorem spE_kv (k v : ByteArray) (h : (61 : UInt8) ∉ k.data.toList) : spE (kvE k v) = (k, some v) := by
  have hl : (kvE k v).data.toList.length = (kvE k v).size := by rw [Array.length_toList]; rfl
  have hk : k.data.toList.length = k.size := by rw [Array.length_toList]; rfl
  have hs := kvE_size k v
  have hd := kvE_data k v
  have hf : fnd (kvE k v) (kvE k v).size 0 = some k.size := by
    refine fnd_at _ _ (by omega) ?_ _ _ (by omega) (Nat.zero_le _) (fun j _ hj => ?_)
    · rw [bt_61 _ _ (by omega)]
      simp only [hd]
      rw [List.getElem_append_right (by omega)]
      simp [hk]
    · rw [Ne, bt_61 _ _ (by omega)]
      simp only [hd]
      rw [List.getElem_append_left (by omega)]
      intro e
      exact h (e ▸ List.getElem_mem _)
  unfold spE
  rw [hf]
  have e1 : (kvE k v).extract 0 k.size = k := ba_ext (by rw [extract_list, hd, List.drop_zero, Nat.sub_zero, ← hk, List.take_left])
  have e2 : (kvE k v).extract (k.size + 1) (kvE k v).size = v := ba_ext (by
    have hv : v.data.toList.length = v.size := by rw [Array.length_toList]; rfl
    rw [extract_list, hd, ← hk, ← List.drop_drop, List.drop_left, List.drop_one, List.tail_cons, List.take_of_length_le (by omega)])
  simp only [e1, e2]
theorem fits4z (a b : ByteArray) : ∃ r, laws_zzFits4.f a b = some r ∧ (r = true → a.size ≤ 2147483647 ∧ b.size ≤ 2147483647) := by
  unfold laws_zzFits4.f; split
  · exact ⟨_, rfl, fun h => by cases h⟩
  · split
    · exact ⟨_, rfl, fun h => by cases h⟩
    · exact ⟨_, rfl, fun _ => by omega⟩
theorem fits3z_l0 (l : List SP) (hl : l.length ≤ 2147483647) : ∀ n i, n = l.length - i → i ≤ l.length → ∃ r, laws_zzFits3.l0 (n + 1) l (l.length : Int) (i : Int) = some r ∧ (r = true → ∀ j (h : j < l.length), i ≤ j → l[j].f0.size ≤ 2147483647 ∧ l[j].f1.size ≤ 2147483647)
  | 0, i, h, hi => by
    obtain rfl : i = l.length := by omega
    rw [laws_zzFits3.l0, if_neg (by omega)]; exact ⟨_, rfl, fun _ j h1 h2 => by omega⟩
  | n + 1, i, h, hi => by
    have hlt : i < l.length := by omega
    have hx : rd_T52 l (i : Int) = l[i] := by simp [rd_T52, List.getD_eq_getElem?_getD, List.getElem?_eq_getElem hlt]
    rw [laws_zzFits3.l0, if_pos (by omega), if_pos (by omega), if_pos (by omega), wrapS i (by omega), hx]
    obtain ⟨r, hr, hs⟩ := fits4z l[i].f0 l[i].f1
    rw [hr]
    simp only [Option.bind_some]
    by_cases h3 : r = true
    · rw [if_pos h3]
      obtain ⟨r2, h1, h2⟩ := fits3z_l0 l hl n (i + 1) (by omega) (by omega)
      refine ⟨r2, h1, fun hr2 j hj hij => ?_⟩
      rcases Nat.lt_or_ge i j with h4 | h4
      · exact h2 hr2 j hj h4
      · obtain rfl : i = j := by omega
        exact hs h3
    · rw [if_neg h3]; exact ⟨_, rfl, fun h => by cases h⟩
theorem fits3z (l : List SP) : ∃ r, laws_zzFits3.f (l.length + 1) l = some r ∧ (r = true → l.length ≤ 2147483647 ∧ ∀ x ∈ l, x.f0.size < 4611686018427387903 ∧ x.f0.size ≤ 2147483647 ∧ x.f1.size ≤ 2147483647) := by
  unfold laws_zzFits3.f
  split
  · exact ⟨_, rfl, fun h => by cases h⟩
  · obtain ⟨r, hr, h2⟩ := fits3z_l0 l (by omega) l.length 0 (by omega) (by omega)
    refine ⟨r, hr, fun h => ⟨by omega, fun x hx => ?_⟩⟩
    obtain ⟨j, hj, rfl⟩ := List.getElem_of_mem hx
    have := h2 h j hj (Nat.zero_le _)
    exact ⟨by omega, this⟩
def keyOk (s : ByteArray) : Bool := (spec_MapsKey.f (s.size + 1) s).getD false
theorem key_l0 (s : ByteArray) (hs : s.size < 4611686018427387903) : ∀ n i, n = s.size - i → i ≤ s.size → ∃ r, spec_MapsKey.l0 (n + 1) s (i : Int) = some r ∧ (r = true → ∀ j, i ≤ j → j < s.size → bt s (j : Int) ≠ 61)
  | 0, i, h, hi => by
    rw [spec_MapsKey.l0, if_neg (by omega)]; exact ⟨_, rfl, fun _ j h1 h2 => by omega⟩
  | n + 1, i, h, hi => by
    rw [spec_MapsKey.l0, if_pos (by omega), if_pos (by omega)]
    by_cases hb : bt s (i : Int) = 61
    · rw [if_pos hb]; exact ⟨_, rfl, fun h => by cases h⟩
    · rw [if_neg hb, wrapS i (by omega)]
      obtain ⟨r, h1, h2⟩ := key_l0 s hs n (i + 1) (by omega) (by omega)
      refine ⟨r, h1, fun hr j hj hj2 => ?_⟩
      rcases Nat.lt_or_ge i j with h3 | h3
      · exact h2 hr j h3 hj2
      · obtain rfl : i = j := by omega
        exact hb
theorem key_f (s : ByteArray) (hs : s.size < 4611686018427387903) : spec_MapsKey.f (s.size + 1) s = some (keyOk s) ∧ (keyOk s = true → (61 : UInt8) ∉ s.data.toList) := by
  obtain ⟨r, h1, h2⟩ := key_l0 s hs s.size 0 (by omega) (by omega)
  have h3 : spec_MapsKey.f (s.size + 1) s = some r := h1
  have h4 : keyOk s = r := by rw [keyOk, h3]; rfl
  refine ⟨by rw [h4]; exact h3, fun hr hm => ?_⟩
  rw [h4] at hr
  obtain ⟨j, hj, e⟩ := List.getElem_of_mem hm
  have hjs : j < s.size := by rw [Array.length_toList] at hj; exact hj
  exact h2 hr j (Nat.zero_le _) hjs ((bt_61 s j hj).2 e)
/-- Entries that are put one by one, under names that differ. -/
theorem puts_nodup {β : Type} : ∀ (P m : List (ByteArray × β)), (keys (m ++ P)).Nodup → P.foldl (fun m p => put m p.1 p.2) m = m ++ P
  | [], m, _ => by simp
  | p :: P, m, h => by
    rw [List.foldl_cons]
    have h1 : has m p.1 = false := has_none (fun q hq e => by
      unfold keys at h
      rw [List.map_append, List.nodup_append] at h
      exact h.2.2 q.1 (List.mem_map_of_mem hq) p.1 (by simp) e)
    rw [put_new _ h1, puts_nodup P (m ++ [(p.1, p.2)]) (by simpa using h)]
    simp
def putsQ (l : List ByteArray) : List (ByteArray × ByteArray) := l.foldl (fun m s => match spE s with | (k, some v) => put m k v | (_, none) => m) []
theorem putsQ_snoc (l : List ByteArray) (s : ByteArray) : putsQ (l ++ [s]) = match spE s with | (k, some v) => put (putsQ l) k v | (_, none) => putsQ l := by simp [putsQ]
def tpS (x : SP) : ByteArray × ByteArray := (x.f0, x.f1)
def kvS (x : SP) : ByteArray := kvE x.f0 x.f1
def kvP (p : ByteArray × ByteArray) : ByteArray := kvE p.1 p.2
def unkv (s : ByteArray) : ByteArray × ByteArray := ((spE s).1, (spE s).2.getD ⟨#[]⟩)
theorem keysS {L : List SP} (h : Ord.Asc S52.f0 L) : (keys (L.map tpS)).Nodup := by
  unfold keys
  rw [List.map_map]
  unfold List.Nodup
  rw [List.pairwise_map]
  exact h.imp (fun h => Ord.lt_ne h)
theorem putsP_S {L : List SP} (h : Ord.Asc S52.f0 L) : putsP (L.map sI) = L.map tpS := by
  have := puts_nodup (L.map tpS) [] (by simpa using keysS h)
  rw [List.nil_append] at this
  rw [← this]
  unfold putsP
  rw [List.foldl_map, List.foldl_map]
  rfl
theorem putsQ_all : ∀ (T : List ByteArray) (m : List (ByteArray × ByteArray)), (∀ t ∈ T, ∃ v, (spE t).2 = some v) → T.foldl (fun m s => match spE s with | (k, some v) => put m k v | (_, none) => m) m = (T.map unkv).foldl (fun m p => put m p.1 p.2) m
  | [], _, _ => rfl
  | t :: T, m, h => by
    rw [List.foldl_cons, List.map_cons, List.foldl_cons]
    obtain ⟨v, hv⟩ := h t (by simp)
    have : (match spE t with | (k, some v) => put m k v | (_, none) => m) = put m (unkv t).1 (unkv t).2 := by
      unfold unkv
      generalize spE t = x at hv
      obtain ⟨a, b⟩ := x
      simp only at hv
      subst hv
      rfl
    rw [this]
    exact putsQ_all T _ (fun t h' => h t (by simp [h']))
/-- The texts of a mapping, split again. -/
theorem split_again {L : List SP} (hA : Ord.Asc S52.f0 L) (hk : ∀ x ∈ L, (61 : UInt8) ∉ x.f0.data.toList) {T : List ByteArray} (hT : T.Perm (L.map kvS)) : (putsQ T).Perm (L.map tpS) := by
  have h1 : ∀ t ∈ T, ∃ v, (spE t).2 = some v := by
    intro t ht
    obtain ⟨x, hx, rfl⟩ := List.mem_map.1 (hT.mem_iff.1 ht)
    exact ⟨x.f1, by rw [kvS, spE_kv _ _ (hk x hx)]⟩
  have h2 : (T.map unkv).Perm (L.map tpS) := by
    refine (hT.map unkv).trans (List.Perm.of_eq ?_)
    rw [List.map_map]
    refine List.map_congr_left (fun x hx => ?_)
    simp only [Function.comp_apply, unkv, kvS, spE_kv _ _ (hk x hx)]
    rfl
  have h3 : (keys (T.map unkv)).Nodup := (h2.map (fun p : ByteArray × ByteArray => p.1)).nodup_iff.2 (keysS hA)
  unfold putsQ
  rw [putsQ_all T [] h1, puts_nodup _ _ (by simpa using h3), List.nil_append]
  exact h2
theorem told_same {L : List SP} (hA : Ord.Asc S52.f0 L) {m : List (ByteArray × ByteArray)} (hm : m.Perm (L.map tpS)) {g : List IP} (hg : Ord.Asc S89.f0 g) (hp : (g.map tpI).Perm m) : g.map iS = L := by
  refine Ord.asc_ext (asc_iS hg) hA (fun p => ?_)
  have h1 : p ∈ g.map iS ↔ (p.f0, p.f1) ∈ g.map tpI := by
    rw [List.mem_map, List.mem_map]
    constructor
    · rintro ⟨x, hx, rfl⟩; exact ⟨x, hx, rfl⟩
    · rintro ⟨x, hx, e⟩
      refine ⟨x, hx, ?_⟩
      obtain ⟨a, b⟩ := p
      obtain ⟨c, d⟩ := x
      simp only [tpI, Prod.mk.injEq] at e
      simp [iS, e.1, e.2]
  rw [h1, (hp.trans hm).mem_iff, List.mem_map]
  constructor
  · rintro ⟨x, hx, e⟩
    obtain ⟨a, b⟩ := p
    obtain ⟨c, d⟩ := x
    simp only [tpS, Prod.mk.injEq] at e
    rw [← e.1, ← e.2]; exact hx
  · intro hx; exact ⟨p, hx, rfl⟩
end Go.Proofs.YtcocmdbleicmcaaGreatDoor.M
