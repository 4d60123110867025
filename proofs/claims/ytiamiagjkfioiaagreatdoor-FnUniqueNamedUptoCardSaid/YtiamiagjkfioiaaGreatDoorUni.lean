/- The union of two maps without a common key, as the specification makes it. Plain. -/
import Derived.Test.YtiamiagjkfioiaaGreatDoorMgW
import Derived.Test.YtiamiagjkfioiaaGreatDoorUqN
import Derived.Test.YtiamiagjkfioiaaGreatDoorWithL
namespace Go.Proofs.YtiamiagjkfioiaaGreatDoor.A
set_option linter.unusedVariables false
set_option linter.unusedSimpArgs false
set_option linter.unusedSectionVars false
open Go.RowKit Go.Proofs.YtiamiagjkfioiaaGreatDoorW.PrintWords Go.Proofs.YtiamiagjkfioiaaGreatDoorW.PrintLast Go.Proofs.YtiamiagjkfioiaaGreatDoorW.PrintMore Go.Proofs.YtiamiagjkfioiaaGreatDoor.PT Go.Proofs.YtiamiagjkfioiaaGreatDoor.L Go.Proofs.YtiamiagjkfioiaaGreatDoor.SM

theorem withKs_perm {key : ByteArray} {ks : List ByteArray} (h : placeB key ks = false) : (withKs key ks).Perm (ks ++ [key]) := by
  unfold withKs
  rw [if_neg (by rw [h]; decide)]
  refine (List.perm_middle).trans ?_
  rw [List.take_append_drop]
  exact (List.perm_append_comm (l₁ := [key]) (l₂ := ks))
theorem place_mem {key : ByteArray} {ks : List ByteArray} (ha : Ord.Asc id ks) : placeB key ks = true ↔ key ∈ ks := by
  constructor
  · intro h
    obtain ⟨h1, h2⟩ := place_in h
    rw [← h2]; exact List.getElem_mem h1
  · intro h
    cases hb : placeB key ks with
    | true => rfl
    | false => exact absurd h (place_not ha hb)
theorem withKs_iff {key k : ByteArray} {ks : List ByteArray} (ha : Ord.Asc id ks) : k ∈ withKs key ks ↔ k = key ∨ k ∈ ks := by
  refine ⟨withKs_mem, fun h => ?_⟩
  cases hb : placeB key ks with
  | true =>
    unfold withKs
    rw [if_pos hb]
    rcases h with rfl | h
    · exact (place_mem ha).1 hb
    · exact h
  | false =>
    rw [(withKs_perm hb).mem_iff]
    rcases h with rfl | h
    · simp
    · simp [h]
/-- a value as the thin package has it -/
def toI : SV → IV
  | ⟨a, b, s, ks, vs⟩ => ⟨a, b, s, ks, vs.attach.map (fun v => toI v.1)⟩
termination_by x => SizeOf.sizeOf x
decreasing_by
  have := List.sizeOf_lt_of_mem v.2
  simp only [S26.mk.sizeOf_spec]
  omega
theorem toI_eq (x : SV) : toI x = ⟨x.f0, x.f1, x.f2, x.f3, x.f4.map toI⟩ := by
  cases x with
  | mk a b s ks vs => rw [toI]; simp [List.attach_map_val]
theorem Twin.isI {x : SV} {y : IV} (h : Twin x y) : y = toI x := by
  induction h with
  | @mk x y h0 h1 h2 h3 hl hb3 hb4 he ih =>
    rw [toI_eq]
    cases y with
    | mk a b s ks vs =>
      simp only at h0 h1 h2 h3 hl
      rw [← h0, ← h1, ← h2, ← h3]
      congr 1
      apply List.ext_getElem (by simp [hl])
      intro i q1 q2
      rw [List.getElem_map]
      exact ih i (by simpa using q2) q1
theorem FineS.isI {x : SV} (h : FineS x) : Twin x (toI x) ∧ Fine (toI x) := by
  obtain ⟨y, h1, h2⟩ := h.twin
  have := h1.isI
  subst this
  exact ⟨h1, h2⟩
/-- a child by its key -/
def kidL {α : Type} (ks : List ByteArray) (vs : List α) (k : ByteArray) : Option α := SM.look (ks.zip vs) k
theorem kidL_with {α : Type} {key : ByteArray} {ks : List ByteArray} {vs : List α} {x : α} (ha : Ord.Asc id ks) (hl : vs.length = ks.length) (hn : placeB key ks = false) (k : ByteArray) : kidL (withKs key ks) (withL key ks vs x) k = if k = key then some x else kidL ks vs k := by
  have ha' := withKs_asc (key := key) ha
  have hl' : (withL key ks vs x).length = (withKs key ks).length := withL_len key ks vs x hl
  have hz : (withKs key ks).zip (withL key ks vs x) = (ks.take (placeN key ks)).zip (vs.take (placeN key ks)) ++ (key, x) :: (ks.drop (placeN key ks)).zip (vs.drop (placeN key ks)) := by
    unfold withKs withL
    rw [if_neg (by rw [hn]; decide), if_neg (by rw [hn]; decide), List.zip_append (by simp [hl])]
    rfl
  have hz0 : ks.zip vs = (ks.take (placeN key ks)).zip (vs.take (placeN key ks)) ++ (ks.drop (placeN key ks)).zip (vs.drop (placeN key ks)) := by
    rw [← List.zip_append (by simp [hl]), List.take_append_drop, List.take_append_drop]
  have hmem : ∀ p, p ∈ (withKs key ks).zip (withL key ks vs x) ↔ p = (key, x) ∨ p ∈ ks.zip vs := fun p => by
    rw [hz, hz0]
    simp only [List.mem_append, List.mem_cons]
    constructor
    · rintro (h | h | h)
      · exact .inr (.inl h)
      · exact .inl h
      · exact .inr (.inr h)
    · rintro (h | h | h)
      · exact .inr (.inl h)
      · exact .inl h
      · exact .inr (.inr h)
  have hnd : (SM.keys ((withKs key ks).zip (withL key ks vs x))).Nodup := by rw [keys_zip hl']; exact asc_nodup ha'
  unfold kidL
  by_cases e : k = key
  · rw [if_pos e, e]
    exact look_mem (p := (key, x)) hnd ((hmem _).2 (.inl rfl))
  · rw [if_neg e]
    cases h : SM.look (ks.zip vs) k with
    | none =>
      rw [look_none, has_false, keys_zip hl', withKs_iff ha]
      have := has_false.1 (look_none.1 h)
      rw [keys_zip hl] at this
      rintro (h1 | h1)
      · exact e h1
      · exact this h1
    | some u => exact look_mem (p := (k, u)) hnd ((hmem _).2 (.inr (look_some h).1))
theorem kidL_at {α : Type} {ks : List ByteArray} {vs : List α} (hl : vs.length = ks.length) (hn : ks.Nodup) {i : Nat} (h3 : i < ks.length) (h4 : i < vs.length) : kidL ks vs (ks[i]'h3) = some (vs[i]'h4) := by
  unfold kidL
  refine find_of (j := i) (p := (ks[i]'h3, vs[i]'h4)) (by rw [keys_zip hl]; exact hn) ?_
  rw [List.getElem?_zip_eq_some]
  exact ⟨List.getElem?_eq_getElem h3, List.getElem?_eq_getElem h4⟩
open Classical in
/-- the union, as far as i keys of the second map are put -/
structure UniS (a b : SV) (i : Nat) (z : SV) : Prop where
  fine : FineS z
  z5 : z.f0 = 5
  len : z.f4.length ≤ a.f4.length + i
  keys : ∀ k, k ∈ z.f3 ↔ k ∈ a.f3 ∨ k ∈ b.f3.take i
  free : ∀ k, k ∈ b.f3.take i → k ∉ a.f3
  kid : ∀ k, kidL z.f3 z.f4 k = if k ∈ b.f3.take i then kidL b.f3 b.f4 k else kidL a.f3 a.f4 k
open Classical in
theorem UniS.start {a b : SV} (ha : FineS a) (h5 : a.f0 = 5) : UniS a b 0 a := ⟨ha, h5, Nat.le_refl _, fun k => by simp, fun k h => by simp at h, fun k => by simp⟩
open Classical in
theorem UniS.next {a b z : SV} {i : Nat} (h : UniS a b i z) (hb : FineS b) (b5 : b.f0 = 5) (h3 : i < b.f3.length) (h4 : i < b.f4.length) (hn : b.f3[i]'h3 ∉ a.f3) (hbd : a.f4.length + i + 1 ≤ 1099511627776) : UniS a b (i + 1) ⟨5, 0, be, withKs (b.f3[i]'h3) z.f3, withL (b.f3[i]'h3) z.f3 z.f4 (b.f4[i]'h4)⟩ := by
  obtain ⟨_, hba, hbl, _, hbf⟩ := fineS_map hb b5
  obtain ⟨_, hza, hzl, _, hzf⟩ := fineS_map h.fine h.z5
  have hnz : b.f3[i]'h3 ∉ z.f3 := fun hk => by
    rcases (h.keys _).1 hk with hk | hk
    · exact hn hk
    · exact nodup_take (asc_nodup hba) h3 hk
  have hpl : placeB (b.f3[i]'h3) z.f3 = false := by
    cases e : placeB (b.f3[i]'h3) z.f3 with
    | false => rfl
    | true => exact absurd ((place_mem hza).1 e) hnz
  have hwl := withL_len (b.f3[i]'h3) z.f3 z.f4 (b.f4[i]'h4) hzl
  have hkl := withKs_len (b.f3[i]'h3) z.f3
  have hlen : (withL (b.f3[i]'h3) z.f3 z.f4 (b.f4[i]'h4)).length ≤ a.f4.length + (i + 1) := by
    have := h.len
    omega
  have htk : ∀ k, k ∈ b.f3.take (i + 1) ↔ k ∈ b.f3.take i ∨ k = b.f3[i]'h3 := fun k => by
    rw [List.take_succ_eq_append_getElem h3, List.mem_append, List.mem_singleton]
  refine ⟨.map (withKs_asc hza) hwl (by omega) (fun j hj => ?_), rfl, hlen, fun k => ?_, fun k hk => ?_, fun k => ?_⟩
  · rcases withL_mem (List.getElem_mem hj) with e | e
    · rw [e]; exact hbf i h4
    · obtain ⟨q, hq, e⟩ := List.mem_iff_getElem.1 e
      rw [← e]; exact hzf q hq
  · show k ∈ withKs _ _ ↔ _
    rw [withKs_iff hza, h.keys, htk]
    constructor
    · rintro (h | h | h)
      · exact .inr (.inr h)
      · exact .inl h
      · exact .inr (.inl h)
    · rintro (h | h | h)
      · exact .inr (.inl h)
      · exact .inr (.inr h)
      · exact .inl h
  · rcases (htk k).1 hk with h1 | h1
    · exact h.free k h1
    · rw [h1]; exact hn
  · show kidL (withKs _ _) (withL _ _ _ _) k = _
    rw [kidL_with hza hzl hpl, h.kid]
    by_cases e : k = b.f3[i]'h3
    · subst e
      rw [if_pos rfl, if_pos ((htk _).2 (.inr rfl)), kidL_at hbl (asc_nodup hba) h3 h4]
    · rw [if_neg e]
      by_cases e2 : k ∈ b.f3.take i
      · rw [if_pos e2, if_pos ((htk k).2 (.inl e2))]
      · rw [if_neg e2, if_neg (fun hk => by
          rcases (htk k).1 hk with h1 | h1
          · exact e2 h1
          · exact e h1)]
end Go.Proofs.YtiamiagjkfioiaaGreatDoor.A
