/- Plain and walks: the part of a text before the first equals sign. -/
import Derived.Test.YtageocibgakhmaaOverrideA
import Derived.IntWalk
namespace Go.Proofs.Ytageocibgakhmaa.L
open Go.RowKit

/-- the part before the first equals sign -/
def keyOf (s : ByteArray) : ByteArray := mk ((sp 61 s.data.toList).headD [])
theorem keyOf_miss (s : ByteArray) (h : Lib.index s.data.toList [61] = -1) : keyOf s = s := by
  unfold keyOf
  rw [index_one_miss 61 _ h]
  exact mk_of s
theorem keyOf_hit (s : ByteArray) (i : Nat) (h : Lib.index s.data.toList [61] = i) : keyOf s = s.extract 0 i := by
  unfold keyOf
  rw [index_one_hit 61 _ i h, extract_start]
  rfl
theorem sp_head_no (d : UInt8) : ∀ (l : List UInt8), d ∉ (sp d l).headD []
  | [] => by simp [sp]
  | c :: r => by
    have ih := sp_head_no d r
    unfold sp
    split
    · simp
    · rename_i hc
      split
      · simp [Ne.symm hc]
      · rename_i h t e
        rw [e] at ih
        simp at ih ⊢
        exact ⟨Ne.symm hc, ih⟩
theorem sp_no (d : UInt8) : ∀ (l : List UInt8), d ∉ l → ∀ r, (sp d (l ++ d :: r)).headD [] = l
  | [], _, r => by simp [sp]
  | c :: l, h, r => by
    have hc : ¬ c = d := fun e => h (by simp [e])
    have ih := sp_no d l (fun e => h (List.mem_cons_of_mem _ e)) r
    rw [List.cons_append, sp, if_neg hc]
    cases e : sp d (l ++ d :: r) with
    | nil => exact absurd e (sp_ne _ _)
    | cons x t =>
      rw [e] at ih
      simp at ih ⊢
      exact ih
theorem sp_no' (d : UInt8) : ∀ (l : List UInt8), d ∉ l → (sp d l).headD [] = l
  | [], _ => by simp [sp]
  | c :: l, h => by
    have hc : ¬ c = d := fun e => h (by simp [e])
    have ih := sp_no' d l (fun e => h (List.mem_cons_of_mem _ e))
    rw [sp, if_neg hc]
    cases e : sp d l with
    | nil => exact absurd e (sp_ne _ _)
    | cons x t =>
      rw [e] at ih
      simp at ih ⊢
      exact ih
theorem keyOf_twice (s : ByteArray) : keyOf (keyOf s) = keyOf s := by
  unfold keyOf
  rw [mk_data, sp_no' 61 _ (sp_head_no 61 _)]
theorem keyOf_eq (s v : ByteArray) : keyOf (keyOf s ++ ⟨#[61]⟩ ++ v) = keyOf s := by
  have e : (keyOf s ++ ⟨#[61]⟩ ++ v).data.toList = (sp 61 s.data.toList).headD [] ++ 61 :: v.data.toList := by
    unfold keyOf
    rw [ByteArray.data_append, ByteArray.data_append, Array.toList_append, Array.toList_append, mk_data]
    simp
  unfold keyOf at e ⊢
  rw [e, sp_no 61 _ (sp_head_no 61 _)]
theorem keyOf_size (s : ByteArray) : (keyOf s).size ≤ s.size := by
  rcases Decidable.em (Lib.index s.data.toList [61] = -1) with h | h
  · rw [keyOf_miss s h]; omega
  · have := Lib.index_ge s.data.toList [61]
    rw [keyOf_hit s (Lib.index s.data.toList [61]).toNat (by omega), ByteArray.size_extract]
    omega

/-! ### how it is searched for -/
theorem occ61 (s : List UInt8) (i : Nat) : Lib.occAt s [61] i = decide (s[i]? = some 61) := by
  unfold Lib.occAt
  rcases Nat.lt_or_ge i s.length with h | h
  · rw [List.drop_eq_getElem_cons h, List.getElem?_eq_getElem h]
    by_cases e : s[i] = 61
    · simp [e, List.isPrefixOf]
    · simp [e, List.isPrefixOf, Ne.symm e]
  · rw [List.drop_of_length_le h, List.getElem?_eq_none h]
    rfl

set_option maxRecDepth 100000 in
theorem override_zzCut (s : ByteArray) (w : World) (hs : s.size ≤ 140737488355328) :
    Calls Try.prog 81 #[.string s, .string ⟨#[61]⟩] w fun e w' =>
      (∃ b t, (b = true ∨ keyOf s = s) ∧ e = .returned (.tuple #[.string (keyOf s), .string t, .bool b])) ∧ Below w.heap.size w w' := by
  have hd : ((⟨#[61]⟩ : ByteArray).size : Int) = 1 := rfl
  by_cases hneg : Lib.index s.data.toList [61] < 0
  · have hm : Lib.index s.data.toList [61] = -1 := by have := Lib.index_ge s.data.toList [61]; omega
    have X := Lib.hid (keyOf_miss s hm)
    clear hneg
    go_enter Try.func81, Try.ntmps81
    go_wp2_with fail
    refine (override_zzIndex_at s _ (-1) _ hs (by show 1 ≤ _; omega) (by show 0 < 1; omega) hm).mono ?_
    rintro e w' ⟨rfl, rfl⟩
    clear hm
    go_wp2
    go_ret3
    exact ⟨⟨false, ⟨#[]⟩, .inr X.out, by rw [X.out]; rfl⟩, Below.refl _ _⟩
  · have hge := Lib.index_ge s.data.toList [61]
    obtain ⟨i, hi'⟩ : ∃ i : Nat, Lib.index s.data.toList [61] = i := ⟨(Lib.index s.data.toList [61]).toNat, by omega⟩
    have hroom := Lib.index_room s.data.toList [61] (by omega)
    rw [hi', ← Lib.size_eq] at hroom
    simp only [List.length_singleton] at hroom
    have X := Lib.hid (keyOf_hit s i hi')
    have eW : IntKind.i64.wrap ((i : Int) + 1) = (i : Int) + 1 := IntWalk.i64_in _ (by omega)
    have i1 : (0 : Int) ≤ (i : Int) := by omega
    have i2 : (i : Int) ≤ (s.size : Int) := by omega
    have i3 : (i : Int) + 1 ≤ (s.size : Int) := by omega
    clear hneg hge
    go_enter Try.func81, Try.ntmps81
    go_wp2_with fail
    refine (override_zzIndex_at s _ i _ hs (by show 1 ≤ _; omega) (by show 0 < 1; omega) hi').mono ?_
    rintro e w' ⟨rfl, rfl⟩
    clear hi'
    go_wp2
    go_region
    go_wp2
    go_ret3
    exact ⟨⟨true, s.extract (i + 1) s.size, .inl rfl, by rw [X.out]; rfl⟩, (Below.refl _ _).drew⟩
end Go.Proofs.Ytageocibgakhmaa.L
