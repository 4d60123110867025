/- Plain: the words of spec.shortMode and spec.shortParts. -/
import Derived.Test.YtklbghadhneejaaDoorVolM
import Derived.Test.YtklbghadhneejaaDoorPXx3
namespace Go.Proofs.YtklbghadhneejaaDoor.V
set_option linter.unusedVariables false
set_option linter.unusedSimpArgs false
set_option linter.unusedSectionVars false
open Go.RowKit Go.Proofs.YtklbghadhneejaaDoorW.PrintWords Go.Proofs.YtklbghadhneejaaDoorW.PrintLast Go.Proofs.YtklbghadhneejaaDoor.PX

theorem isin_l0 (l : List ByteArray) (s : ByteArray) (hl : l.length < 4398046511104) : ∀ n k i, n = l.length - i → i ≤ l.length → n + 1 ≤ k → ∃ t, spec_mapsIn.l0 k l s (i : Int) = some t
  | n, 0, i, _, _, h => by omega
  | 0, k + 1, i, h, hi, _ => by
    rw [spec_mapsIn.l0, if_neg (by omega)]; exact ⟨_, rfl⟩
  | n + 1, k + 1, i, h, hi, hk => by
    obtain ⟨t, ht⟩ := isin_l0 l s hl n k (i + 1) (by omega) (by omega) (by omega)
    rw [spec_mapsIn.l0, if_pos (by omega), if_pos (by omega), wrapS i (by omega)]
    split
    · exact ⟨_, rfl⟩
    · exact ⟨t, ht⟩
theorem isin_f (l : List ByteArray) (s : ByteArray) (hl : l.length < 4398046511104) (k : Nat) (hk : l.length + 1 ≤ k) : ∃ t, spec_mapsIn.f k l s = some t := isin_l0 l s hl l.length k 0 (by omega) (by omega) (by omega)
/-- A volume of the specification. -/
structure SV where
  ty : ByteArray
  src : ByteArray
  tgt : ByteArray
  prop : ByteArray
  sel : ByteArray
  ro : Bool
  cr : Bool
  nc : Bool
def isP (o : ByteArray) : Bool := decide (o.toList = [112, 114, 105, 118, 97, 116, 101]) || decide (o.toList = [114, 112, 114, 105, 118, 97, 116, 101]) || decide (o.toList = [115, 104, 97, 114, 101, 100]) || decide (o.toList = [114, 115, 104, 97, 114, 101, 100]) || decide (o.toList = [115, 108, 97, 118, 101]) || decide (o.toList = [114, 115, 108, 97, 118, 101])
def modeStep (v : SV) (o : ByteArray) : SV :=
  if o.toList = [114, 111] then { v with ro := true } else if o.toList = [114, 119] then { v with ro := false } else if o.toList = [110, 111, 99, 111, 112, 121] then { v with nc := true }
  else if isZ o = true then { v with sel := o } else { v with prop := o }
/-- An option of which something is said. -/
def okO (ty o : ByteArray) : Prop := o.toList = [114, 111] ∨ o.toList = [114, 119] ∨ (o.toList = [110, 111, 99, 111, 112, 121] ∧ ty.toList = [118, 111, 108, 117, 109, 101]) ∨ ((isZ o = true ∨ isP o = true) ∧ ty.toList = [98, 105, 110, 100])
theorem beqF {α : Type} [BEq α] [LawfulBEq α] {a b : α} (h : ¬ a = b) : ¬ ((a == b) = true) := fun e => h (beq_iff_eq.1 e)
theorem beqT {α : Type} [BEq α] [LawfulBEq α] {a b : α} (h : a = b) : (a == b) = true := beq_iff_eq.2 h
theorem mode_f (v : SV) (o : ByteArray) (seen : List ByteArray) (k : Nat) (hl : seen.length < 4398046511104) (hk : seen.length + 1 ≤ k) : ∃ (v' : SV) (cl : ByteArray) (ok : Bool), spec_shortMode.f (k + 3) v.ty v.src v.tgt v.prop v.sel v.ro v.cr v.nc o seen = some (v'.ty, v'.src, v'.tgt, v'.prop, v'.sel, v'.ro, v'.cr, v'.nc, cl, ok) ∧ (ok = true → v' = modeStep v o ∧ okO v.ty o) := by
  obtain ⟨t1, e1⟩ := isin_f seen ⟨#[114, 111]⟩ hl (k + 2) (by omega)
  obtain ⟨t2, e2⟩ := isin_f seen o hl (k + 2) (by omega)
  obtain ⟨t3, e3⟩ := isin_f seen ⟨#[122]⟩ hl (k + 1) (by omega)
  obtain ⟨t4, e4⟩ := isin_f seen ⟨#[115, 104, 97, 114, 101, 100]⟩ hl k (by omega)
  by_cases h1 : o.toList = [114, 111]
  · rw [spec_shortMode.f, if_pos h1, spec_shortMode.j0, if_pos (beqT h1), e1]
    exact ⟨{ v with ro := (o.toList == [114, 111]) }, _, _, rfl, fun _ => ⟨by rw [modeStep, if_pos h1, beqT h1], .inl h1⟩⟩
  · rw [spec_shortMode.f, if_neg h1, spec_shortMode.j0]
    by_cases h2 : o.toList = [114, 119]
    · rw [if_pos (beqT h2), e1]
      exact ⟨{ v with ro := (o.toList == [114, 111]) }, _, _, rfl, fun _ => ⟨by rw [modeStep, if_neg h1, if_pos h2, beq_false_of_ne h1], .inr (.inl h2)⟩⟩
    · rw [if_neg (beqF h2)]
      by_cases h3 : o.toList = [110, 111, 99, 111, 112, 121]
      · rw [if_pos h3]
        by_cases hv : v.ty.toList = [118, 111, 108, 117, 109, 101]
        · rw [if_pos hv, e2]
          exact ⟨{ v with nc := true }, _, _, rfl, fun _ => ⟨by rw [modeStep, if_neg h1, if_neg h2, if_pos h3], .inr (.inr (.inl ⟨h3, hv⟩))⟩⟩
        · rw [if_neg hv]
          exact ⟨{ v with nc := true }, _, _, rfl, fun h => by cases h⟩
      · rw [if_neg h3]
        have fin : ∀ (v' : SV) (cl : ByteArray) (t : Bool), v' = modeStep v o → (isZ o = true ∨ isP o = true) → v.ty.toList = [98, 105, 110, 100] → (t = true → v' = modeStep v o ∧ okO v.ty o) := fun v' cl t e h hb _ => ⟨e, .inr (.inr (.inr ⟨h, hb⟩))⟩
        have mz : isZ o = true → ({ v with sel := o } : SV) = modeStep v o := fun hz => by rw [modeStep, if_neg h1, if_neg h2, if_neg h3, if_pos hz]
        have mp : ¬ isZ o = true → ({ v with prop := o } : SV) = modeStep v o := fun hz => by rw [modeStep, if_neg h1, if_neg h2, if_neg h3, if_neg hz]
        by_cases h4 : o.toList = [122]
        · rw [if_pos h4, spec_shortMode.j1, if_pos (beqT h4)]
          by_cases hb : v.ty.toList = [98, 105, 110, 100]
          · rw [if_pos hb, e3]
            exact ⟨{ v with sel := o }, _, _, rfl, fin _ ⟨#[]⟩ _ (mz (by simp [isZ, h4])) (.inl (by simp [isZ, h4])) hb⟩
          · rw [if_neg hb]
            exact ⟨{ v with sel := o }, _, _, rfl, fun h => by cases h⟩
        · rw [if_neg h4]
          by_cases h5 : o.toList = [90]
          · rw [spec_shortMode.j1, if_pos (beqT h5)]
            by_cases hb : v.ty.toList = [98, 105, 110, 100]
            · rw [if_pos hb, e3]
              exact ⟨{ v with sel := o }, _, _, rfl, fin _ ⟨#[]⟩ _ (mz (by simp [isZ, h5])) (.inl (by simp [isZ, h5])) hb⟩
            · rw [if_neg hb]
              exact ⟨{ v with sel := o }, _, _, rfl, fun h => by cases h⟩
          · rw [spec_shortMode.j1, if_neg (beqF h5)]
            have nz : ¬ isZ o = true := by simp [isZ, h4, h5]
            by_cases p0 : o.toList = [112, 114, 105, 118, 97, 116, 101]
            · rw [if_pos p0, spec_shortMode.j2, if_pos (beqT p0)]
              by_cases hb : v.ty.toList = [98, 105, 110, 100]
              · rw [if_pos hb, e4]
                exact ⟨{ v with prop := o }, _, _, rfl, fin _ ⟨#[]⟩ _ (mp nz) (.inr (by simp [isP, p0])) hb⟩
              · rw [if_neg hb]
                exact ⟨{ v with prop := o }, _, _, rfl, fun h => by cases h⟩
            rw [if_neg p0]
            by_cases p1 : o.toList = [114, 112, 114, 105, 118, 97, 116, 101]
            · rw [if_pos p1, spec_shortMode.j2, if_pos (beqT p1)]
              by_cases hb : v.ty.toList = [98, 105, 110, 100]
              · rw [if_pos hb, e4]
                exact ⟨{ v with prop := o }, _, _, rfl, fin _ ⟨#[]⟩ _ (mp nz) (.inr (by simp [isP, p1])) hb⟩
              · rw [if_neg hb]
                exact ⟨{ v with prop := o }, _, _, rfl, fun h => by cases h⟩
            rw [if_neg p1]
            by_cases p2 : o.toList = [115, 104, 97, 114, 101, 100]
            · rw [if_pos p2, spec_shortMode.j2, if_pos (beqT p2)]
              by_cases hb : v.ty.toList = [98, 105, 110, 100]
              · rw [if_pos hb, e4]
                exact ⟨{ v with prop := o }, _, _, rfl, fin _ ⟨#[]⟩ _ (mp nz) (.inr (by simp [isP, p2])) hb⟩
              · rw [if_neg hb]
                exact ⟨{ v with prop := o }, _, _, rfl, fun h => by cases h⟩
            rw [if_neg p2]
            by_cases p3 : o.toList = [114, 115, 104, 97, 114, 101, 100]
            · rw [if_pos p3, spec_shortMode.j2, if_pos (beqT p3)]
              by_cases hb : v.ty.toList = [98, 105, 110, 100]
              · rw [if_pos hb, e4]
                exact ⟨{ v with prop := o }, _, _, rfl, fin _ ⟨#[]⟩ _ (mp nz) (.inr (by simp [isP, p3])) hb⟩
              · rw [if_neg hb]
                exact ⟨{ v with prop := o }, _, _, rfl, fun h => by cases h⟩
            rw [if_neg p3]
            by_cases p4 : o.toList = [115, 108, 97, 118, 101]
            · rw [if_pos p4, spec_shortMode.j2, if_pos (beqT p4)]
              by_cases hb : v.ty.toList = [98, 105, 110, 100]
              · rw [if_pos hb, e4]
                exact ⟨{ v with prop := o }, _, _, rfl, fin _ ⟨#[]⟩ _ (mp nz) (.inr (by simp [isP, p4])) hb⟩
              · rw [if_neg hb]
                exact ⟨{ v with prop := o }, _, _, rfl, fun h => by cases h⟩
            rw [if_neg p4]
            by_cases p5 : o.toList = [114, 115, 108, 97, 118, 101]
            · rw [spec_shortMode.j2, if_pos (beqT p5)]
              by_cases hb : v.ty.toList = [98, 105, 110, 100]
              · rw [if_pos hb, e4]
                exact ⟨{ v with prop := o }, _, _, rfl, fin _ ⟨#[]⟩ _ (mp nz) (.inr (by simp [isP, p5])) hb⟩
              · rw [if_neg hb]
                exact ⟨{ v with prop := o }, _, _, rfl, fun h => by cases h⟩
            rw [spec_shortMode.j2, if_neg (beqF p5)]
            exact ⟨v, _, _, rfl, fun h => by cases h⟩
/-- The parts of a row of bytes between a sign. -/
def partsL (sep : UInt8) : List UInt8 → List (List UInt8)
  | [] => [[]]
  | c :: cs => if c = sep then [] :: partsL sep cs else match partsL sep cs with
    | [] => [[c]]
    | p :: ps => (c :: p) :: ps
theorem partsL_ne (sep : UInt8) : ∀ l, partsL sep l ≠ []
  | [] => by simp [partsL]
  | c :: cs => by
    rw [partsL]
    split
    · simp
    · split <;> simp
/-- The first part goes on behind what is there. -/
def joinH (b : List UInt8) : List (List UInt8) → List (List UInt8)
  | [] => [b]
  | p :: ps => (b ++ p) :: ps
theorem joinH_cons (b : List UInt8) (c sep : UInt8) (cs : List UInt8) (h : c ≠ sep) : joinH b (partsL sep (c :: cs)) = joinH (b ++ [c]) (partsL sep cs) := by
  rw [partsL, if_neg h]
  have := partsL_ne sep cs
  cases e : partsL sep cs with
  | nil => exact absurd e this
  | cons p ps => simp [joinH]
theorem ba_ext' {s t : ByteArray} (h : s.data.toList = t.data.toList) : s = t := ByteArray.ext (Array.toList_inj.1 h)
theorem parts_l0 (s : ByteArray) (sep : UInt8) (hs : s.size < 4611686018427387903) (hz : s.size < 4398046511104) : ∀ n k i from_ out, n = s.size - i → i ≤ s.size → from_ ≤ i → out.length ≤ i → n + 2 ≤ k → spec_shortParts.l0 k s (sep.toNat : Int) out (from_ : Int) (i : Int) = some (out ++ (joinH ((s.data.toList.take i).drop from_) (partsL sep (s.data.toList.drop i))).map (fun l => (⟨l.toArray⟩ : ByteArray)))
  | n, 0, i, fr, out, _, _, _, _, h => by omega
  | 0, k + 1, i, fr, out, h, hi, hf, ho, hk => by
    obtain rfl : i = s.size := by omega
    obtain ⟨k, rfl⟩ : ∃ k', k = k' + 1 := ⟨k - 1, by omega⟩
    rw [spec_shortParts.l0, if_pos (by omega), if_pos rfl, if_pos (by omega), if_pos (by omega), if_pos (by omega), wrapS s.size (by omega), spec_shortParts.l0, if_neg (by omega)]
    have e : s.extract fr s.size = ⟨((s.data.toList.take s.size).drop fr).toArray⟩ := by
      apply ba_ext'
      have q1 : s.data.toList.take s.size = s.data.toList := List.take_of_length_le (by rw [len_data]; exact Nat.le_refl _)
      have q2 : (s.data.toList.drop fr).take (s.size - fr) = s.data.toList.drop fr := List.take_of_length_le (by rw [List.length_drop, len_data]; exact Nat.le_refl _)
      rw [extract_list, q2, q1]
    rw [List.drop_eq_nil_of_le (show s.data.toList.length ≤ s.size by rw [len_data]; exact Nat.le_refl _)]
    simp [partsL, joinH, e]
  | n + 1, k + 1, i, fr, out, h, hi, hf, ho, hk => by
    have hlt : i < s.size := by omega
    have hld : i < s.data.toList.length := by rw [len_data]; exact hlt
    rw [spec_shortParts.l0, if_pos (by omega), if_neg (by omega), if_pos (by omega), if_pos (by omega), wrapS i (by omega), bt_eq s i hld, List.drop_eq_getElem_cons hld]
    generalize hc : s.data.toList[i] = c
    by_cases h1 : c = sep
    · subst h1
      rw [if_pos rfl, if_pos (by omega), if_pos (by omega), if_pos (by omega)]
      have := parts_l0 s c hs hz n k (i + 1) (i + 1) (out ++ [s.extract fr i]) (by omega) (by omega) (Nat.le_refl _) (by rw [List.length_append, List.length_singleton]; omega) (by omega)
      simp only [Int.toNat_natCast]
      rw [this]
      have e : s.extract fr i = ⟨((s.data.toList.take i).drop fr).toArray⟩ := by
        apply ba_ext'
        rw [extract_list, List.drop_take]
      have e2 : joinH ((s.data.toList.take (i + 1)).drop (i + 1)) (partsL c (s.data.toList.drop (i + 1))) = partsL c (s.data.toList.drop (i + 1)) := by
        have := partsL_ne c (s.data.toList.drop (i + 1))
        rw [List.drop_take, Nat.sub_self, List.take_zero]
        cases q : partsL c (s.data.toList.drop (i + 1)) with
        | nil => exact absurd q this
        | cons p ps => simp [joinH]
      rw [e2, partsL, if_pos rfl, e]
      simp [joinH]
    · rw [if_neg (u8_ne h1)]
      have := parts_l0 s sep hs hz n k (i + 1) fr out (by omega) (by omega) (by omega) (by omega) (by omega)
      rw [this, joinH_cons _ _ _ _ h1]
      have e : (s.data.toList.take (i + 1)).drop fr = (s.data.toList.take i).drop fr ++ [c] := by
        rw [List.take_succ_eq_append_getElem hld, hc, List.drop_append_of_le_length (by rw [List.length_take]; omega)]
      rw [e]
theorem parts_f (s : ByteArray) (sep : UInt8) (hz : s.size < 4398046511104) : spec_shortParts.f (s.size + 2) s (sep.toNat : Int) = some ((partsL sep s.data.toList).map (fun l => (⟨l.toArray⟩ : ByteArray))) := by
  have := parts_l0 s sep (by omega) hz s.size (s.size + 2) 0 0 [] (by omega) (Nat.zero_le _) (Nat.le_refl _) (Nat.le_refl _) (Nat.le_refl _)
  unfold spec_shortParts.f
  rw [show ((0 : Nat) : Int) = 0 from rfl] at this
  rw [this]
  have hne := partsL_ne sep s.data.toList
  simp only [List.nil_append, List.take_zero, List.drop_nil, List.drop_zero]
  cases q : partsL sep s.data.toList with
  | nil => exact absurd q hne
  | cons p ps => simp [joinH]
end Go.Proofs.YtklbghadhneejaaDoor.V
