/- Plain: of a text of which spec.ShortVolume says something, the program's run says the same. -/
import Derived.Test.YtklbghadhneejaaDoorVolQ
import Derived.Test.YtklbghadhneejaaDoorPXx4d
namespace Go.Proofs.YtklbghadhneejaaDoor.V
set_option linter.unusedVariables false
set_option linter.unusedSimpArgs false
set_option linter.unusedSectionVars false
open Go.RowKit Go.Proofs.YtklbghadhneejaaDoorW.PrintWords Go.Proofs.YtklbghadhneejaaDoorW.PrintLast Go.Proofs.YtklbghadhneejaaDoor.PX

abbrev mkB (l : List UInt8) : ByteArray := ⟨l.toArray⟩
theorem parts_more (s : ByteArray) (sep : UInt8) (hz : s.size < 4398046511104) : ∀ d, spec_shortParts.f (s.size + 2 + d) s (sep.toNat : Int) = some ((partsL sep s.data.toList).map mkB)
  | 0 => parts_f s sep hz
  | d + 1 => spec_shortParts.mono _ _ _ _ (parts_more s sep hz d)
theorem isB_of (o : ByteArray) (h : isZ o = true ∨ isP o = true) : isB o = true := by
  have e : format_isBindOption.f o = some true := by
    unfold format_isBindOption.f
    repeat' split
    all_goals first
      | rfl
      | (exfalso
         simp only [isZ, isP, Bool.or_eq_true, decide_eq_true_eq] at h
         simp_all)
  rw [isB, e]; rfl
/-- The two kinds of volume, options under way. -/
structure RelV (t : ByteArray) (x : SV) (u : Vol) : Prop where
  ty : x.ty = t
  src : x.src = u.src
  tgt : x.tgt = u.tgt
  ro : x.ro = u.ro
  nc : x.nc = u.own.getD false
  sel : x.sel = (u.bind.map (·.1)).getD ⟨#[]⟩
  prop : x.prop = (u.bind.map (·.2.1)).getD ⟨#[]⟩
  cr : ∀ b, u.bind = some b → b.2.2 = false
  vol : t.toList = [118, 111, 108, 117, 109, 101] → u.bind = none
  bnd : t.toList = [98, 105, 110, 100] → u.own = none
theorem rel_step {ty : ByteArray} {x : SV} {u : Vol} (h : RelV ty x u) {o : ByteArray} (ho : okO ty o) : RelV ty (modeStep x o) (optStep u o) ∧ (modeStep x o).cr = x.cr := by
  by_cases h1 : o.toList = [114, 111]
  · rw [modeStep, if_pos h1, optStep, if_pos h1]
    exact ⟨⟨h.ty, h.src, h.tgt, rfl, h.nc, h.sel, h.prop, h.cr, h.vol, h.bnd⟩, rfl⟩
  · by_cases h2 : o.toList = [114, 119]
    · rw [modeStep, if_neg h1, if_pos h2, optStep, if_neg h1, if_pos h2]
      exact ⟨⟨h.ty, h.src, h.tgt, rfl, h.nc, h.sel, h.prop, h.cr, h.vol, h.bnd⟩, rfl⟩
    · by_cases h3 : o.toList = [110, 111, 99, 111, 112, 121]
      · rw [modeStep, if_neg h1, if_neg h2, if_pos h3, optStep, if_neg h1, if_neg h2, if_pos h3]
        have hv : ty.toList = [118, 111, 108, 117, 109, 101] := by
          rcases ho with h | h | h | h
          · exact absurd h h1
          · exact absurd h h2
          · exact h.2
          · exfalso
            rcases h.1 with hz | hp
            · simp [isZ, h3] at hz
            · simp [isP, h3] at hp
        exact ⟨⟨h.ty, h.src, h.tgt, h.ro, rfl, h.sel, h.prop, h.cr, h.vol, fun hb => by rw [hv] at hb; exact absurd hb (by decide)⟩, rfl⟩
      · have hzp : (isZ o = true ∨ isP o = true) ∧ ty.toList = [98, 105, 110, 100] := by
          rcases ho with h | h | h | h
          · exact absurd h h1
          · exact absurd h h2
          · exact absurd h.1 h3
          · exact h
        have hb := isB_of o hzp.1
        rw [modeStep, if_neg h1, if_neg h2, if_neg h3, optStep, if_neg h1, if_neg h2, if_neg h3, if_pos hb]
        have hcr : (u.bind.getD (⟨#[]⟩, ⟨#[]⟩, false)).2.2 = false := by
          cases e : u.bind with
          | none => rfl
          | some b => exact h.cr b e
        have hs1 : (u.bind.getD (⟨#[]⟩, ⟨#[]⟩, false)).1 = x.sel := by rw [h.sel]; cases u.bind <;> rfl
        have hs2 : (u.bind.getD (⟨#[]⟩, ⟨#[]⟩, false)).2.1 = x.prop := by rw [h.prop]; cases u.bind <;> rfl
        generalize u.bind.getD (⟨#[]⟩, ⟨#[]⟩, false) = q at hcr hs1 hs2
        obtain ⟨q1, q2, q3⟩ := q
        simp only at hcr hs1 hs2
        subst hcr hs1 hs2
        by_cases hz : isZ o = true
        · rw [if_pos hz, setB, if_pos hz]
          exact ⟨⟨h.ty, h.src, h.tgt, h.ro, h.nc, rfl, rfl, fun b e => by injection e with e; rw [← e], fun hv => by rw [hzp.2] at hv; exact absurd hv (by decide), h.bnd⟩, rfl⟩
        · rw [if_neg hz, setB, if_neg hz]
          exact ⟨⟨h.ty, h.src, h.tgt, h.ro, h.nc, rfl, rfl, fun b e => by injection e with e; rw [← e], fun hv => by rw [hzp.2] at hv; exact absurd hv (by decide), h.bnd⟩, rfl⟩
theorem rel_fold {ty : ByteArray} : ∀ (os : List ByteArray) {x : SV} {u : Vol}, RelV ty x u → (∀ o ∈ os, okO ty o) → RelV ty (os.foldl modeStep x) (os.foldl optStep u) ∧ (os.foldl modeStep x).cr = x.cr
  | [], x, u, h, _ => ⟨h, rfl⟩
  | o :: os, x, u, h, ho => by
    obtain ⟨h1, h2⟩ := rel_step h (ho o (by simp))
    obtain ⟨h3, h4⟩ := rel_fold os h1 (fun o h => ho o (by simp [h]))
    exact ⟨h3, h4.trans h2⟩
theorem modeStep_ty (x : SV) (o : ByteArray) : (modeStep x o).ty = x.ty := by
  unfold modeStep
  repeat' split
  all_goals rfl
theorem opts_l0 (os : List ByteArray) (ho : os.length < 4398046511000) : ∀ n i k (seen : List ByteArray) (v : SV), n = os.length - i → i ≤ os.length → seen.length = i → 2 * n + i + 6 ≤ k → ∃ (v' : SV) (said : Bool), spec_ShortVolume.l0 k seen os (i : Int) v.ty v.src v.tgt v.prop v.sel v.ro v.cr v.nc = some (v'.ty, v'.src, v'.tgt, v'.prop, v'.sel, v'.ro, v'.cr, v'.nc, said) ∧ (said = true → v' = (os.drop i).foldl modeStep v ∧ ∀ o ∈ os.drop i, okO v.ty o)
  | n, i, 0, seen, v, _, _, _, hk => by omega
  | 0, i, k + 1, seen, v, h, hi, hs, hk => by
    obtain rfl : i = os.length := by omega
    rw [spec_ShortVolume.l0, if_neg (by omega)]
    exact ⟨v, true, rfl, fun _ => ⟨by rw [List.drop_length]; rfl, fun o h => by rw [List.drop_length] at h; simp at h⟩⟩
  | n + 1, i, k + 1, seen, v, h, hi, hs, hk => by
    have hlt : i < os.length := by omega
    obtain ⟨k3, rfl⟩ : ∃ k3, k = k3 + 3 := ⟨k - 3, by omega⟩
    have hr : rdOf ByteArray.empty os (i : Int) = os[i] := by simp [rdOf, List.getD_eq_getElem?_getD, List.getElem?_eq_getElem hlt]
    obtain ⟨v1, cl, ok, h1, h2⟩ := mode_f v os[i] seen k3 (by omega) (by omega)
    rw [spec_ShortVolume.l0, if_pos (by omega), if_pos (by omega), hr, h1]
    simp only [Option.bind_some]
    cases ok with
    | false => exact ⟨⟨⟨#[]⟩, ⟨#[]⟩, ⟨#[]⟩, ⟨#[]⟩, ⟨#[]⟩, false, false, false⟩, false, rfl, fun h => by cases h⟩
    | true =>
      rw [if_pos rfl, if_pos (by omega), wrapS i (by omega)]
      obtain ⟨e1, e2⟩ := h2 rfl
      obtain ⟨v', said, h3, h4⟩ := opts_l0 os ho n (i + 1) (k3 + 3) (seen ++ [cl]) v1 (by omega) (by omega) (by rw [List.length_append, List.length_singleton, hs]) (by omega)
      refine ⟨v', said, h3, fun hsd => ?_⟩
      obtain ⟨h5, h6⟩ := h4 hsd
      rw [List.drop_eq_getElem_cons hlt]
      refine ⟨by rw [List.foldl_cons, ← e1]; exact h5, fun o hm => ?_⟩
      rcases List.mem_cons.1 hm with rfl | hm
      · exact e2
      · have := h6 o hm
        rw [e1, modeStep_ty] at this
        exact this
theorem okO_bytes {ty o : ByteArray} (h : okO ty o) : o.data.toList ≠ [] ∧ ∀ c ∈ o.data.toList, c.toNat < 128 ∧ c ≠ 36 ∧ c ≠ 125 ∧ c ≠ 0 ∧ c ≠ 58 := by
  have e : o.toList = o.data.toList := by rw [ByteArray.toList_eq]
  unfold okO at h
  rw [← e]
  have key : ∀ l : List UInt8, o.toList = l → (l ≠ [] ∧ ∀ c ∈ l, c.toNat < 128 ∧ c ≠ 36 ∧ c ≠ 125 ∧ c ≠ 0 ∧ c ≠ 58) → (o.toList ≠ [] ∧ ∀ c ∈ o.toList, c.toNat < 128 ∧ c ≠ 36 ∧ c ≠ 125 ∧ c ≠ 0 ∧ c ≠ 58) := fun l hl hh => by rw [hl]; exact hh
  rcases h with h | h | h | h
  · exact key _ h (by decide)
  · exact key _ h (by decide)
  · exact key _ h.1 (by decide)
  · rcases h.1 with h | h
    · simp only [isZ, Bool.or_eq_true, decide_eq_true_eq] at h
      rcases h with h | h <;> exact key _ h (by decide)
    · simp only [isP, Bool.or_eq_true, decide_eq_true_eq] at h
      rcases h with ((((h | h) | h) | h) | h) | h <;> exact key _ h (by decide)
theorem mem_parts (sep : UInt8) : ∀ (l : List UInt8) (c : UInt8), c ∈ l → c = sep ∨ ∃ p ∈ partsL sep l, c ∈ p
  | [], c, h => by simp at h
  | d :: cs, c, h => by
    by_cases hd : d = sep
    · rcases List.mem_cons.1 h with rfl | h
      · exact .inl hd
      · rcases mem_parts sep cs c h with e | ⟨p, hp, hc⟩
        · exact .inl e
        · exact .inr ⟨p, by rw [partsL, if_pos hd]; simp [hp], hc⟩
    · rw [partsL, if_neg hd]
      have hne := partsL_ne sep cs
      cases q : partsL sep cs with
      | nil => exact absurd q hne
      | cons p ps =>
        simp only
        rcases List.mem_cons.1 h with rfl | h
        · exact .inr ⟨c :: p, by simp, by simp⟩
        · rcases mem_parts sep cs c h with e | ⟨p', hp, hc⟩
          · exact .inl e
          · rw [q] at hp
            rcases List.mem_cons.1 hp with rfl | hp
            · exact .inr ⟨d :: p', by simp, by simp [hc]⟩
            · exact .inr ⟨p', by simp [hp], hc⟩
theorem word_bytes {b : Bool} {l : List UInt8} (h : ∀ j, j < (mkB l).size → wordC b (bt (mkB l) (j : Int)) ∨ (j = 0 ∧ bt (mkB l) (j : Int) = 126)) : ∀ c ∈ l, c.toNat < 128 ∧ c ≠ 36 ∧ c ≠ 125 ∧ c ≠ 0 := by
  intro c hc
  obtain ⟨j, hj, e⟩ := List.getElem_of_mem hc
  have hb : bt (mkB l) (j : Int) = (c.toNat : Int) := by rw [bt_eq (mkB l) j (by simpa [mkB] using hj)]; simp [mkB, e]
  have hne : ∀ d : UInt8, (c.toNat : Int) ≠ (d.toNat : Int) → c ≠ d := fun d hd e => hd (by rw [e])
  rcases h j (by simpa [mkB, ByteArray.size] using hj) with hw | ⟨_, h126⟩
  · rw [hb] at hw
    have := wordC_lt hw
    exact ⟨by omega, hne 36 this.2.2.2.2.2.1, hne 125 this.2.2.2.2.2.2.1, hne 0 (by have := this.1; intro e; rw [e] at this; exact absurd this (by decide))⟩
  · rw [hb] at h126
    exact ⟨by omega, hne 36 (by rw [h126]; decide), hne 125 (by rw [h126]; decide), hne 0 (by rw [h126]; decide)⟩
end Go.Proofs.YtklbghadhneejaaDoor.V
