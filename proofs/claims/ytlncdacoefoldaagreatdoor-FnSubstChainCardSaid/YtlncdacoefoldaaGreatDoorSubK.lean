/- Plain: an environment's look-up from its end on, and the bounds that a row of texts or pairs is held to. -/
import Derived.Test.YtlncdacoefoldaaGreatDoorSubJ
import Derived.Test.YtlncdacoefoldaaGreatDoorSubH
namespace Go.Proofs.YtlncdacoefoldaaGreatDoor.U
set_option linter.unusedVariables false
set_option linter.unusedSimpArgs false
set_option linter.unusedSectionVars false
open Go.RowKit Go.Proofs.YtlncdacoefoldaaGreatDoorW.PrintWords Go.Proofs.YtlncdacoefoldaaGreatDoorW.PrintLast Go.Proofs.YtlncdacoefoldaaGreatDoor.PX Go.Proofs.YtlncdacoefoldaaGreatDoor.L Go.Proofs.YtlncdacoefoldaaGreatDoor.M Go.Proofs.YtlncdacoefoldaaGreatDoor.SM

abbrev lastP (l : List SP) (n : ByteArray) : Option SP := Ord.lastOf S59.f0 l n
theorem look_put (m : List (ByteArray × ByteArray)) (k v n : ByteArray) : SM.look (put m k v) n = if k = n then some v else SM.look m n := by
  unfold put
  split
  · rename_i h
    induction m with
    | nil => simp [has] at h
    | cons p m ih =>
      by_cases hp : p.1 = k
      · by_cases hn : k = n
        · simp [SM.look, hp, hn]
        · have hpn : ¬ p.1 = n := fun e => hn (hp.symm.trans e)
          rw [if_neg hn]
          simp only [List.map_cons, hp, if_true, SM.look]
          rw [List.find?_cons, List.find?_cons]
          simp only [hn, decide_false, hpn]
          clear ih h
          induction m with
          | nil => rfl
          | cons q m ih2 =>
            rw [List.map_cons, List.find?_cons, List.find?_cons]
            by_cases hq : q.1 = k
            · have hqn : ¬ q.1 = n := fun e => hn (hq.symm.trans e)
              rw [if_pos hq]
              simp only [hn, decide_false, hqn]
              exact ih2
            · rw [if_neg hq]
              by_cases hqn : q.1 = n
              · simp [hqn]
              · simp only [hqn, decide_false]
                exact ih2
      · have h2 : has m k = true := by
          simp [has] at h ⊢
          rcases h with h | h
          · exact absurd h hp
          · exact h
        have ih := ih h2
        rw [List.map_cons, if_neg hp]
        unfold SM.look at ih ⊢
        rw [List.find?_cons, List.find?_cons]
        by_cases hpn : p.1 = n
        · have hkn : ¬ k = n := fun e => hp (hpn.trans e.symm)
          simp [hpn, hkn]
        · simp only [hpn, decide_false]
          exact ih
  · rename_i h
    unfold SM.look
    rw [List.find?_append]
    by_cases hk : k = n
    · subst hk
      have : m.find? (fun p => decide (p.1 = k)) = none := by
        rw [List.find?_eq_none]
        intro p hp
        simp only [has, Bool.not_eq_true, List.any_eq_false] at h
        rw [h p hp]; decide
      simp [this]
    · have h1 : List.find? (fun p : ByteArray × ByteArray => decide (p.1 = n)) [(k, v)] = none := by simp [hk]
      rw [h1, if_neg hk]
      simp
theorem look_puts (l : List SP) (n : ByteArray) : SM.look (putsP (l.map sI)) n = (lastP l n).map (·.f1) := by
  induction l using Ord.snocRec with
  | nil => rfl
  | snoc l x ih =>
    have e : putsP ((l ++ [x]).map sI) = put (putsP (l.map sI)) x.f0 x.f1 := by simp [putsP, sI]
    rw [e, look_put, lastP, Ord.lastOf_snoc, ih]
    by_cases h : x.f0 = n
    · rw [if_pos h, if_pos h]; rfl
    · rw [if_neg h, if_neg h]
theorem envP_last (l : List SP) (n : Bs) : envP (l.map sI) n = (lastP l (mk n)).map (fun x => x.f1.data.toList) := by
  unfold envP envOf
  rw [look_puts]
  cases lastP l (mk n) <;> rfl
/-- what spec.Look tells -/
def lookAns (o : Option SP) : ByteArray × Bool := match o with
  | none => (⟨#[]⟩, false)
  | some x => (x.f1, true)
theorem look_l0 (l : List SP) (n : ByteArray) (hl : l.length ≤ 2147483647) : ∀ (i k : Nat), i ≤ l.length → i < k → spec_Look.l0 k l n ((i : Int) - 1) = some (lookAns (lastP (l.take i) n))
  | i, 0, _, h => by omega
  | 0, k + 1, _, _ => by
    rw [spec_Look.l0, if_neg (by omega)]
    rfl
  | i + 1, k + 1, hi, hk => by
    have hlt : i < l.length := by omega
    have e1 : ((i + 1 : Nat) : Int) - 1 = (i : Int) := by omega
    have w1 : wrap64 ((i : Int) - 1) = (i : Int) - 1 := by unfold wrap64; omega
    rw [spec_Look.l0, e1, if_pos (by omega), if_pos (by omega), if_pos (by omega), w1, look_l0 l n hl i k (by omega) (by omega), rd_get hlt, List.take_succ_eq_append_getElem hlt]
    unfold lastP
    rw [Ord.lastOf_snoc]
    by_cases h : l[i].f0 = n
    · rw [if_pos h, if_pos (by rw [h])]; rfl
    · rw [if_neg h, if_neg (fun e => h (Ord.toList_inj e))]
theorem look_l (l : List SP) (n : ByteArray) (hl : l.length ≤ 2147483647) : spec_Look.f (l.length + 1) l n = some (lookAns (lastP l n)) := by
  unfold spec_Look.f
  have w1 : wrap64 ((l.length : Int) - 1) = (l.length : Int) - 1 := by unfold wrap64; omega
  rw [w1, look_l0 l n hl l.length _ (Nat.le_refl _) (Nat.lt_succ_self _), List.take_length]
/-! ### bounds -/
theorem fits4_ok (a b : ByteArray) (h : laws_zzFits4.f a b = some true) : a.size ≤ 2147483647 ∧ b.size ≤ 2147483647 := by
  unfold laws_zzFits4.f at h
  split at h
  · cases h
  · split at h
    · cases h
    · constructor <;> omega
theorem fits3_all (l : List SP) (hl : l.length ≤ 2147483647) : ∀ n i, n = l.length - i → i ≤ l.length → laws_zzFits3.l0 (n + 1) l (l.length : Int) (i : Int) = some true → ∀ x ∈ l.drop i, x.f1.size ≤ 2147483647
  | 0, i, h, hi, _, x, hx => by
    rw [List.drop_of_length_le (by omega)] at hx; cases hx
  | n + 1, i, h, hi, hf, x, hx => by
    have hlt : i < l.length := by omega
    rw [laws_zzFits3.l0, if_pos (by omega), if_pos (by omega), if_pos (by omega), wrapS i (by omega), rd_get hlt] at hf
    cases h4 : laws_zzFits4.f l[i].f0 l[i].f1 with
    | none => rw [h4] at hf; cases hf
    | some b =>
      rw [h4] at hf
      cases b with
      | false => cases hf
      | true =>
        rw [List.drop_eq_getElem_cons hlt] at hx
        rcases List.mem_cons.1 hx with rfl | hx
        · exact (fits4_ok _ _ h4).2
        · exact fits3_all l hl n (i + 1) (by omega) (by omega) (by simpa using hf) x hx
theorem fits3_vals (l : List SP) (h : laws_zzFits3.f (l.length + 1) l = some true) : ∀ x ∈ l, x.f1.size ≤ 2147483647 := by
  unfold laws_zzFits3.f at h
  split at h
  · cases h
  · have := fits3_all l (by omega) l.length 0 (by omega) (by omega) h
    simpa using this
theorem fitP_sub (l : List SP) : ∀ x ∈ fitP l, x ∈ l := by
  intro x hx
  have := (Ord.fit_mem (key := S59.f0) l x).1 hx
  clear hx
  revert this
  generalize x.f0 = k
  intro h
  induction l using Ord.snocRec with
  | nil => simp [Ord.lastOf] at h
  | snoc l y ih =>
    rw [Ord.lastOf_snoc] at h
    split at h
    · injection h with h; subst h; simp
    · exact List.mem_append_left _ (ih h)
theorem last_mem {l : List SP} {n : ByteArray} {x : SP} (h : lastP l n = some x) : x ∈ l := by
  revert h
  induction l using Ord.snocRec with
  | nil => intro h; simp [Ord.lastOf] at h
  | snoc l y ih =>
    intro h
    unfold lastP at h
    rw [Ord.lastOf_snoc] at h
    split at h
    · injection h with h; subst h; simp
    · exact List.mem_append_left _ (ih h)
/-! ### a row of texts -/
theorem fits2_l0 (l : List ByteArray) (hl : l.length ≤ 2147483647) : ∀ n i, n = l.length - i → i ≤ l.length → ∃ r, laws_zzFits2.l0 (n + 1) l (l.length : Int) (i : Int) = some r ∧ (r = true → ∀ x ∈ l.drop i, x.size ≤ 2147483647)
  | 0, i, h, hi => by
    rw [laws_zzFits2.l0, if_neg (by omega)]
    exact ⟨_, rfl, fun _ x hx => by rw [List.drop_of_length_le (by omega)] at hx; cases hx⟩
  | n + 1, i, h, hi => by
    have hlt : i < l.length := by omega
    have e : rdOf ByteArray.empty l (i : Int) = l[i] := by simp [rdOf, List.getD_eq_getElem?_getD, List.getElem?_eq_getElem hlt]
    rw [laws_zzFits2.l0, if_pos (by omega), if_pos (by omega), if_pos (by omega), wrapS i (by omega), e]
    split
    · exact ⟨_, rfl, fun h => by cases h⟩
    · rename_i hs
      obtain ⟨r, h1, h2⟩ := fits2_l0 l hl n (i + 1) (by omega) (by omega)
      refine ⟨r, h1, fun hr x hx => ?_⟩
      rw [List.drop_eq_getElem_cons hlt] at hx
      rcases List.mem_cons.1 hx with rfl | hx
      · omega
      · exact h2 hr x hx
theorem fits2 (l : List ByteArray) : ∃ r, laws_zzFits2.f (l.length + 1) l = some r ∧ (r = true → l.length ≤ 2147483647 ∧ ∀ x ∈ l, x.size ≤ 2147483647) := by
  unfold laws_zzFits2.f
  split
  · exact ⟨_, rfl, fun h => by cases h⟩
  · obtain ⟨r, h1, h2⟩ := fits2_l0 l (by omega) l.length 0 (by omega) (by omega)
    exact ⟨r, h1, fun hr => ⟨by omega, by simpa using h2 hr⟩⟩
end Go.Proofs.YtlncdacoefoldaaGreatDoor.U
