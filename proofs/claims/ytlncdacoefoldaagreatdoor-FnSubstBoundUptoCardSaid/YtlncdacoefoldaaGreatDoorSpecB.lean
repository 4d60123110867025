/- Plain: what the specification says of a text depends on the variables alone whose names occur in it. No program in sight. -/
import Derived.Test.YtlncdacoefoldaaGreatDoorSpecJ
namespace Go.Proofs.YtlncdacoefoldaaGreatDoor.U
set_option linter.unusedVariables false
set_option linter.unusedSimpArgs false
set_option linter.unusedSectionVars false

theorem wordS_env {f g : Bs → Ans} {v : Option Bs} {full : Bool} {s : UInt8} {w x : Bs} {n : Nat} (hfg : ∀ u, u <:+: w → ∀ r, f u = some (r, none) → g u = some (r, none)) (h : wordS f v full s w = some (x, n, none)) : wordS g v full s w = some (x, n, none) := by
  unfold wordS at h ⊢
  cases hc : closeS w 0 false with
  | none => rw [hc] at h; cases h
  | some o =>
    rw [hc] at h
    cases o with
    | none => cases h
    | some j =>
      simp only [] at h ⊢
      cases hf : f (w.take j) with
      | none => rw [hf] at h; cases h
      | some p =>
        obtain ⟨y, c⟩ := p
        rw [hf] at h
        simp only [] at h
        have hcn : c = none := by
          cases c with
          | none => rfl
          | some c =>
            split at h
            · cases h
            · rename_i h1
              split at h
              · injection h with h; injection h with _ h; injection h with _ h
              · rename_i h2
                exact absurd ⟨by simp, h2⟩ h1
        subst hcn
        rw [hfg _ (List.take_prefix j w).isInfix y hf]
        exact h
theorem bracedS_env {f g : Bs → Ans} {env env' : Env} {r x : Bs} {n : Nat} (he : ∀ u, u <:+: r → env u = env' u) (hfg : ∀ u, u <:+: r → ∀ y, f u = some (y, none) → g u = some (y, none)) (h : bracedS f env r = some (x, n, none)) : bracedS g env' r = some (x, n, none) := by
  have hen := he (r.take (subE r)) (List.take_prefix _ _).isInfix
  unfold bracedS at h ⊢
  rw [← hen]
  split at h
  · cases h
  · rename_i h1
    rw [if_neg h1]
    split at h
    · cases h
    · rename_i h2
      rw [if_neg h2]
      split at h
      · cases h
      · rename_i y ys hy
        have hsuf : ∀ u, u <:+: ys → u <:+: r := fun u hu => (hu.trans (List.suffix_cons y ys).isInfix).trans (by rw [← hy]; exact (List.drop_suffix _ _).isInfix)
        split at h
        · rename_i h3; rw [if_pos h3]; exact h
        · rename_i h3
          rw [if_neg h3]
          split at h
          · rename_i h4
            rw [if_pos h4]
            split at h
            · cases h
            · rename_i s w
              split at h
              · rename_i hs
                rw [if_pos hs]
                cases hk : wordS f (env (r.take (subE r))) true s w with
                | none => rw [hk] at h; cases h
                | some p =>
                  obtain ⟨p1, p2, p3⟩ := p
                  have hp3 : p3 = none := by
                    rw [hk] at h
                    simp at h
                    exact h.2.2
                  subst hp3
                  rw [wordS_env (fun u hu => hfg u (hsuf u (hu.trans (List.suffix_cons s w).isInfix))) hk]
                  rw [hk] at h
                  exact h
              · cases h
          · rename_i h4
            rw [if_neg h4]
            split at h
            · rename_i hs
              rw [if_pos hs]
              cases hk : wordS f (env (r.take (subE r))) false y ys with
              | none => rw [hk] at h; cases h
              | some p =>
                obtain ⟨p1, p2, p3⟩ := p
                have hp3 : p3 = none := by
                  rw [hk] at h
                  simp at h
                  exact h.2.2
                subst hp3
                rw [wordS_env (fun u hu => hfg u (hsuf u hu)) hk]
                rw [hk] at h
                exact h
            · cases h
theorem oneS_env {f g : Bs → Ans} {env env' : Env} {q x : Bs} {n : Nat} (he : ∀ u, u <:+: q → env u = env' u) (hfg : ∀ u, u <:+: q → ∀ y, f u = some (y, none) → g u = some (y, none)) (h : oneS f env q = some (x, n, none)) : oneS g env' q = some (x, n, none) := by
  cases q with
  | nil => cases h
  | cons d r =>
    have hen := he ((d :: r).take (subE (d :: r))) (List.take_prefix _ _).isInfix
    have hsuf : ∀ u, u <:+: r → u <:+: d :: r := fun u hu => hu.trans (List.suffix_cons d r).isInfix
    rw [oneS] at h ⊢
    rw [← hen]
    split at h
    · rename_i a; rw [if_pos a]; exact h
    · rename_i a
      rw [if_neg a]
      split at h
      · cases h
      · rename_i b
        rw [if_neg b]
        split at h
        · rename_i c; rw [if_pos c]; exact h
        · rename_i c
          rw [if_neg c]
          split at h
          · cases h
          · rename_i e
            rw [if_neg e]
            cases hk : bracedS f env r with
            | none => rw [hk] at h; cases h
            | some p =>
              obtain ⟨p1, p2, p3⟩ := p
              have hp3 : p3 = none := by
                rw [hk] at h
                simp at h
                exact h.2.2
              subst hp3
              rw [bracedS_env (fun u hu => he u (hsuf u hu)) (fun u hu => hfg u (hsuf u hu)) hk]
              rw [hk] at h
              exact h
theorem scanS_env {f g : Bs → Ans} {env env' : Env} : ∀ (n : Nat) (l : Bs), l.length ≤ n → (∀ u, u <:+: l → env u = env' u) → (∀ u, u <:+: l → ∀ y, f u = some (y, none) → g u = some (y, none)) → ∀ r, scanS f env l 0 none = some (r, none) → scanS g env' l 0 none = some (r, none)
  | n, [], _, _, _, r, h => by simpa [scanS] using h
  | 0, c :: q, hn, _, _, r, h => by simp at hn
  | n + 1, c :: q, hn, he, hfg, r, h => by
    simp only [List.length_cons] at hn
    have hsuf : ∀ u, u <:+: q → u <:+: c :: q := fun u hu => hu.trans (List.suffix_cons c q).isInfix
    rcases scanS_step h with ⟨hc, r', h1, rfl⟩ | ⟨hc, v, k, r', h1, h2, rfl⟩
    · have := scanS_env n q (by omega) (fun u hu => he u (hsuf u hu)) (fun u hu => hfg u (hsuf u hu)) r' h1
      rw [scanS, if_pos hc, this]; rfl
    · subst hc
      have hk := oneS_len h1
      rw [scanS_skip f env k q none hk] at h2
      have hd : ∀ u, u <:+: q.drop k → u <:+: 36 :: q := fun u hu => hsuf u (hu.trans (List.drop_suffix _ _).isInfix)
      have := scanS_env n (q.drop k) (by rw [List.length_drop]; omega) (fun u hu => he u (hd u hu)) (fun u hu => hfg u (hd u hu)) r' h2
      rw [scanS, if_neg (by decide), oneS_env (fun u hu => he u (hsuf u hu)) (fun u hu => hfg u (hsuf u hu)) h1]
      simp only []
      rw [if_neg (by simp), scanS_skip g env' k q _ hk]
      simp [this]
theorem subS_scan {env : Env} {m : Nat} {t r : Bs} (h : subS env (m + 1) t = some (r, none)) : scanS (subS env m) env t 0 none = some (r, none) := by
  rw [subS] at h
  cases hs : scanS (subS env m) env t 0 none with
  | none => rw [hs] at h; cases h
  | some p =>
    obtain ⟨p1, p2⟩ := p
    rw [hs] at h
    cases p2 with
    | none => simpa using h
    | some c => simp at h
theorem subS_env {env env' : Env} : ∀ (m : Nat) (t : Bs), (∀ u, u <:+: t → env u = env' u) → ∀ r, subS env m t = some (r, none) → subS env' m t = some (r, none)
  | 0, t, _, r, h => by simp [subS] at h
  | m + 1, t, he, r, h => by
    have := scanS_env t.length t (Nat.le_refl _) he (fun u hu y hy => subS_env m u (fun z hz => he z (hz.trans hu)) y hy) r (subS_scan h)
    rw [subS, this]
    rfl
/-- doubled dollars -/
theorem scanS_dbl (f : Bs → Ans) (env : Env) : ∀ l : Bs, scanS f env (dbl l) 0 none = some (l, none)
  | [] => rfl
  | c :: r => by
    have ih := scanS_dbl f env r
    unfold dbl
    by_cases h : c = 36
    · subst h
      rw [if_pos rfl, scanS, if_neg (by decide), oneS, if_pos rfl]
      simp only []
      rw [if_neg (by simp), scanS]
      simp [ih]
    · rw [if_neg h, scanS, if_pos h, ih]; rfl
/-- a variable in braces -/
theorem oneS_var (f : Bs → Ans) (env : Env) {name : Bs} (hN : Name name) (t : Bs) : oneS f env (123 :: (name ++ 125 :: t)) = some ((env name).getD [], name.length + 2, none) := by
  have hE0 : subE (123 :: (name ++ 125 :: t)) = 0 := by simp [subE, isL]
  have htw : (name ++ 125 :: t).takeWhile isN = name := by
    have h2 := hN.2
    clear hN
    induction name with
    | nil => simp [isN, isL, isD]
    | cons c r ih =>
      have hc := h2 c (by simp)
      rw [List.cons_append, List.takeWhile_cons, hc]
      simp only [if_true]
      rw [ih (by simp [subE, isL]) (fun d hd => h2 d (List.mem_cons_of_mem _ hd))]
  have hE : subE (name ++ 125 :: t) = name.length := by
    obtain ⟨⟨c, q, rfl, hc⟩, _⟩ := hN
    rw [List.cons_append] at htw ⊢
    unfold subE
    simp only [hc, if_true]
    rw [htw]
  have hp := name_pos hN
  have hd : (name ++ 125 :: t).drop name.length = 125 :: t := by simp
  have hf2 : far (name ++ 125 :: t) = false := by
    obtain ⟨⟨c, q, rfl, hc⟩, _⟩ := hN
    rw [isL] at hc
    simp [UInt8.le_iff_toNat_le] at hc
    have : c.toNat < 128 := by
      rcases hc with (rfl | ⟨_, h⟩) | ⟨_, h⟩
      · decide
      · have : c.toNat ≤ 122 := h
        omega
      · have : c.toNat ≤ 90 := h
        omega
    simp [far]
    omega
  have hf3 : far (123 :: (name ++ 125 :: t)) = false := by simp [far]
  have hln : ¬ (name.length = 0 ∨ (name ++ 125 :: t).length = name.length) := by rw [List.length_append, List.length_cons]; omega
  rw [oneS, if_neg (by decide), hE0, List.drop_zero, if_neg (by simp [hf2, hf3]), if_neg (by simp), if_neg (by simp)]
  unfold bracedS
  rw [hE, hd, if_neg (by simp [far]), if_neg hln]
  simp
end Go.Proofs.YtlncdacoefoldaaGreatDoor.U
