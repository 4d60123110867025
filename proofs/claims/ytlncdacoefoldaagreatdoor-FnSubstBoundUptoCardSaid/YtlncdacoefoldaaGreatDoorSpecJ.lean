/- Plain: what the specification says of two texts joined by a blank. No program in sight. -/
import Derived.Test.YtlncdacoefoldaaGreatDoorSpecF
namespace Go.Proofs.YtlncdacoefoldaaGreatDoor.U
set_option linter.unusedVariables false
set_option linter.unusedSimpArgs false
set_option linter.unusedSectionVars false

theorem close_ext : ∀ (w t : Bs) (deep : Nat) (any : Bool) (j : Nat), closeS w deep any = some (some j) → closeS (w ++ t) deep any = some (some j)
  | [], t, deep, any, j, h => by cases any <;> simp [closeS] at h
  | [c], t, deep, any, j, h => by
    have h0 := h
    rw [closeS] at h
    split at h
    · cases h
    · split at h
      · rename_i hc
        split at h
        · rename_i hd
          cases t with
          | nil => simpa using h0
          | cons d t =>
            subst hc; subst hd
            have hj : j = 0 := by simpa using h.symm
            subst hj
            simp [closeS]
        · cases h
      · cases any <;> simp at h
  | c :: d :: r, t, deep, any, j, h => by
    rw [closeS] at h
    rw [List.cons_append, List.cons_append, closeS]
    by_cases h1 : c = 10 ∨ c = 123
    · rw [if_pos h1] at h; cases h
    · rw [if_neg h1] at h ⊢
      by_cases h2 : c = 36 ∧ d = 36
      · rw [if_pos h2] at h ⊢
        obtain ⟨i, hi, rfl⟩ := map_map_some h
        rw [close_ext r t deep any i hi]; rfl
      · rw [if_neg h2] at h ⊢
        by_cases h3 : c = 36 ∧ d = 123
        · rw [if_pos h3] at h ⊢
          split at h
          · cases h
          · rename_i hr
            obtain ⟨i, hi, rfl⟩ := map_map_some h
            have hne : r ≠ [] := fun e => by subst e; cases any <;> simp [closeS] at hi
            obtain ⟨x, r', rfl⟩ := List.exists_cons_of_ne_nil hne
            have hr' : ¬ ((x :: r' ++ t).head? = some 125) := fun e => hr (by simpa using e)
            rw [if_neg hr', close_ext (x :: r') t (deep + 1) any i hi]; rfl
        · rw [if_neg h3] at h ⊢
          by_cases h4 : c = 125
          · rw [if_pos h4] at h ⊢
            split at h
            · rename_i hd; rw [if_pos hd]; exact h
            · rename_i hd
              rw [if_neg hd]
              obtain ⟨i, hi, rfl⟩ := map_map_some h
              have := close_ext (d :: r) t (deep - 1) true i hi
              rw [List.cons_append] at this
              rw [this]; rfl
          · rw [if_neg h4] at h ⊢
            obtain ⟨i, hi, rfl⟩ := map_map_some h
            have := close_ext (d :: r) t deep any i hi
            rw [List.cons_append] at this
            rw [this]; rfl
/-- what may stand behind a text: nothing of a name, nothing beyond ASCII -/
def Parts (t : Bs) : Prop := ∀ c r, t = c :: r → isN c = false ∧ c.toNat < 128
theorem parts_far {t : Bs} (h : Parts t) : far t = false := by
  cases t with
  | nil => rfl
  | cons c r => have := (h c r rfl).2; simp [far]; omega
theorem tw_ext {t : Bs} (h : Parts t) : ∀ l : Bs, (l ++ t).takeWhile isN = l.takeWhile isN
  | [] => by
    cases t with
    | nil => rfl
    | cons c r => simp [(h c r rfl).1]
  | c :: l => by
    rw [List.cons_append, List.takeWhile_cons, List.takeWhile_cons, tw_ext h l]
theorem subE_ext {t : Bs} (h : Parts t) (l : Bs) : subE (l ++ t) = subE l := by
  cases l with
  | nil =>
    cases t with
    | nil => rfl
    | cons c r =>
      have hc := (h c r rfl).1
      have : isL c = false := by cases e : isL c; rfl; simp [isN, e] at hc
      simp [subE, this]
  | cons c l =>
    have := tw_ext h (c :: l)
    unfold subE
    rw [List.cons_append] at this ⊢
    simp only []
    rw [this]
theorem far_ext {t : Bs} (h : Parts t) (l : Bs) : far (l ++ t) = far l := by
  cases l with
  | nil => rw [List.nil_append, parts_far h]; rfl
  | cons c l => rfl
theorem wordS_ext {f : Bs → Ans} {v : Option Bs} {full : Bool} {g : UInt8} {w x : Bs} {n : Nat} (t : Bs) (hg : isS g = true) (h : wordS f v full g w = some (x, n, none)) : wordS f v full g (w ++ t) = some (x, n, none) := by
  obtain ⟨j, hj, _, _⟩ := wordS_fine (f2 := f) hg h (fun _ _ h => h)
  have hjl := (List.getElem?_eq_some_iff.1 (close_spec w 0 false j hj).2.1).1
  unfold wordS at h ⊢
  rw [hj] at h
  rw [close_ext w t 0 false j hj]
  simp only [] at h ⊢
  rw [List.take_append_of_le_length (by omega)]
  exact h
theorem bracedS_ext {f : Bs → Ans} {env : Env} {r t x : Bs} {n : Nat} (ht : Parts t) (h : bracedS f env r = some (x, n, none)) : bracedS f env (r ++ t) = some (x, n, none) := by
  have hle := subE_le r
  unfold bracedS at h ⊢
  rw [subE_ext ht, List.drop_append_of_le_length hle, far_ext ht, List.take_append_of_le_length hle]
  split at h
  · cases h
  · rename_i hf
    rw [if_neg hf]
    split at h
    · cases h
    · rename_i h0
      have hlt : subE r < r.length := by
        rcases Nat.lt_or_ge (subE r) r.length with q | q
        · exact q
        · exact absurd (.inr (by omega)) h0
      have h0' : ¬ (subE r = 0 ∨ (r ++ t).length = subE r) := fun q => by
        rcases q with q | q
        · exact h0 (.inl q)
        · rw [List.length_append] at q; omega
      rw [if_neg h0']
      obtain ⟨y, ys, hy⟩ := List.exists_cons_of_ne_nil (drop_ne hlt)
      rw [hy] at h ⊢
      rw [List.cons_append]
      simp only [] at h ⊢
      split at h
      · rename_i a; rw [if_pos a]; exact h
      · rename_i a
        rw [if_neg a]
        split at h
        · rename_i b
          rw [if_pos b]
          cases ys with
          | nil => cases h
          | cons g w =>
            rw [List.cons_append]
            simp only [] at h ⊢
            split at h
            · rename_i hg
              rw [if_pos hg]
              cases hk : wordS f (env (r.take (subE r))) true g w with
              | none => rw [hk] at h; cases h
              | some p =>
                obtain ⟨p1, p2, p3⟩ := p
                have hp3 : p3 = none := by
                  rw [hk] at h
                  simp at h
                  exact h.2.2
                subst hp3
                rw [wordS_ext t hg hk]
                rw [hk] at h
                exact h
            · cases h
        · rename_i b
          rw [if_neg b]
          split at h
          · rename_i hg
            rw [if_pos hg]
            cases hk : wordS f (env (r.take (subE r))) false y ys with
            | none => rw [hk] at h; cases h
            | some p =>
              obtain ⟨p1, p2, p3⟩ := p
              have hp3 : p3 = none := by
                rw [hk] at h
                simp at h
                exact h.2.2
              subst hp3
              rw [wordS_ext t hg hk]
              rw [hk] at h
              exact h
          · cases h
theorem oneS_ext {f : Bs → Ans} {env : Env} {q t x : Bs} {n : Nat} (ht : Parts t) (h : oneS f env q = some (x, n, none)) : oneS f env (q ++ t) = some (x, n, none) := by
  cases q with
  | nil => cases h
  | cons d r =>
    have hle := subE_le (d :: r)
    rw [oneS] at h
    rw [List.cons_append, oneS, ← List.cons_append, subE_ext ht, List.drop_append_of_le_length hle, far_ext ht, far_ext ht, List.take_append_of_le_length hle]
    split at h
    · rename_i a; rw [if_pos a]; exact h
    · rename_i a
      rw [if_neg a]
      split at h
      · cases h
      · rename_i b
        rw [if_neg b]
        split at h
        · rename_i c; rw [if_pos c]; exact h
        · rename_i c
          rw [if_neg c]
          split at h
          · cases h
          · rename_i e
            rw [if_neg e]
            cases hk : bracedS f env r with
            | none => rw [hk] at h; cases h
            | some p =>
              obtain ⟨p1, p2, p3⟩ := p
              have hp3 : p3 = none := by
                rw [hk] at h
                simp at h
                exact h.2.2
              subst hp3
              rw [bracedS_ext ht hk]
              rw [hk] at h
              exact h
/-- how many bytes an item has: they stand there -/
theorem bracedS_len {f : Bs → Ans} {env : Env} {r x : Bs} {n : Nat} (h : bracedS f env r = some (x, n, none)) : n ≤ r.length := by
  have hle := subE_le r
  unfold bracedS at h
  split at h
  · cases h
  · split at h
    · cases h
    · split at h
      · cases h
      · rename_i y ys hy
        have hl := congrArg List.length hy
        rw [List.length_drop] at hl
        simp only [List.length_cons] at hl
        split at h
        · injection h with h; injection h with _ h; injection h with h _; omega
        · split at h
          · split at h
            · cases h
            · rename_i g w
              simp only [List.length_cons] at hl
              split at h
              · rename_i hg
                cases hk : wordS f (env (r.take (subE r))) true g w with
                | none => rw [hk] at h; cases h
                | some p =>
                  obtain ⟨p1, p2, p3⟩ := p
                  rw [hk] at h
                  simp at h
                  obtain ⟨rfl, h2, rfl⟩ := h
                  obtain ⟨j, hj, hp, _⟩ := wordS_fine (f2 := f) hg hk (fun _ _ h => h)
                  have hjl := (List.getElem?_eq_some_iff.1 (close_spec w 0 false j hj).2.1).1
                  rw [if_neg (by omega)] at h2
                  omega
              · cases h
          · split at h
            · rename_i hg
              cases hk : wordS f (env (r.take (subE r))) false y ys with
              | none => rw [hk] at h; cases h
              | some p =>
                obtain ⟨p1, p2, p3⟩ := p
                rw [hk] at h
                simp at h
                obtain ⟨rfl, h2, rfl⟩ := h
                obtain ⟨j, hj, hp, _⟩ := wordS_fine (f2 := f) hg hk (fun _ _ h => h)
                have hjl := (List.getElem?_eq_some_iff.1 (close_spec ys 0 false j hj).2.1).1
                rw [if_neg (by omega)] at h2
                omega
            · cases h
theorem oneS_len {f : Bs → Ans} {env : Env} {q x : Bs} {n : Nat} (h : oneS f env q = some (x, n, none)) : n ≤ q.length := by
  cases q with
  | nil => cases h
  | cons d r =>
    have hle := subE_le (d :: r)
    rw [oneS] at h
    split at h
    · injection h with h; injection h with _ h; injection h with h _; simp; omega
    · split at h
      · cases h
      · split at h
        · injection h with h; injection h with _ h; injection h with h _; omega
        · split at h
          · cases h
          · cases hk : bracedS f env r with
            | none => rw [hk] at h; cases h
            | some p =>
              obtain ⟨p1, p2, p3⟩ := p
              rw [hk] at h
              simp at h
              obtain ⟨rfl, h2, rfl⟩ := h
              have := bracedS_len hk
              simp only [List.length_cons]
              split at h2 <;> omega
/-- two texts that have no fault, one behind the other -/
theorem scanS_join {f : Bs → Ans} {env : Env} {t rt : Bs} (hp : Parts t) (ht : scanS f env t 0 none = some (rt, none)) : ∀ (n : Nat) (q : Bs), q.length ≤ n → ∀ r, scanS f env q 0 none = some (r, none) → scanS f env (q ++ t) 0 none = some (r ++ rt, none)
  | n, [], _, r, h => by
    have : r = [] := by simpa [scanS] using h.symm
    subst this
    simpa using ht
  | 0, c :: q, hn, r, h => by simp at hn
  | n + 1, c :: q, hn, r, h => by
    simp only [List.length_cons] at hn
    rw [List.cons_append]
    rcases scanS_step h with ⟨hc, r', h1, rfl⟩ | ⟨hc, v, k, r', h1, h2, rfl⟩
    · have := scanS_join hp ht n q (by omega) r' h1
      rw [scanS, if_pos hc, this]; rfl
    · subst hc
      have hk := oneS_len h1
      rw [scanS_skip f env k q none hk] at h2
      have := scanS_join hp ht n (q.drop k) (by rw [List.length_drop]; omega) r' h2
      rw [scanS, if_neg (by decide), oneS_ext hp h1]
      simp only []
      rw [if_neg (by simp), scanS_skip f env k (q ++ t) _ (by simp; omega), List.drop_append_of_le_length hk]
      simp [this]
end Go.Proofs.YtlncdacoefoldaaGreatDoor.U
