/- Plain: a text of which the specification says that it has no fault is substituted by the package as the specification says: the induction. No program in sight. -/
import Derived.Test.YtlncdacoefoldaaGreatDoorMrg3
namespace Go.Proofs.YtlncdacoefoldaaGreatDoor.U
set_option linter.unusedVariables false
set_option linter.unusedSimpArgs false
set_option linter.unusedSectionVars false

theorem wordB_eq (w : Ans) (full : Bool) (g : UInt8) (v : Option Bs) (set : Bool) : wordB w (sgn full g) v set = if g = 45 then (if set then some (some (v.getD [], none)) else w.map some) else if g = 43 then (if set then w.map some else some (some ([], none))) else (if set then some (some (v.getD [], none)) else w.map (fun p => some ([], some (p.2.getD .missing)))) := by
  unfold wordB
  rw [last_sgn]
  by_cases h1 : g = 45
  · subst h1; rfl
  · by_cases h2 : g = 43
    · subst h2; rfl
    · rw [if_neg h1, if_neg h2]
      split
      · rename_i e; injection e with e; exact absurd e h1
      · rename_i e; injection e with e; exact absurd e h2
      · rfl
theorem wordS_fine {f f2 : Bs → Ans} {v : Option Bs} {full : Bool} {g : UInt8} {w x : Bs} {n : Nat} (hg : isS g = true) (h : wordS f v full g w = some (x, n, none))
    (hf : ∀ j, closeS w 0 false = some (some j) → f (w.take j) = some (x, none) → f2 (w.take j) = some (x, none)) :
    ∃ j, closeS w 0 false = some (some j) ∧ n = j + 1 ∧ wordB (f2 (w.take j)) (sgn full g) v (setS full v) = some (some (x, none)) := by
  unfold wordS at h
  cases hc : closeS w 0 false with
  | none => rw [hc] at h; cases h
  | some o =>
    rw [hc] at h
    cases o with
    | none => cases h
    | some j =>
      simp only [] at h
      cases hfj : f (w.take j) with
      | none => rw [hfj] at h; cases h
      | some p =>
        obtain ⟨y, c⟩ := p
        rw [hfj] at h
        simp only [] at h
        have hS : g = 45 ∨ g = 43 ∨ g = 63 := by
          simp [isS] at hg
          rcases hg with (h | h) | h
          · exact .inl h
          · exact .inr (.inl h)
          · exact .inr (.inr h)
        refine ⟨j, rfl, ?_⟩
        rw [wordB_eq]
        cases hset : setS full v with
        | true =>
          rw [hset] at h
          rcases hS with rfl | rfl | rfl
          · -- '-', a value: it stays
            simp at h
            obtain ⟨_, h1, h2⟩ := h
            exact ⟨h2.symm, by simp [h1]⟩
          · -- '+', a value: the word
            simp at h
            obtain ⟨rfl, rfl, rfl⟩ := h
            have := hf j hc hfj
            exact ⟨rfl, by simp [this]⟩
          · simp at h
            obtain ⟨_, h1, h2⟩ := h
            exact ⟨h2.symm, by simp [h1]⟩
        | false =>
          rw [hset] at h
          rcases hS with rfl | rfl | rfl
          · simp at h
            obtain ⟨rfl, rfl, rfl⟩ := h
            have := hf j hc hfj
            exact ⟨rfl, by simp [this]⟩
          · simp at h
            obtain ⟨_, h1, h2⟩ := h
            exact ⟨h2.symm, by simp [h1]⟩
          · simp at h
/-- what stands in the place of a variable in braces -/
theorem atM_plain {name : Bs} (hN : Name name) (t : Bs) : atM (36 :: 123 :: (name ++ 125 :: t)) = some ⟨36 :: 123 :: (name ++ [125]), [], [], name, []⟩ := by
  have h1 : nameN (name ++ 125 :: t) = name.length := nameN_name hN (more_stop _ (by unfold stops; decide))
  have hp := name_pos hN
  have h2 : (name ++ 125 :: t).drop name.length = 125 :: t := by simp
  have h5 : nameN (123 :: (name ++ 125 :: t)) = 0 := nameN_stop _ (by unfold stops; decide)
  rw [atM, if_neg (by simp), if_neg (by decide), if_neg (by simp [h5]), if_neg (by simp)]
  unfold bracedM
  rw [h1, if_neg (by omega), h2, if_pos (show (125 :: t).head? = some 125 from rfl)]
  have e1 : (name ++ 125 :: t).take (name.length + 1) = name ++ [125] := by
    rw [List.take_append, List.take_of_length_le (by omega)]
    congr 1
    simp
  have e2 : (name ++ 125 :: t).take name.length = name := by simp
  rw [e1, e2]
theorem repl_plain (f : Bs → Ans) (env : Env) {name : Bs} (hN : Name name) : repl f env (36 :: 123 :: (name ++ [125])) = some ((env name).getD [], none) := by
  have h1 : fb (36 :: 123 :: (name ++ [125])) 0 false = some (name.length + 2) := by
    obtain ⟨⟨c, q, rfl, _⟩, h2⟩ := hN
    have hq : ∀ x ∈ q, x ≠ 123 ∧ x ≠ 125 := fun x hx => by
      have := isN_plain h2 x (List.mem_cons_of_mem _ hx)
      exact ⟨this.2.1, this.2.2.1⟩
    rw [fb, if_neg (by decide), if_neg (by decide), fb, if_neg (by decide), if_pos rfl, List.cons_append, fb, fb_plain _ _ _ hq, fb, if_pos rfl, if_pos (by decide)]
    simp
  have e1 : (36 :: 123 :: (name ++ [125])).take (name.length + 2 + 1) = 36 :: 123 :: (name ++ [125]) := List.take_of_length_le (by simp)
  have h2 : find (36 :: 123 :: (name ++ [125])) = some ⟨36 :: 123 :: (name ++ [125]), [], [], name, []⟩ := by rw [find, atM_plain hN []]
  have h3 : signOf (36 :: 123 :: (name ++ [125])) = none := by
    rw [signOf, show opN (36 :: 123 :: (name ++ [125])) = 0 by simp [opN, isS], if_pos rfl, signOf, show opN (123 :: (name ++ [125])) = 0 by simp [opN, isS], if_pos rfl, signOf_name _ _ hN.2]
    rfl
  have h4 : name ≠ [] := fun e => by have := name_pos hN; rw [e] at this; simp at this
  unfold repl
  rw [h1]
  simp only [e1, h2, ne_eq, not_true_eq_false, if_false, h4, h3]
theorem subE_le (l : Bs) : subE l ≤ l.length := by
  cases l with
  | nil => exact Nat.le_refl _
  | cons c r =>
    rw [show subE (c :: r) = if isL c = true then ((c :: r).takeWhile isN).length else 0 from rfl]
    split
    · exact (List.takeWhile_sublist _).length_le
    · exact Nat.zero_le _
/-- an item with a word -/
theorem op_case (env : Env) (n m : Nat) (K : Nat) {name : Bs} (hN : Name name) (full : Bool) {g : UInt8} (hg : isS g = true) (w x r' : Bs) (n' : Nat)
    (hw : wordS (subS env m) (env name) full g w = some (x, n', none))
    (hs : scanS (subS env m) env (123 :: (name ++ (sgn full g ++ w))) (name.length + (sgn full g).length + n' + 1) none = some (r', none))
    (IH : ∀ t', t'.length ≤ w.length → ∀ k y, subS env k t' = some (y, none) → y.length ≤ LIM → sub env n t' = some (y, none))
    (ih : ∀ l, l.length ≤ w.length → ∀ y, scanS (subS env m) env l 0 none = some (y, none) → y.length ≤ LIM → scan (sub env n) env l 0 = some (y, none))
    (hr : x.length + r'.length ≤ LIM) :
    scan (sub env n) env (36 :: 123 :: (name ++ (sgn full g ++ w))) 0 = some (x ++ r', none) := by
  obtain ⟨j, hj, rfl, hB⟩ := wordS_fine (f2 := sub env n) hg hw (fun j hj hf => IH _ (by rw [List.length_take]; omega) m x hf (by omega))
  obtain ⟨a1, a2, _⟩ := close_spec w 0 false j hj
  have hjl : j < w.length := (List.getElem?_eq_some_iff.1 a2).1
  obtain ⟨J, hJ, hjJ⟩ := lastB_ex w j a1 a2
  obtain ⟨b1, b2, b3⟩ := lastB_spec w J hJ
  have hJl : J < w.length := (List.getElem?_eq_some_iff.1 b1).1
  have hd : (123 :: (name ++ (sgn full g ++ w))).drop (name.length + (sgn full g).length + (j + 1) + 1) = w.drop (j + 1) := by
    rw [List.drop_succ_cons, Nat.add_assoc, ← List.drop_drop, List.drop_left, ← List.drop_drop, List.drop_left]
  rw [scanS_skip _ _ _ _ _ (by simp; omega), hd] at hs
  have hcut : w.drop (j + 1) = (w.take (J + 1)).drop (j + 1) ++ w.drop (J + 1) := by
    have : w = w.take (J + 1) ++ w.drop (J + 1) := (List.take_append_drop _ _).symm
    conv => lhs; rw [this]
    rw [List.drop_append_of_le_length (by rw [List.length_take]; omega)]
  rw [hcut] at hs
  have hends : (w.take (J + 1)).drop (j + 1) = [] ∨ Ends ((w.take (J + 1)).drop (j + 1)) := by
    rcases Nat.lt_or_ge j J with q | q
    · right
      have hE : Ends (w.take (J + 1)) := by
        refine ⟨?_, b2⟩
        rw [List.take_succ_eq_append_getElem hJl, List.getLast?_append]
        rw [List.getElem?_eq_getElem hJl] at b1
        simpa using b1
      exact hE.drop (j + 1) (by rw [List.length_take]; omega)
    · left
      exact List.drop_of_length_le (by rw [List.length_take]; omega)
  obtain ⟨r1, r2, c1, c2, rfl⟩ := scanS_append b3 _ _ (Nat.le_refl _) hends r' hs
  rw [List.length_append] at hr
  have hrest : sub env n ((w.take (J + 1)).drop (j + 1)) = some (r1, none) := by
    refine IH _ (by rw [List.length_drop, List.length_take]; omega) (m + 1) r1 ?_ (by omega)
    rw [subS, c1]
    rfl
  have htail := ih (w.drop (J + 1)) (by rw [List.length_drop]; omega) r2 c2 (by omega)
  have hrep := repl_op (sub env n) env hN full hg w j J hj hJ hjJ x hB r1 hrest
  have hat := atM_op hN full hg w J hJ
  rw [scan, hat]
  simp only [hrep]
  have e1 : (36 :: 123 :: (name ++ (sgn full g ++ w.take (J + 1)))).length - 1 = (123 :: (name ++ (sgn full g ++ w.take (J + 1)))).length := by simp
  have e2 : 123 :: (name ++ (sgn full g ++ w)) = (123 :: (name ++ (sgn full g ++ w.take (J + 1)))) ++ w.drop (J + 1) := by
    have : w = w.take (J + 1) ++ w.drop (J + 1) := (List.take_append_drop _ _).symm
    conv => lhs; rw [this]
    simp
  rw [e1, e2, scan_skip, htail]
  simp
theorem spec_fine (env : Env) (L : Nat) : ∀ (t : Bs), t.length = L → ∀ (n m : Nat) (r : Bs), t.length < n → subS env m t = some (r, none) → r.length ≤ LIM → sub env n t = some (r, none) := by
  induction L using Nat.strongRecOn with
  | ind L IHL =>
    intro t htL n m r hn h hr
    obtain ⟨n, rfl⟩ : ∃ k, n = k + 1 := ⟨n - 1, by omega⟩
    cases m with
    | zero => simp [subS] at h
    | succ m =>
      have hs : scanS (subS env m) env t 0 none = some (r, none) := by
        rw [subS] at h
        cases hs : scanS (subS env m) env t 0 none with
        | none => rw [hs] at h; cases h
        | some p =>
          obtain ⟨p1, p2⟩ := p
          rw [hs] at h
          cases p2 with
          | none => simpa using h
          | some c => simp at h
      have inner : ∀ (K : Nat) (l : Bs), l.length ≤ K → l.length ≤ L → l.length ≤ n → ∀ r, scanS (subS env m) env l 0 none = some (r, none) → r.length ≤ LIM → scan (sub env n) env l 0 = some (r, none) := by
        intro K
        induction K with
        | zero =>
          intro l hl _ _ r h _
          have : l = [] := List.eq_nil_of_length_eq_zero (by omega)
          subst this
          simpa [scanS, scan] using h
        | succ K ih =>
          intro l hl hlL hln r h hr
          cases l with
          | nil => simpa [scanS, scan] using h
          | cons c q =>
            simp only [List.length_cons] at hl hlL hln
            rcases scanS_step h with ⟨hc, r', h1, rfl⟩ | ⟨hc, v, k, r', h1, h2, rfl⟩
            · have := ih q (by omega) (by omega) (by omega) r' h1 (by simp at hr; omega)
              rw [scan, atM_no q hc]
              simp only [this]
            · subst hc
              rw [List.length_append] at hr
              cases q with
              | nil => simp [oneS] at h1
              | cons d q =>
                simp only [List.length_cons] at hl hlL hln
                rw [oneS] at h1
                by_cases h36 : d = 36
                · subst h36
                  rw [if_pos rfl] at h1
                  injection h1 with h1; injection h1 with h1 h3; injection h3 with h3 _
                  subst h1; subst h3
                  rw [scanS] at h2
                  have := ih q (by omega) (by omega) (by omega) r' h2 (by omega)
                  rw [scan, atM_two]
                  simp only [repl_two]
                  rw [show ([36, 36] : Bs).length - 1 = 0 + 1 from rfl, scan, this]
                  rfl
                · rw [if_neg h36] at h1
                  split at h1
                  · cases h1
                  · rename_i hfar
                    have hf1 : far ((d :: q).drop (subE (d :: q))) = false := by
                      cases e : far ((d :: q).drop (subE (d :: q)))
                      · rfl
                      · exact absurd (.inl e) hfar
                    obtain ⟨hnm, hname⟩ := name_same (d :: q) hf1
                    split at h1
                    · rename_i h0
                      obtain ⟨hN, hm⟩ := hname h0
                      injection h1 with h1; injection h1 with h1 h3; injection h3 with h3 _
                      have hle : subE (d :: q) ≤ (d :: q).length := by
                        have := name_pos hN
                        rcases Nat.lt_or_ge (d :: q).length (subE (d :: q)) with z | z
                        · rw [← hnm] at z
                          unfold nameN at z
                          rw [← hnm] at h0
                          unfold nameN at h0
                          exfalso
                          have hmz : ∀ (l : Bs) (k : Nat), more l k ≤ l.length := by
                            intro l
                            induction l with
                            | nil => intro k; simp [more]
                            | cons a l ihm =>
                              intro k
                              cases k with
                              | zero =>
                                rw [more]
                                split
                                · simp
                                · have := ihm (charN (a :: l) - 1); simp; omega
                              | succ k => have := ihm k; rw [more]; simp; omega
                          have := hmz (d :: q) 0
                          split at z <;> omega
                        · exact z
                      rw [← h3, scanS_skip _ _ _ _ _ hle] at h2
                      have hdl : ((d :: q).drop (subE (d :: q))).length ≤ q.length := by
                        have := Nat.pos_of_ne_zero h0
                        rw [List.length_drop]; simp; omega
                      have := ih ((d :: q).drop (subE (d :: q))) (by omega) (by omega) (by omega) r' h2 (by omega)
                      have el : d :: q = (d :: q).take (subE (d :: q)) ++ (d :: q).drop (subE (d :: q)) := (List.take_append_drop _ _).symm
                      have hat := atM_name hN hm
                      rw [← el] at hat
                      rw [scan, hat]
                      simp only [repl_name _ _ hN]
                      have el2 : (36 :: (d :: q).take (subE (d :: q))).length - 1 = ((d :: q).take (subE (d :: q))).length := by simp
                      rw [el2]
                      have hsk := scan_skip (sub env n) env ((d :: q).take (subE (d :: q))) ((d :: q).drop (subE (d :: q)))
                      rw [← el] at hsk
                      rw [hsk, this, ← h1]
                      rfl
                    · split at h1
                      · cases h1
                      · rename_i h0 h123
                        have h123 : d = 123 := by simpa using h123
                        subst h123
                        have hfq : far q = false := by
                          cases e : far q
                          · rfl
                          · exact absurd (.inr ⟨rfl, e⟩) hfar
                        cases hb : bracedS (subS env m) env q with
                        | none => rw [hb] at h1; cases h1
                        | some p =>
                          obtain ⟨p1, p2, p3⟩ := p
                          rw [hb] at h1
                          simp only [Option.map_some] at h1
                          injection h1 with h1; injection h1 with h1 h3; injection h3 with h3 h4
                          subst h1; subst h4
                          unfold bracedS at hb
                          split at hb
                          · cases hb
                          · rename_i hf2
                            have hf2 : far (q.drop (subE q)) = false := by
                              cases e : far (q.drop (subE q))
                              · rfl
                              · exact absurd e hf2
                            obtain ⟨hnq, hnameq⟩ := name_same q hf2
                            split at hb
                            · cases hb
                            · rename_i hE
                              have hE0 : subE q ≠ 0 := fun e => hE (.inl e)
                              obtain ⟨hN, _⟩ := hnameq hE0
                              have hEl : (q.take (subE q)).length = subE q := by
                                rw [List.length_take]
                                have := subE_le q
                                omega
                              have hq : q = q.take (subE q) ++ q.drop (subE q) := (List.take_append_drop _ _).symm
                              obtain ⟨name, hname⟩ : ∃ name, name = q.take (subE q) := ⟨_, rfl⟩
                              rw [← hname] at hN hEl hq hb
                              split at hb
                              · cases hb
                              · rename_i y ys hy
                                rw [hy] at hq
                                split at hb
                                · rename_i h125
                                  subst h125
                                  injection hb with hb; injection hb with hb hb2; injection hb2 with hb2 _
                                  subst hb; subst hb2
                                  rw [if_neg (by omega), ← hEl] at h3
                                  rw [← h3, hq] at h2
                                  have hd : (123 :: (name ++ 125 :: ys)).drop (name.length + 1 + 1) = ys := by
                                    rw [List.drop_succ_cons, ← List.drop_drop, List.drop_left]; try rfl
                                  rw [scanS_skip _ _ _ _ _ (by first | (simp; done) | (simp; omega)), hd] at h2
                                  have hlq := congrArg List.length hq
                                  simp only [List.length_append, List.length_cons] at hlq
                                  have := ih ys (by omega) (by omega) (by omega) r' h2 (by omega)
                                  rw [hq, scan, atM_plain hN ys]
                                  simp only [repl_plain _ _ hN]
                                  have e1 : (36 :: 123 :: (name ++ [125])).length - 1 = (123 :: (name ++ [125])).length := by simp
                                  have e2 : 123 :: (name ++ 125 :: ys) = (123 :: (name ++ [125])) ++ ys := by simp
                                  rw [e1, e2, scan_skip, this]
                                  rfl
                                · have main : ∀ (full : Bool) (g : UInt8) (w : Bs) (n' : Nat), isS g = true → y :: ys = sgn full g ++ w → wordS (subS env m) (env name) full g w = some (p1, n', none) → k = subE q + (sgn full g).length + n' + 1 →
                                      scan (sub env n) env (36 :: 123 :: q) 0 = some (p1 ++ r', none) := by
                                    intro full g w n' hg hyw hw hk
                                    rw [hyw] at hq
                                    have hlq := congrArg List.length hq
                                    simp only [List.length_append] at hlq
                                    rw [← hEl] at hk
                                    rw [hk, hq] at h2
                                    rw [hq]
                                    exact op_case env n m K hN full hg w p1 r' n' hw h2 (fun t' ht' k y hk hy => IHL t'.length (by omega) t' rfl n k y (by omega) hk hy) (fun l hl y hy1 hy2 => ih l (by omega) (by omega) (by omega) y hy1 hy2) (by omega)
                                  split at hb
                                  · rename_i h58
                                    subst h58
                                    split at hb
                                    · cases hb
                                    · rename_i g w
                                      split at hb
                                      · rename_i hg
                                        cases hk : wordS (subS env m) (env name) true g w with
                                        | none => rw [hk] at hb; cases hb
                                        | some z =>
                                          obtain ⟨z1, z2, z3⟩ := z
                                          rw [hk] at hb
                                          simp only [Option.map_some] at hb
                                          injection hb with hb; injection hb with hb hb2; injection hb2 with hb2 hb3
                                          subst hb; subst hb3
                                          obtain ⟨j, _, hz2, _⟩ := wordS_fine (f2 := subS env m) hg hk (fun _ _ h => h)
                                          rw [if_neg (by omega)] at hb2
                                          rw [← hb2, if_neg (by omega)] at h3
                                          exact main true g w z2 hg rfl hk (by rw [← h3]; simp [sgn])
                                      · cases hb
                                  · split at hb
                                    · rename_i hg
                                      cases hk : wordS (subS env m) (env name) false y ys with
                                      | none => rw [hk] at hb; cases hb
                                      | some z =>
                                        obtain ⟨z1, z2, z3⟩ := z
                                        rw [hk] at hb
                                        simp only [Option.map_some] at hb
                                        injection hb with hb; injection hb with hb hb2; injection hb2 with hb2 hb3
                                        subst hb; subst hb3
                                        obtain ⟨j, _, hz2, _⟩ := wordS_fine (f2 := subS env m) hg hk (fun _ _ h => h)
                                        rw [if_neg (by omega)] at hb2
                                        rw [← hb2, if_neg (by omega)] at h3
                                        exact main false y ys z2 hg rfl hk (by rw [← h3]; simp [sgn])
                                    · cases hb
      have hl : t.length ≤ n := by omega
      rw [sub, inner t.length t (Nat.le_refl _) (by omega) hl r hs hr]
      simp only []
      rw [if_pos hr]
end Go.Proofs.YtlncdacoefoldaaGreatDoor.U
