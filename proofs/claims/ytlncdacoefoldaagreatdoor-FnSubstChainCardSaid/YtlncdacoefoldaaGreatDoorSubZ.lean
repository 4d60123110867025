/- Walks: what stands in the place of a match, as repl says it. -/
import Derived.Test.YtlncdacoefoldaaGreatDoorSubY
namespace Go.Proofs.YtlncdacoefoldaaGreatDoor.U
set_option linter.unusedVariables false
set_option linter.unusedSimpArgs false
set_option linter.unusedSectionVars false
open Go.RowKit Go.Proofs.YtlncdacoefoldaaGreatDoorW.PrintWords Go.Proofs.YtlncdacoefoldaaGreatDoorW.PrintLast Go.Proofs.YtlncdacoefoldaaGreatDoor.PX Go.Proofs.YtlncdacoefoldaaGreatDoor.SM Go.Proofs.YtlncdacoefoldaaGreatDoor.L

theorem idx_some_infix : ∀ (s x : Bs) (i : Nat), idx s x = some i → s <:+: x
  | s, [], i, h => by
    rw [idx] at h
    split at h
    · rename_i e; rw [e]; exact List.infix_refl _
    · cases h
  | s, c :: r, i, h => by
    rw [idx] at h
    split at h
    · rename_i e; exact (List.isPrefixOf_iff_prefix.1 e).isInfix
    · obtain ⟨j, hj, _⟩ := map_some h
      exact (idx_some_infix s r j hj).trans (List.suffix_cons c r).isInfix
theorem idx_of_infix : ∀ (s x : Bs), s <:+: x → idx s x ≠ none
  | s, [], h => by
    have : s = [] := by simpa using h
    rw [idx, if_pos this]; simp
  | s, c :: r, h => by
    rw [idx]
    split
    · simp
    · rename_i hp
      rcases List.infix_cons_iff.1 h with h1 | h1
      · exact absurd (List.isPrefixOf_iff_prefix.2 h1) hp
      · have := idx_of_infix s r h1
        cases e : idx s r with
        | none => exact absurd e this
        | some j => simp
theorem idx_infix {s x t : Bs} (h : idx s t = none) (hx : x <:+: t) : idx s x = none := by
  cases e : idx s x with
  | none => rfl
  | some i => exact absurd h (idx_of_infix s t ((idx_some_infix s x i e).trans hx))
theorem word_none (f : Bs → Ans) (env : Env) {s x : Bs} (h : idx s x = none) : wordA f env s x = some none := by unfold wordA; rw [h]
/-- the same, where there is no fault -/
def fine (f : Bs → Ans) : Bs → Ans := fun t => match f t with
  | some (r, none) => some (r, none)
  | _ => none
theorem fine_ok {f : Bs → Ans} {t r : Bs} (h : f t = some (r, none)) : fine f t = some (r, none) := by unfold fine; rw [h]
theorem fine_some {f : Bs → Ans} {t : Bs} {a : Bs × Option Cls} (h : fine f t = some a) : a.2 = none ∧ f t = some a := by
  unfold fine at h
  split at h
  · rename_i r e; injection h with h; subst h; exact ⟨rfl, e⟩
  · cases h
def isSet (sg : Bs) : Option Bs → Bool
  | none => false
  | some y => !(sg.length == 2 && y == [])
def wordB (w : Ans) (sg : Bs) (v : Option Bs) (set : Bool) : Option (Option (Bs × Option Cls)) := match sg.getLast? with
  | some 45 => if set then some (some (v.getD [], none)) else w.map some
  | some 43 => if set then w.map some else some (some ([], none))
  | _ => if set then some (some (v.getD [], none)) else w.map (fun p => some ([], some (p.2.getD .missing)))
theorem wordA_at (f : Bs → Ans) (env : Env) (sg x : Bs) (i : Nat) (h : idx sg x = some i) : wordA f env sg x = wordB (f (x.drop (i + sg.length))) sg (env (x.take i)) (isSet sg (env (x.take i))) := by
  unfold wordA wordB
  rw [h]
  simp only []
  generalize sg.getLast? = L
  cases env (x.take i) with
  | none =>
    rcases L with _ | c
    · rfl
    · by_cases h1 : c = 45
      · subst h1; rfl
      · by_cases h2 : c = 43
        · subst h2; rfl
        · simp [h1, h2, isSet]
  | some y =>
    rcases L with _ | c
    · rfl
    · by_cases h1 : c = 45
      · subst h1; rfl
      · by_cases h2 : c = 43
        · subst h2; rfl
        · simp [h1, h2, isSet]
theorem wordB_none {w : Ans} {sg : Bs} {v : Option Bs} {set : Bool} (h : wordB w sg v set = some none) : False := by
  unfold wordB at h
  split at h <;> cases set
  · rw [if_neg (by decide)] at h; obtain ⟨a, _, ha⟩ := map_some h; cases ha
  · rw [if_pos rfl] at h; injection h with h; cases h
  · rw [if_neg (by decide)] at h; injection h with h; cases h
  · rw [if_pos rfl] at h; obtain ⟨a, _, ha⟩ := map_some h; cases ha
  · rw [if_neg (by decide)] at h; obtain ⟨a, _, ha⟩ := map_some h; cases ha
  · rw [if_pos rfl] at h; injection h with h; cases h
theorem word_is_none {f : Bs → Ans} {env : Env} {s x : Bs} (h : wordA f env s x = some none) : idx s x = none := by
  cases hi : idx s x with
  | none => rfl
  | some i => rw [wordA_at f env s x i hi] at h; exact (wordB_none h).elim
theorem map_fine {f : Bs → Ans} {t v : Bs} (h : (f t).map some = some (some (v, none))) : (fine f t).map some = some (some (v, none)) := by
  obtain ⟨a, h1, h2⟩ := map_some h
  injection h2 with h2
  subst h2
  rw [fine_ok h1]; rfl
theorem wordB_fine {f : Bs → Ans} {t sg v : Bs} {u : Option Bs} {set : Bool} (h : wordB (f t) sg u set = some (some (v, none))) : wordB (fine f t) sg u set = some (some (v, none)) := by
  unfold wordB at h ⊢
  split at h <;> cases set
  · rw [if_neg (by decide)] at h ⊢; exact map_fine h
  · rw [if_pos rfl] at h ⊢; exact h
  · rw [if_neg (by decide)] at h ⊢; exact h
  · rw [if_pos rfl] at h ⊢; exact map_fine h
  · rw [if_neg (by decide)] at h; obtain ⟨a, _, ha⟩ := map_some h; injection ha with ha; injection ha with _ ha; cases ha
  · rw [if_pos rfl] at h ⊢; exact h
theorem word_fine {f : Bs → Ans} {env : Env} {s x v : Bs} (h : wordA f env s x = some (some (v, none))) : wordA (fine f) env s x = some (some (v, none)) := by
  cases hi : idx s x with
  | none => rw [word_none f env hi] at h; cases h
  | some i =>
    rw [wordA_at f env s x i hi] at h
    rw [wordA_at _ env s x i hi]
    exact wordB_fine h
set_option maxHeartbeats 1000000 in
theorem rep_fine (p q : Nat) (E : List (ByteArray × ByteArray)) (f : Bs → Ans) (IH : Subs (fine f) p E) (IW : SubsW (fine f) p E) (t : Bs) (w : World) (ht : t.length < 1152921504606846976) (hE : EnvAt w p E) (hq : CfgAt w q) (r : Bs) (h : repl f (envOf E) t = some (r, none)) (hr : r.length ≤ LIM) :
    Calls Tryz.prog 112 #[.string (mk t), lk p, .pointer (some ⟨q, 0, none⟩)] w (RepTells w (r, none)) := by
  unfold repl at h
  cases hf : fb t 0 false with
  | none =>
    rw [hf] at h
    simp only [] at h
    cases hm : find t with
    | none => rw [hm] at h; cases h
    | some m =>
      rw [hm] at h
      simp only [] at h
      by_cases he : m.esc = []
      · rw [if_neg (fun k => k he)] at h
        by_cases hn : m.named = []
        · rw [if_neg (fun k => k hn)] at h
          by_cases hb : m.braced = []
          · rw [if_pos hb] at h; cases h
          · rw [if_neg hb] at h
            cases hs : signOf t with
            | none =>
              rw [hs] at h
              injection h with h
              rw [← h]
              exact rep_miss_n p q E (fine f) IH IW t w ht hE hq hf m hm he hn hb (fun i0 _ => word_none _ _ (idx_infix (sign_none t hs _ (sx_mem i0)) (find_infix t m hm)))
            | some sg =>
              rw [hs] at h
              simp only [] at h
              cases hw : wordA f (envOf E) sg m.braced with
              | none => rw [hw] at h; cases h
              | some o =>
                rw [hw] at h
                match o, h, hw with
                | none, h, hw =>
                  injection h with h
                  rw [← h]
                  exact rep_miss_n p q E (fine f) IH IW t w ht hE hq hf m hm he hn hb (fun i0 hi => by rw [hi sg hs]; exact word_none _ _ (word_is_none hw))
                | some (v, none), h, hw =>
                  cases hx : f [] with
                  | none => simp [hx] at h
                  | some y =>
                    obtain ⟨x, c⟩ := y
                    cases c with
                    | some c => simp [hx] at h
                    | none =>
                      simp [hx] at h
                      subst h
                      exact rep_ok_n p q E (fine f) IH IW t w ht hE hq hf m hm he hn hb v x (fun i0 hi => by rw [hi sg hs]; exact word_fine hw) (fine_ok hx) hr
                | some (v, some c), h, hw => cases h
        · rw [if_pos hn] at h
          injection h with h
          rw [← h]
          exact rep_named_n p q E t w ht hE hq hf m hm he hn
      · rw [if_pos he] at h
        injection h with h
        rw [← h]
        exact rep_esc_n p q E t w ht hE hq hf m hm he
  | some i =>
    rw [hf] at h
    simp only [] at h
    cases hm : find (t.take (i + 1)) with
    | none => rw [hm] at h; cases h
    | some m =>
      rw [hm] at h
      simp only [] at h
      by_cases he : m.esc = []
      · rw [if_neg (fun k => k he)] at h
        by_cases hn : m.named = []
        · rw [if_neg (fun k => k hn)] at h
          by_cases hb : m.braced = []
          · rw [if_pos hb] at h; cases h
          · rw [if_neg hb] at h
            cases hs : signOf t with
            | none =>
              rw [hs] at h
              injection h with h
              rw [← h]
              exact rep_miss_s p q E (fine f) IH IW t w ht hE hq i hf m hm he hn hb (fun i0 _ => word_none _ _ (idx_infix (sign_none t hs _ (sx_mem i0)) ((find_infix _ m hm).trans (List.take_prefix _ _).isInfix)))
            | some sg =>
              rw [hs] at h
              simp only [] at h
              cases hw : wordA f (envOf E) sg m.braced with
              | none => rw [hw] at h; cases h
              | some o =>
                rw [hw] at h
                match o, h, hw with
                | none, h, hw =>
                  injection h with h
                  rw [← h]
                  exact rep_miss_s p q E (fine f) IH IW t w ht hE hq i hf m hm he hn hb (fun i0 hi => by rw [hi sg hs]; exact word_none _ _ (word_is_none hw))
                | some (v, none), h, hw =>
                  cases hx : f (t.drop (i + 1)) with
                  | none => simp [hx] at h
                  | some y =>
                    obtain ⟨x, c⟩ := y
                    cases c with
                    | some c => simp [hx] at h
                    | none =>
                      simp [hx] at h
                      subst h
                      exact rep_ok_s p q E (fine f) IH IW t w ht hE hq i hf m hm he hn hb v x (fun i0 hi => by rw [hi sg hs]; exact word_fine hw) (fine_ok hx) hr
                | some (v, some c), h, hw => cases h
        · rw [if_pos hn] at h
          injection h with h
          rw [← h]
          exact rep_named_s p q E t w ht hE hq i hf m hm he hn
      · rw [if_pos he] at h
        injection h with h
        rw [← h]
        exact rep_esc_s p q E t w ht hE hq i hf m hm he

end Go.Proofs.YtlncdacoefoldaaGreatDoor.U
