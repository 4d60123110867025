/- Plain facts: the order of strings, lists that rise by their keys, the last value of a key. No statement, no program. -/
import GoSem.Op.String
import Derived.Lib.Strings
namespace Go.Proofs.YtgeamhmenmomhaaDoor.Ord
set_option linter.unusedVariables false
set_option linter.unusedSimpArgs false
set_option linter.unusedSectionVars false
open Go

/-- from the end on -/
theorem snocRec {α : Type} {motive : List α → Prop} (nil : motive []) (snoc : ∀ l x, motive l → motive (l ++ [x])) (l : List α) : motive l := by
  have : ∀ r : List α, motive r.reverse := fun r => by
    induction r with
    | nil => exact nil
    | cons x r ih => rw [List.reverse_cons]; exact snoc _ _ ih
  have h := this l.reverse
  rwa [List.reverse_reverse] at h
/-! ### the order of strings -/
theorem less_irrefl : ∀ l : List UInt8, Op.bytesLess l l = false
  | [] => rfl
  | a :: l => by simp [Op.bytesLess, less_irrefl l]
theorem less_trans : ∀ a b c : List UInt8, Op.bytesLess a b = true → Op.bytesLess b c = true → Op.bytesLess a c = true
  | _, _, [], _, h => by cases ‹List UInt8› <;> simp [Op.bytesLess] at h
  | _, [], _ :: _, h, _ => by cases ‹List UInt8› <;> simp [Op.bytesLess] at h
  | [], _ :: _, _ :: _, _, _ => rfl
  | a :: x, b :: y, c :: z, h, k => by
    simp only [Op.bytesLess, Bool.or_eq_true, Bool.and_eq_true, decide_eq_true_eq, beq_iff_eq] at h k ⊢
    rcases h with h | ⟨rfl, h⟩
    · rcases k with k | ⟨rfl, k⟩
      · exact .inl (UInt8.lt_trans h k)
      · exact .inl h
    · rcases k with k | ⟨rfl, k⟩
      · exact .inl k
      · exact .inr ⟨rfl, less_trans x y z h k⟩
theorem less_tri : ∀ a b : List UInt8, Op.bytesLess a b = false → Op.bytesLess b a = false → a = b
  | [], [], _, _ => rfl
  | [], _ :: _, h, _ => by simp [Op.bytesLess] at h
  | _ :: _, [], _, h => by simp [Op.bytesLess] at h
  | a :: x, b :: y, h, k => by
    simp only [Op.bytesLess, Bool.or_eq_false_iff, decide_eq_false_iff_not, Bool.and_eq_false_iff, beq_eq_false_iff_ne] at h k
    have e : a = b := by
      have h1 := UInt8.not_lt.1 h.1
      have h2 := UInt8.not_lt.1 k.1
      exact UInt8.le_antisymm h2 h1
    subst e
    have h2 := h.2.resolve_left (by simp)
    have k2 := k.2.resolve_left (by simp)
    rw [less_tri x y h2 k2]
theorem toList_inj {s t : ByteArray} (h : s.toList = t.toList) : s = t := by
  have e : ∀ u : ByteArray, u.toList = u.data.toList := fun u => by
    exact Lib.toList_data u
  rw [e, e] at h
  exact ByteArray.ext (Array.toList_inj.1 h)
def lt (a b : ByteArray) : Bool := Op.bytesLess a.toList b.toList
theorem lt_irrefl (a : ByteArray) : lt a a = false := less_irrefl _
theorem lt_trans {a b c : ByteArray} (h : lt a b = true) (k : lt b c = true) : lt a c = true := less_trans _ _ _ h k
theorem lt_tri {a b : ByteArray} (h : lt a b = false) (k : lt b a = false) : a = b := toList_inj (less_tri _ _ h k)
theorem lt_asymm {a b : ByteArray} (h : lt a b = true) : lt b a = false := by
  cases e : lt b a
  · rfl
  · have := lt_trans h e
    rw [lt_irrefl] at this
    cases this
theorem lt_ne {a b : ByteArray} (h : lt a b = true) : a ≠ b := fun e => by rw [e, lt_irrefl] at h; cases h

/-! ### lists that rise by their keys -/
section
variable {α : Type} (key : α → ByteArray)
def Asc (l : List α) : Prop := l.Pairwise (fun p q => lt (key p) (key q) = true)
/-- where a key stands, or would stand -/
def at_ (l : List α) (k : ByteArray) : Nat := (l.takeWhile (fun p => lt (key p) k)).length
def step (l : List α) (x : α) : List α :=
  match l[at_ key l (key x)]? with
  | some q => if key q = key x then l.set (at_ key l (key x)) x else l.take (at_ key l (key x)) ++ x :: l.drop (at_ key l (key x))
  | none => l.take (at_ key l (key x)) ++ x :: l.drop (at_ key l (key x))
/-- the same, by recursion -/
def stepR (x : α) : List α → List α
  | [] => [x]
  | q :: l => if lt (key q) (key x) = true then q :: stepR x l else if key q = key x then x :: l else x :: q :: l
def fit (l : List α) : List α := l.foldl (step key) []
def lastOf (l : List α) (k : ByteArray) : Option α := l.foldl (fun acc p => if key p = k then some p else acc) none
variable {key}
theorem step_eq (x : α) : ∀ l : List α, step key l x = stepR key x l
  | [] => by simp [step, stepR, at_]
  | q :: l => by
    have ih := step_eq x l
    unfold step at ih ⊢
    unfold stepR at_
    rw [List.takeWhile_cons]
    by_cases h : lt (key q) (key x) = true
    · rw [if_pos h, if_pos h]
      simp only [List.length_cons, List.getElem?_cons_succ, List.take_succ_cons, List.drop_succ_cons, List.set_cons_succ, List.cons_append]
      rw [← ih]
      unfold at_
      split
      · split <;> rfl
      · rfl
    · rw [if_neg h, if_neg h]
      simp only [List.length_nil, List.getElem?_cons_zero, List.set_cons_zero, List.take_zero, List.drop_zero, List.nil_append]
theorem stepR_mem {x : α} : ∀ {l : List α}, Asc key l → ∀ p, p ∈ stepR key x l ↔ p = x ∨ (key p ≠ key x ∧ p ∈ l)
  | [], _, p => by simp [stepR]
  | q :: l, h, p => by
    have a1 := List.pairwise_cons.1 h
    unfold stepR
    split
    · rename_i hq
      rw [List.mem_cons, stepR_mem a1.2 p, List.mem_cons]
      constructor
      · rintro (rfl | rfl | ⟨h1, h2⟩)
        · exact .inr ⟨lt_ne hq, .inl rfl⟩
        · exact .inl rfl
        · exact .inr ⟨h1, .inr h2⟩
      · rintro (rfl | ⟨h1, rfl | h2⟩)
        · exact .inr (.inl rfl)
        · exact .inl rfl
        · exact .inr (.inr ⟨h1, h2⟩)
    · rename_i hq
      have big : ∀ r, r ∈ l → key q = key x ∨ lt (key x) (key q) = true → lt (key x) (key r) = true := fun r hr e => by
        rcases e with e | e
        · rw [← e]; exact a1.1 r hr
        · exact lt_trans e (a1.1 r hr)
      split
      · rename_i e
        rw [List.mem_cons, List.mem_cons]
        constructor
        · rintro (rfl | h2)
          · exact .inl rfl
          · exact .inr ⟨(fun e' => by have := big p h2 (Or.inl e); rw [e', lt_irrefl] at this; exact absurd this (by decide)), Or.inr h2⟩
        · rintro (rfl | ⟨h1, rfl | h2⟩)
          · exact .inl rfl
          · exact absurd e h1
          · exact .inr h2
      · rename_i e
        have hx : lt (key x) (key q) = true := by
          cases hc : lt (key x) (key q)
          · exact absurd (lt_tri (by simpa using hq) hc) e
          · rfl
        rw [List.mem_cons, List.mem_cons]
        constructor
        · rintro (rfl | rfl | h2)
          · exact .inl rfl
          · exact .inr ⟨e, .inl rfl⟩
          · exact .inr ⟨(fun e' => by have := big p h2 (Or.inr hx); rw [e', lt_irrefl] at this; exact absurd this (by decide)), Or.inr h2⟩
        · rintro (rfl | ⟨h1, rfl | h2⟩)
          · exact .inl rfl
          · exact .inr (.inl rfl)
          · exact .inr (.inr h2)
theorem stepR_asc {x : α} : ∀ {l : List α}, Asc key l → Asc key (stepR key x l)
  | [], _ => by simp [stepR, Asc]
  | q :: l, h => by
    have a1 := List.pairwise_cons.1 h
    unfold stepR
    split
    · rename_i hq
      refine List.pairwise_cons.2 ⟨fun p hp => ?_, stepR_asc a1.2⟩
      rcases (stepR_mem a1.2 p).1 hp with rfl | ⟨_, hp⟩
      · exact hq
      · exact a1.1 p hp
    · rename_i hq
      split
      · rename_i e
        exact List.pairwise_cons.2 ⟨fun p hp => by rw [← e]; exact a1.1 p hp, a1.2⟩
      · rename_i e
        have hx : lt (key x) (key q) = true := by
          cases hc : lt (key x) (key q)
          · exact absurd (lt_tri (by simpa using hq) hc) e
          · rfl
        refine List.pairwise_cons.2 ⟨fun p hp => ?_, h⟩
        rcases List.mem_cons.1 hp with rfl | hp
        · exact hx
        · exact lt_trans hx (a1.1 p hp)
theorem fit_snoc (l : List α) (x : α) : fit key (l ++ [x]) = step key (fit key l) x := by simp [fit]
theorem lastOf_snoc (l : List α) (x : α) (k : ByteArray) : lastOf key (l ++ [x]) k = if key x = k then some x else lastOf key l k := by simp [lastOf]
theorem fit_spec (l : List α) : Asc key (fit key l) ∧ ∀ p, p ∈ fit key l ↔ lastOf key l (key p) = some p := by
  induction l using snocRec with
  | nil => simp [fit, lastOf, Asc]
  | snoc l x ih =>
    rw [fit_snoc, step_eq]
    refine ⟨stepR_asc ih.1, fun p => ?_⟩
    rw [stepR_mem ih.1, lastOf_snoc, ih.2]
    by_cases e : key x = key p
    · rw [if_pos e]
      constructor
      · rintro (rfl | ⟨h, _⟩)
        · rfl
        · exact absurd e.symm h
      · intro h
        injection h with h
        exact .inl h.symm
    · rw [if_neg e]
      constructor
      · rintro (rfl | ⟨_, h⟩)
        · exact absurd rfl e
        · exact h
      · intro h
        exact .inr ⟨fun q => e q.symm, h⟩
theorem fit_mem (l : List α) (p : α) : p ∈ fit key l ↔ lastOf key l (key p) = some p := (fit_spec l).2 p
theorem at_le (l : List α) (k : ByteArray) : at_ key l k ≤ l.length := (List.takeWhile_sublist _).length_le
theorem at_lt : ∀ {l : List α} {k : ByteArray} {j : Nat}, j < at_ key l k → ∃ p, l[j]? = some p ∧ lt (key p) k = true
  | [], k, j, h => by simp [at_] at h
  | q :: l, k, j, h => by
    unfold at_ at h
    rw [List.takeWhile_cons] at h
    split at h
    · rename_i hq
      cases j with
      | zero => exact ⟨q, rfl, hq⟩
      | succ j => exact at_lt (l := l) (j := j) (by simpa [at_] using h)
    · simp at h
theorem at_stop : ∀ {l : List α} {k : ByteArray} {p : α}, l[at_ key l k]? = some p → lt (key p) k = false
  | [], k, p, h => by simp [at_] at h
  | q :: l, k, p, h => by
    unfold at_ at h
    rw [List.takeWhile_cons] at h
    split at h
    · rename_i hq
      exact at_stop (l := l) (by simpa [at_] using h)
    · rename_i hq
      simp at h
      subst h
      simpa using hq
theorem step_set {l : List α} {x q : α} (h : l[at_ key l (key x)]? = some q) (e : key q = key x) : step key l x = l.set (at_ key l (key x)) x := by
  unfold step; rw [h]; simp [e]
theorem step_ins {l : List α} {x : α} (h : ∀ q, l[at_ key l (key x)]? = some q → key q ≠ key x) : step key l x = l.take (at_ key l (key x)) ++ x :: l.drop (at_ key l (key x)) := by
  unfold step
  split
  · rename_i q hq
    rw [if_neg (h q hq)]
  · rfl
theorem step_length (l : List α) (x : α) : (step key l x).length ≤ l.length + 1 := by
  unfold step
  have := at_le (key := key) l (key x)
  split
  · split
    · simp
    · simp; omega
  · simp; omega
theorem fit_length (l : List α) : (fit key l).length ≤ l.length := by
  induction l using snocRec with
  | nil => simp [fit]
  | snoc l x ih => rw [fit_snoc]; have := step_length (key := key) (fit key l) x; simp; omega
end

/-! ### texts in rising order, as often as they stand there -/
def Srt (l : List ByteArray) : Prop := l.Pairwise (fun a b => lt b a = false)
theorem nlt_trans {a b c : ByteArray} (h : lt b a = false) (k : lt c b = false) : lt c a = false := by
  cases e : lt c a
  · rfl
  · cases e2 : lt a b
    · have := lt_tri h e2
      rw [this] at k
      rw [k] at e; exact e.symm
    · have := lt_trans e e2
      rw [k] at this; exact this.symm
theorem srt_ext : ∀ {l l' : List ByteArray}, Srt l → Srt l' → l.Perm l' → l = l'
  | [], l', _, _, h => (List.nil_perm.1 h).symm
  | a :: l, [], _, _, h => by have := h.length_eq; simp at this
  | a :: l, b :: l', h1, h2, h => by
    have a1 := List.pairwise_cons.1 h1
    have a2 := List.pairwise_cons.1 h2
    have e : a = b := by
      rcases List.mem_cons.1 (h.mem_iff.1 (List.mem_cons_self (a := a) (l := l))) with e | ha
      · exact e
      · rcases List.mem_cons.1 (h.mem_iff.2 (List.mem_cons_self (a := b) (l := l'))) with e | hb
        · exact e.symm
        · exact lt_tri (a2.1 a ha) (a1.1 b hb)
    subst e
    rw [srt_ext a1.2 a2.2 ((List.perm_cons a).1 h)]
def sortS (l : List ByteArray) : List ByteArray := l.mergeSort (fun a b => !lt b a)
theorem sortS_perm (l : List ByteArray) : (sortS l).Perm l := List.mergeSort_perm l _
theorem sortS_srt (l : List ByteArray) : Srt (sortS l) := by
  have h := List.pairwise_mergeSort (le := fun a b => !lt b a) (fun a b c h k => by
    simp only [Bool.not_eq_true'] at h k ⊢
    exact nlt_trans h k) (fun a b => by
    cases e : lt b a
    · simp
    · rw [lt_asymm e]; simp) l
  exact h.imp (fun h => by simpa using h)
theorem sortS_unique {l l' : List ByteArray} (h : Srt l) (hp : l.Perm l') : l = sortS l' := srt_ext h (sortS_srt l') (hp.trans (sortS_perm l').symm)
theorem sortS_of_perm {l l' : List ByteArray} (h : l.Perm l') : sortS l = sortS l' := sortS_unique (sortS_srt l) ((sortS_perm l).trans h)
theorem sortS_length (l : List ByteArray) : (sortS l).length = l.length := (sortS_perm l).length_eq
end Go.Proofs.YtgeamhmenmomhaaDoor.Ord
