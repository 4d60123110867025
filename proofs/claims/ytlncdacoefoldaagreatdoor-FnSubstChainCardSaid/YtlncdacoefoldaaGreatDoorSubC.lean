/- Plain law of the package's substitution: nested defaults. No program in sight. -/
import Derived.Test.YtlncdacoefoldaaGreatDoorSubE
namespace Go.Proofs.YtlncdacoefoldaaGreatDoor.U
set_option linter.unusedVariables false
set_option linter.unusedSimpArgs false
set_option linter.unusedSectionVars false

def link (n x : Bs) : Bs := 36 :: 123 :: (n ++ 58 :: 45 :: (x ++ [125]))
def chain : List Bs → Bs → Bs
  | [], w => w
  | n :: ns, w => link n (chain ns w)
def want (env : Env) : List Bs → Bs → Bs
  | [], w => w
  | n :: ns, w => match env n with
    | none => want env ns w
    | some v => if v = [] then want env ns w else v
/-- a word: no dollars, braces, ends of lines -/
def Plain (l : Bs) : Prop := ∀ c ∈ l, c ≠ 36 ∧ c ≠ 123 ∧ c ≠ 125 ∧ c ≠ 10
theorem isN_plain {l : Bs} (h : ∀ c ∈ l, isN c = true) : Plain l := fun c hc => ⟨isN_ne (h c hc) (by decide), isN_ne (h c hc) (by decide), isN_ne (h c hc) (by decide), isN_ne (h c hc) (by decide)⟩
theorem lastB_end : ∀ (x : Bs), (∀ c ∈ x, c ≠ 10) → lastB (x ++ [125]) = some x.length
  | [], _ => by simp [lastB]
  | c :: r, h => by
    have ih := lastB_end r (fun c hc => h c (List.mem_cons_of_mem _ hc))
    rw [List.cons_append, lastB, if_neg (h c (by simp)), ih]
    rfl
theorem chain_no10 : ∀ (ns : List Bs) (w : Bs), (∀ n ∈ ns, Name n) → Plain w → ∀ c ∈ chain ns w, c ≠ 10
  | [], w, _, hw, c, hc => (hw c hc).2.2.2
  | n :: ns, w, hn, hw, c, hc => by
    have ih := chain_no10 ns w (fun m hm => hn m (List.mem_cons_of_mem _ hm)) hw
    simp only [chain, link, List.mem_cons, List.mem_append, List.not_mem_nil, or_false] at hc
    rcases hc with rfl | rfl | hc | rfl | rfl | hc | rfl
    · decide
    · decide
    · exact (isN_plain (hn n (by simp)).2 c hc).2.2.2
    · decide
    · decide
    · exact ih c hc
    · decide
theorem fb_plain : ∀ (x r : Bs) (d : Int), (∀ c ∈ x, c ≠ 123 ∧ c ≠ 125) → fb (x ++ r) d false = (fb r d false).map (· + x.length)
  | [], r, d, _ => by cases h : fb r d false <;> simp [h]
  | c :: x, r, d, h => by
    have ih := fb_plain x r d (fun c hc => h c (List.mem_cons_of_mem _ hc))
    obtain ⟨h1, h2⟩ := h c (by simp)
    rw [List.cons_append, fb, if_neg h2, if_neg h1, ih]
    cases h : fb r d false <;> simp [h]
    omega
theorem fb_name {n : Bs} (hn : Name n) (r : Bs) (d : Int) : fb (36 :: 123 :: (n ++ 58 :: 45 :: r)) d false = (fb r (d + 1) false).map (· + (n.length + 4)) := by
  obtain ⟨⟨c, q, rfl, _⟩, h2⟩ := hn
  have hq : ∀ c ∈ q, c ≠ 123 ∧ c ≠ 125 := fun c hc => by
    have := isN_plain h2 c (List.mem_cons_of_mem _ hc)
    exact ⟨this.2.1, this.2.2.1⟩
  rw [fb, if_neg (by decide), if_neg (by decide), fb, if_neg (by decide), if_pos rfl, List.cons_append, fb, fb_plain q _ _ hq, fb, if_neg (by decide), if_neg (by decide), fb, if_neg (by decide), if_neg (by decide)]
  cases h : fb r (d + 1) false <;> simp [h]
  omega
theorem fb_chain : ∀ (ns : List Bs) (w r : Bs) (d : Int), (∀ n ∈ ns, Name n) → Plain w → 1 ≤ d → fb (chain ns w ++ r) d false = (fb r d false).map (· + (chain ns w).length)
  | [], w, r, d, _, hw, _ => fb_plain w r d (fun c hc => ⟨(hw c hc).2.1, (hw c hc).2.2.1⟩)
  | n :: ns, w, r, d, hn, hw, hd => by
    have ih := fb_chain ns w (125 :: r) (d + 1) (fun m hm => hn m (List.mem_cons_of_mem _ hm)) hw (by omega)
    have e : chain (n :: ns) w ++ r = 36 :: 123 :: (n ++ 58 :: 45 :: (chain ns w ++ 125 :: r)) := by simp [chain, link]
    have e2 : (chain (n :: ns) w).length = n.length + (chain ns w).length + 5 := by simp [chain, link]; omega
    rw [e, fb_name (hn n (by simp)), ih, fb, if_pos rfl, if_neg (by omega), e2, show d + 1 - 1 = d by omega]
    cases h : fb r d false <;> simp [h]
    omega
theorem opN_N {c : UInt8} (r : Bs) (h : isN c = true) : opN (c :: r) = 0 := by
  have h1 : c ≠ 58 := isN_ne h (by decide)
  have h2 : isS c = false := by
    cases e : isS c
    · rfl
    · simp [isS] at e
      rcases e with (rfl | rfl) | rfl <;> exact absurd h (by decide)
  simp [opN, h1, h2]
theorem signOf_name : ∀ (n r : Bs), (∀ c ∈ n, isN c = true) → signOf (n ++ r) = signOf r
  | [], _, _ => rfl
  | c :: n, r, h => by
    rw [List.cons_append, signOf, opN_N _ (h c (by simp)), if_pos rfl]
    exact signOf_name n r (fun c hc => h c (List.mem_cons_of_mem _ hc))
theorem idx_name : ∀ (n r : Bs) (s : UInt8) (q : Bs), (∀ c ∈ n, c ≠ s) → idx (s :: q) (n ++ r) = (idx (s :: q) r).map (· + n.length)
  | [], r, s, q, _ => by cases h : idx (s :: q) r <;> simp [h]
  | c :: n, r, s, q, h => by
    have ih := idx_name n r s q (fun c hc => h c (List.mem_cons_of_mem _ hc))
    have hc : (s == c) = false := by rw [beq_eq_false_iff_ne]; exact fun e => h c (by simp) e.symm
    rw [List.cons_append, idx, ih]
    have : (s :: q).isPrefixOf (c :: (n ++ r)) = false := by simp [List.isPrefixOf, hc]
    rw [this]
    cases h : idx (s :: q) r <;> simp [h]
    omega
theorem bracedM_link {n x : Bs} (hn : Name n) (hx : ∀ c ∈ x, c ≠ 10) : atM (link n x) = some ⟨link n x, [], [], n ++ 58 :: 45 :: x, x⟩ := by
  have h1 : nameN (n ++ 58 :: 45 :: (x ++ [125])) = n.length := nameN_name hn (more_stop _ (by unfold stops; decide))
  have hp := name_pos hn
  have h2 : (n ++ 58 :: 45 :: (x ++ [125])).drop n.length = 58 :: 45 :: (x ++ [125]) := by simp
  have h3 : opN (58 :: 45 :: (x ++ [125])) = 2 := by simp [opN, isS]
  have h4 : (n ++ 58 :: 45 :: (x ++ [125])).drop (n.length + 2) = x ++ [125] := by rw [← List.drop_drop, h2]; rfl
  have h5 : nameN (123 :: (n ++ 58 :: 45 :: (x ++ [125]))) = 0 := nameN_stop _ (by unfold stops; decide)
  unfold link
  rw [atM, if_neg (by simp), if_neg (by decide), if_neg (by simp [h5]), if_neg (by simp)]
  unfold bracedM
  rw [h1, if_neg (by omega), h2, if_neg (by simp), h3, if_neg (by omega), h4, lastB_end x hx]
  have e1 : (n ++ 58 :: 45 :: (x ++ [125])).take (n.length + 2 + x.length + 1) = n ++ 58 :: 45 :: (x ++ [125]) := List.take_of_length_le (by simp; omega)
  have e2 : (n ++ 58 :: 45 :: (x ++ [125])).take (n.length + 2 + x.length) = n ++ 58 :: 45 :: x := by
    have : n ++ 58 :: 45 :: (x ++ [125]) = (n ++ 58 :: 45 :: x) ++ [125] := by simp
    rw [this, List.take_left' (by simp; omega)]
  have e3 : (x ++ [125]).take x.length = x := by simp
  simp only [e1, e2, e3]
theorem repl_link (f : Bs → Ans) (env : Env) {n x : Bs} (hn : Name n) (hx : ∀ c ∈ x, c ≠ 10) (hf : fb (link n x) 0 false = some ((link n x).length - 1)) (r : Bs) (hr : f x = some (r, none)) (h0 : f [] = some ([], none)) :
    repl f env (link n x) = some (match env n with
      | none => r
      | some v => if v = [] then r else v, none) := by
  have hl : 0 < (link n x).length := by simp [link]
  have h1 : (link n x).length - 1 + 1 = (link n x).length := by omega
  have h2 : find (link n x) = some ⟨link n x, [], [], n ++ 58 :: 45 :: x, x⟩ := by
    have h := bracedM_link hn hx
    unfold link at h ⊢
    rw [find, h]
  have h3 : signOf (link n x) = some [58, 45] := by
    unfold link
    rw [signOf, show opN (36 :: 123 :: (n ++ 58 :: 45 :: (x ++ [125]))) = 0 by simp [opN, isS], if_pos rfl, signOf, show opN (123 :: (n ++ 58 :: 45 :: (x ++ [125]))) = 0 by simp [opN, isS], if_pos rfl, signOf_name _ _ hn.2, signOf]
    simp [opN, isS]
  have h4 : idx [58, 45] (n ++ 58 :: 45 :: x) = some n.length := by
    rw [idx_name n _ 58 [45] (fun c hc => isN_ne (hn.2 c hc) (by decide)), idx]
    simp
  have h5 : n ++ 58 :: 45 :: x ≠ [] := by simp
  have h6 : (n ++ 58 :: 45 :: x).take n.length = n := by simp
  have h7 : (n ++ 58 :: 45 :: x).drop (n.length + ([58, 45] : Bs).length) = x := by rw [← List.drop_drop]; simp
  unfold repl
  rw [hf]
  simp only [h1, List.take_length, List.drop_length, h2, ne_eq, not_true_eq_false, if_false, h5, h3]
  unfold wordA
  rw [h4]
  simp only [h6, h7, hr]
  cases hv : env n with
  | none => simp [h0]
  | some v =>
    cases v with
    | nil => simp [h0]
    | cons a v => simp [h0]
theorem fb_top {n x : Bs} (hn : Name n) (ns : List Bs) (w : Bs) (hx : x = chain ns w) (hns : ∀ m ∈ ns, Name m) (hw : Plain w) : fb (link n x) 0 false = some ((link n x).length - 1) := by
  subst hx
  unfold link
  rw [fb_name hn, fb_chain ns w [125] (0 + 1) hns hw (by omega), fb, if_pos rfl, if_pos (by omega)]
  simp
  omega
theorem sub_chain (env : Env) : ∀ (ns : List Bs) (w : Bs) (n : Nat), (∀ m ∈ ns, Name m) → Plain w → ns.length < n → w.length ≤ LIM → (∀ m ∈ ns, ∀ v, env m = some v → v.length ≤ LIM) → sub env n (chain ns w) = some (want env ns w, none) ∧ (want env ns w).length ≤ LIM
  | [], w, n, _, hw, hn, hl, _ => by
    obtain ⟨n, rfl⟩ : ∃ m, n = m + 1 := ⟨n - 1, by simp at hn; omega⟩
    refine ⟨?_, hl⟩
    have := scan_bare (sub env n) env w [] (fun c hc => (hw c hc).1)
    rw [List.append_nil] at this
    simp only [chain, want]
    rw [sub, this]
    simp [scan, hl]
  | m :: ns, w, n, hm, hw, hn, hl, hv => by
    obtain ⟨n, rfl⟩ : ∃ m, n = m + 1 := ⟨n - 1, by simp at hn; omega⟩
    obtain ⟨ih, ihl⟩ := sub_chain env ns w n (fun m h => hm m (List.mem_cons_of_mem _ h)) hw (by simp at hn; omega) hl (fun m h => hv m (List.mem_cons_of_mem _ h))
    have hmn := hm m (by simp)
    have hns : ∀ m ∈ ns, Name m := fun k h => hm k (List.mem_cons_of_mem _ h)
    have h0 : sub env n [] = some ([], none) := by
      obtain ⟨n, rfl⟩ : ∃ m, n = m + 1 := ⟨n - 1, by simp at hn; omega⟩
      simp [sub, scan]
    have hr := repl_link (sub env n) env hmn (chain_no10 ns w hns hw) (fb_top hmn ns w rfl hns hw) _ ih h0
    have ha := bracedM_link hmn (chain_no10 ns w hns hw)
    have hwl : (want env (m :: ns) w).length ≤ LIM := by
      unfold want
      split
      · exact ihl
      · rename_i v hv2
        split
        · exact ihl
        · exact hv m (by simp) v hv2
    refine ⟨?_, hwl⟩
    have hs : scan (sub env n) env (link m (chain ns w)) 0 = some (want env (m :: ns) w, none) := by
      have e : link m (chain ns w) = 36 :: (link m (chain ns w)).tail := rfl
      rw [e, scan, ← e, ha]
      simp only [hr]
      have e2 : (link m (chain ns w)).length - 1 = (link m (chain ns w)).tail.length := by simp
      rw [e2]
      have := scan_skip (sub env n) env (link m (chain ns w)).tail []
      rw [List.append_nil] at this
      rw [this]
      simp [scan, want]
    rw [chain, sub, hs]
    simp only []
    rw [if_pos hwl]
end Go.Proofs.YtlncdacoefoldaaGreatDoor.U
