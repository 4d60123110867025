/- Plain laws of the package's substitution: texts without dollars, doubled dollars, a variable without braces. No program in sight. -/
import Derived.Test.YtlncdacoefoldaaGreatDoorSubM
namespace Go.Proofs.YtlncdacoefoldaaGreatDoor.U
set_option linter.unusedVariables false
set_option linter.unusedSimpArgs false
set_option linter.unusedSectionVars false

theorem atM_no {c : UInt8} (r : Bs) (h : c ≠ 36) : atM (c :: r) = none := by
  cases r with
  | nil => rfl
  | cons d r => simp [atM, h]
def bare (l : Bs) : Bs := l.filter (fun c => c ≠ 36)
theorem scan_bare (f : Bs → Ans) (env : Env) : ∀ (l r : Bs), (∀ c ∈ l, c ≠ 36) → scan f env (l ++ r) 0 = (scan f env r 0).map (fun p => (l ++ p.1, p.2))
  | [], r, _ => by cases h : scan f env r 0 <;> simp [h]
  | c :: l, r, h => by
    have ih := scan_bare f env l r (fun c hc => h c (List.mem_cons_of_mem _ hc))
    rw [List.cons_append, scan, atM_no _ (h c (by simp))]
    simp only [ih]
    cases h : scan f env r 0 <;> simp
/-! ### names -/
def isN (c : UInt8) : Bool := isL c || isD c
/-- a name: a letter ahead, letters and digits behind -/
def Name (l : Bs) : Prop := (∃ c r, l = c :: r ∧ isL c = true) ∧ ∀ c ∈ l, isN c = true
theorem letN_L {c : UInt8} (r : Bs) (h : isL c = true) : letN (c :: r) = 1 := by simp [letN, h]
theorem charN_N {c : UInt8} (r : Bs) (h : isN c = true) : charN (c :: r) = 1 := by
  unfold isN at h
  cases hl : isL c
  · have hd : isD c = true := by simpa [hl] using h
    have h0 : letN (c :: r) = 0 := by
      have hlt : c.toNat ≤ 57 := by
        simp [isD] at hd
        have := UInt8.le_iff_toNat_le.1 hd.2
        simpa using this
      have a : (c == 0xc5) = false := by
        rw [beq_eq_false_iff_ne]; rintro rfl; simp at hlt
      have b : (c == 0xe2) = false := by
        rw [beq_eq_false_iff_ne]; rintro rfl; simp at hlt
      simp [letN, hl, a, b]
    simp [charN, h0, hd]
  · simp [charN, letN_L r hl]
/-- what ends a name: no letter, no digit, no byte beyond ASCII -/
def stops (c : UInt8) : Prop := isN c = false ∧ c.toNat < 128
theorem charN_stop {c : UInt8} (r : Bs) (h : stops c) : charN (c :: r) = 0 := by
  obtain ⟨h1, h2⟩ := h
  unfold isN at h1
  have hl : isL c = false := by cases e : isL c <;> simp [e] at h1 ⊢
  have hd : isD c = false := by cases e : isD c <;> simp [e] at h1 ⊢
  have a : (c == 0xc5) = false := by
    rw [beq_eq_false_iff_ne]; rintro rfl; simp at h2
  have b : (c == 0xe2) = false := by
    rw [beq_eq_false_iff_ne]; rintro rfl; simp at h2
  simp [charN, letN, hl, hd, a, b]
theorem more_name : ∀ (l r : Bs), (∀ c ∈ l, isN c = true) → more (l ++ r) 0 = l.length + more r 0
  | [], r, _ => by simp
  | c :: l, r, h => by
    have ih := more_name l r (fun c hc => h c (List.mem_cons_of_mem _ hc))
    rw [List.cons_append, more, charN_N _ (h c (by simp))]
    simp [ih]
    omega
theorem more_stop {c : UInt8} (r : Bs) (h : stops c) : more (c :: r) 0 = 0 := by rw [more, charN_stop r h]; simp
theorem nameN_name {l r : Bs} (h : Name l) (hr : more r 0 = 0) : nameN (l ++ r) = l.length := by
  obtain ⟨⟨c, q, rfl, hc⟩, h2⟩ := h
  have h3 := more_name (c :: q) r h2
  unfold nameN
  rw [h3, hr, List.cons_append, letN_L _ hc]
  simp
theorem name_pos {l : Bs} (h : Name l) : 0 < l.length := by obtain ⟨⟨c, q, rfl, _⟩, _⟩ := h; simp
theorem isN_ne {c d : UInt8} (h : isN c = true) (hd : isN d = false) : c ≠ d := fun e => by rw [e, hd] at h; cases h
/-- a text without braces -/
theorem fb_none : ∀ (l : Bs) (d : Int), (∀ c ∈ l, c ≠ 123 ∧ c ≠ 125) → fb l d false = none
  | [], _, _ => rfl
  | c :: r, d, h => by
    have ih := fb_none r d (fun c hc => h c (List.mem_cons_of_mem _ hc))
    obtain ⟨h1, h2⟩ := h c (by simp)
    rw [fb, if_neg h2, if_neg h1, ih]
    rfl
theorem atM_name {l r : Bs} (h : Name l) (hr : more r 0 = 0) : atM (36 :: (l ++ r)) = some ⟨36 :: l, [], l, [], []⟩ := by
  have hn := nameN_name h hr
  have hp := name_pos h
  obtain ⟨⟨c, q, rfl, hc⟩, h2⟩ := h
  rw [List.cons_append] at hn ⊢
  have h36 : c ≠ 36 := isN_ne (h2 c (by simp)) (by decide)
  rw [atM, if_neg (by simp), if_neg h36, if_pos (by rw [hn]; omega), hn]
  have e : (c :: (q ++ r)).take (c :: q).length = c :: q := by simp
  rw [e]
theorem repl_name (f : Bs → Ans) (env : Env) {l : Bs} (h : Name l) : repl f env (36 :: l) = some ((env l).getD [], none) := by
  have h1 : fb (36 :: l) 0 false = none := fb_none _ _ (fun c hc => by
    rcases List.mem_cons.1 hc with rfl | hc
    · decide
    · exact ⟨isN_ne (h.2 c hc) (by decide), isN_ne (h.2 c hc) (by decide)⟩)
  have h2 : find (36 :: l) = some ⟨36 :: l, [], l, [], []⟩ := by
    have := atM_name (r := []) h rfl
    rw [List.append_nil] at this
    rw [find, this]
  have h3 : l ≠ [] := fun e => by have := name_pos h; rw [e] at this; simp at this
  simp [repl, h1, h2, h3]
theorem scan_skip (f : Bs → Ans) (env : Env) : ∀ (l r : Bs), scan f env (l ++ r) l.length = scan f env r 0
  | [], r => rfl
  | c :: l, r => by rw [List.cons_append, List.length_cons, scan, scan_skip f env l r]
/-- a variable without braces -/
theorem sub_open (env : Env) (n : Nat) (before l after v : Bs) (hb : ∀ c ∈ before, c ≠ 36) (ha : ∀ c ∈ after, c ≠ 36) (h : Name l) (hv : env l = some v) (hlen : (before ++ v ++ 32 :: after).length ≤ LIM) :
    sub env (n + 1) (before ++ 36 :: (l ++ 32 :: after)) = some (before ++ v ++ 32 :: after, none) := by
  have h1 : scan (sub env n) env (32 :: after) 0 = some (32 :: after, none) := by
    have := scan_bare (sub env n) env (32 :: after) [] (fun c hc => by
      rcases List.mem_cons.1 hc with rfl | hc
      · decide
      · exact ha c hc)
    rw [List.append_nil] at this
    rw [this]
    simp [scan]
  have h2 : scan (sub env n) env (36 :: (l ++ 32 :: after)) 0 = some (v ++ 32 :: after, none) := by
    rw [scan, atM_name h (more_stop _ (by unfold stops; decide))]
    simp only [repl_name _ _ h, List.length_cons, Nat.add_sub_cancel, scan_skip, h1, hv]
    rfl
  rw [sub, scan_bare _ _ _ _ hb, h2]
  simp only [Option.map_some, ← List.append_assoc]
  rw [if_pos hlen]
end Go.Proofs.YtlncdacoefoldaaGreatDoor.U
