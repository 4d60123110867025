/- Plain: the printed functions of the package's matcher (zzName, zzOperator, zzLast, zzAt), as lists of bytes tell them. -/
import Derived.Test.YtlncdacoefoldaaGreatDoorPXx3
import Derived.Test.YtlncdacoefoldaaGreatDoorSubL
import Derived.Test.YtlncdacoefoldaaGreatDoorL
namespace Go.Proofs.YtlncdacoefoldaaGreatDoor.U
set_option linter.unusedVariables false
set_option linter.unusedSimpArgs false
set_option linter.unusedSectionVars false
open Go.RowKit Go.Proofs.YtlncdacoefoldaaGreatDoorW.PrintWords Go.Proofs.YtlncdacoefoldaaGreatDoorW.PrintLast Go.Proofs.YtlncdacoefoldaaGreatDoor.PX Go.Proofs.YtlncdacoefoldaaGreatDoor.L

/-! ### a name -/
theorem letN_le : ∀ l : Bs, letN l ≤ l.length
  | [] => Nat.le_refl _
  | [c] => by
    rw [letN]
    have e : ((197 : UInt8) == 226) = false := by decide
    split
    · simp
    · rename_i h
      by_cases a : c = 197
      · subst a; simp [e]
      · by_cases b : c = 226
        · subst b; simp
        · simp [a, b]
  | [c, d] => by
    rw [letN]
    split
    · simp
    · split
      · simp
      · simp
  | c :: d :: e :: r => by
    rw [letN]
    repeat' split
    all_goals simp
theorem charN_le (l : Bs) : charN l ≤ l.length := by
  cases l with
  | nil => exact Nat.le_refl _
  | cons c r =>
    show (if letN (c :: r) = 0 ∧ isD c = true then 1 else letN (c :: r)) ≤ _
    split
    · simp
    · exact letN_le _
theorem more_skip : ∀ (n : Nat) (r : Bs), n ≤ r.length → more r n = n + more (r.drop n) 0
  | 0, r, _ => by simp
  | n + 1, [], h => by simp at h
  | n + 1, c :: r, h => by
    have ih := more_skip n r (by simpa using h)
    rw [more, ih, List.drop_succ_cons]
    omega
theorem more_step (l : Bs) (h : charN l ≠ 0) : more l 0 = charN l + more (l.drop (charN l)) 0 := by
  cases l with
  | nil => exact absurd rfl h
  | cons c r =>
    have hl := charN_le (c :: r)
    simp at hl
    rw [more, if_neg h, more_skip _ _ (by omega)]
    have e : (c :: r).drop (charN (c :: r)) = r.drop (charN (c :: r) - 1) := by
      obtain ⟨m, hm⟩ : ∃ m, charN (c :: r) = m + 1 := ⟨charN (c :: r) - 1, by omega⟩
      rw [hm]; rfl
    rw [e]
    omega
theorem more_end (l : Bs) (h : charN l = 0) : more l 0 = 0 := by
  cases l with
  | nil => rfl
  | cons c r => rw [more, if_pos h]
theorem name_l0 (s : ByteArray) (hs : s.size < 4611686018427380000) : ∀ (n x k : Nat), n = s.size - x → x ≤ s.size → 2 * n + 4 ≤ k → template_zzName.l0 k s (x : Int) = some ((x + more (D s x) 0 : Nat) : Int)
  | n, x, 0, _, _, hk => by omega
  | n, x, 1, _, _, hk => by omega
  | n, x, 2, _, _, hk => by omega
  | n, x, 3, _, _, hk => by omega
  | n, x, k + 4, hn, hx, hk => by
    rw [template_zzName.l0]
    cases h : D s x with
    | nil =>
      have := D_nil h
      rw [if_neg (by omega)]
      rfl
    | cons c r =>
      obtain ⟨h1, h2, h3⟩ := D_cons h
      have hle := charN_le (c :: r)
      have hll := D_len s x
      rw [h] at hll
      have hc : charN (c :: r) = if letN (c :: r) = 0 ∧ isD c = true then 1 else letN (c :: r) := rfl
      have go : ∀ m : Nat, charN (c :: r) = m → m ≠ 0 → template_zzName.l0 (k + 2) s (wrap64 ((x : Int) + (m : Int))) = some ((x + more (c :: r) 0 : Nat) : Int) := by
        intro m hm hm0
        rw [wrA x m (by omega), name_l0 s hs (s.size - (x + m)) (x + m) (k + 2) rfl (by omega) (by omega), D_add, h, more_step (c :: r) (by omega), hm]
        congr 2
        omega
      rw [if_pos (by omega), show k + 3 = (k + 1) + 2 from rfl, letter_l s x (k + 1) hs, h]
      simp only [Option.bind_some, h2]
      have hj : ∀ (t : Nat) (b : Bool), charN (c :: r) = (if b = true then 1 else t) → template_zzName.j1 (k + 1 + 2) s (x : Int) (t : Int) b = some ((x + more (c :: r) 0 : Nat) : Int) := by
        intro t b ht
        rw [template_zzName.j1]
        cases b with
        | true =>
          rw [if_pos rfl, if_neg (by decide)]
          exact go 1 (by simpa using ht) (by decide)
        | false =>
          rw [if_neg (show ¬ (false = true) by decide)] at ht ⊢
          by_cases t0 : t = 0
          · subst t0
            rw [if_pos (by omega), more_end _ ht]
            rfl
          · rw [if_neg (by omega)]
            exact go t ht t0
      by_cases l0 : letN (c :: r) = 0
      · rw [l0]
        rw [if_pos (show ((0 : Nat) : Int) = 0 from rfl), if_pos (by omega)]
        have hd := isD_iff c
        by_cases d0 : (c.toNat : Int) ≥ 48
        · rw [if_pos d0]
          refine hj 0 _ ?_
          rw [hc, l0]
          by_cases d1 : (c.toNat : Int) ≤ 57
          · rw [if_pos ⟨rfl, hd.2 ⟨by omega, by omega⟩⟩, decide_eq_true d1, if_pos rfl]
          · rw [if_neg (fun q => d1 (by have := hd.1 q.2; omega)), decide_eq_false d1, if_neg (by decide)]
        · rw [if_neg d0]
          refine hj 0 _ ?_
          rw [hc, l0, if_neg (fun q => d0 (by have := hd.1 q.2; omega)), if_neg (by decide)]
      · rw [if_neg (by omega)]
        refine hj _ _ ?_
        rw [hc, if_neg (fun q => l0 q.1), if_neg (by decide)]
theorem name_l (s : ByteArray) (i k : Nat) (hs : s.size < 4611686018427380000) (hi : i ≤ s.size) (hk : 2 * s.size + 10 ≤ k) : template_zzName.f k s (i : Int) = some ((i + nameN (D s i) : Nat) : Int) := by
  obtain ⟨k, rfl⟩ : ∃ m, k = m + 2 := ⟨k - 2, by omega⟩
  unfold template_zzName.f
  rw [letter_l s i k hs]
  simp only [Option.bind_some]
  unfold nameN
  by_cases h : letN (D s i) = 0
  · rw [h, if_pos (by decide), if_pos rfl]
    rfl
  · rw [if_neg (by omega), if_neg h]
    have hle := letN_le (D s i)
    rw [D_len] at hle
    have hc : charN (D s i) = letN (D s i) := by
      cases e : D s i with
      | nil => rw [e] at h; exact absurd rfl h
      | cons c r =>
        rw [e] at h
        show (if letN (c :: r) = 0 ∧ isD c = true then 1 else letN (c :: r)) = _
        rw [if_neg (fun q => h q.1)]
    rw [wrA _ _ (by omega), name_l0 s hs _ _ _ rfl (by omega) (by omega), D_add, more_step (D s i) (by omega), hc]
    congr 2
    omega
/-! ### an operator -/
theorem oper_l (s : ByteArray) (i k : Nat) (hs : s.size < 4611686018427380000) (hi : i ≤ s.size) : template_zzOperator.f (k + 1) s (i : Int) = some ((if opN (D s i) = 0 then 0 else i + opN (D s i) : Nat) : Int) := by
  obtain ⟨w1, w2, _⟩ := wrB i (by omega)
  obtain ⟨w3, _, _⟩ := wrB (i + 1) (by omega)
  unfold template_zzOperator.f
  cases h : D s i with
  | nil =>
    have := D_nil h
    rw [if_neg (by omega), template_zzOperator.j0, if_neg (by decide), if_neg (by omega)]
    rfl
  | cons c r =>
    obtain ⟨h1, h2, h3⟩ := D_cons h
    rw [if_pos (by omega), if_pos (by omega), template_zzOperator.j0, h2, w1, w3]
    have hS : ∀ d : UInt8, isS d = true ↔ ((d.toNat : Int) = 45 ∨ (d.toNat : Int) = 43 ∨ (d.toNat : Int) = 63) := fun d => by rw [isS_iff]; omega
    by_cases c58 : c = 58
    · subst c58
      rw [if_pos (by decide)]
      cases r with
      | nil =>
        have := D_nil h3
        rw [if_neg (by omega)]
        rfl
      | cons d q =>
        obtain ⟨g1, g2, _⟩ := D_cons h3
        rw [if_pos (by omega), if_pos (by omega), g2]
        have ho : opN (58 :: d :: q) = if isS d = true then 2 else 0 := by simp [opN]; rfl
        have hd := hS d
        rw [ho]
        by_cases e : isS d = true
        · have e' := hd.1 e
          have eR : ((if (if isS d = true then 2 else 0) = 0 then 0 else i + (if isS d = true then 2 else 0) : Nat) : Int) = ((i + 1 + 1 : Nat) : Int) := by simp [e]; omega
          rw [eR]
          repeat' split
          all_goals first | rfl | omega
        · have e' := fun q => e (hd.2 q)
          have eR : ((if (if isS d = true then 2 else 0) = 0 then 0 else i + (if isS d = true then 2 else 0) : Nat) : Int) = 0 := by simp [e]
          rw [eR]
          repeat' split
          all_goals first | rfl | exact absurd (.inl ‹_›) e' | exact absurd (.inr (.inl ‹_›)) e' | exact absurd (.inr (.inr ‹_›)) e'
    · have c58' : ¬ (((c.toNat : Int) == 58) = true) := fun q => c58 ((u8 c 58).2 (by have := beq_iff_eq.1 q; show c.toNat = 58; omega))
      rw [if_neg c58', if_pos (by omega), if_pos (by omega)]
      have ho : opN (c :: r) = if isS c = true then 1 else 0 := by simp [opN, c58]
      have hd := hS c
      rw [ho]
      by_cases e : isS c = true
      · have e' := hd.1 e
        have eR : ((if (if isS c = true then 1 else 0) = 0 then 0 else i + (if isS c = true then 1 else 0) : Nat) : Int) = ((i + 1 : Nat) : Int) := by simp [e]
        rw [eR]
        repeat' split
        all_goals first | rfl | omega
      · have e' := fun q => e (hd.2 q)
        have eR : ((if (if isS c = true then 1 else 0) = 0 then 0 else i + (if isS c = true then 1 else 0) : Nat) : Int) = 0 := by simp [e]
        rw [eR]
        repeat' split
        all_goals first | rfl | exact absurd (.inl ‹_›) e' | exact absurd (.inr (.inl ‹_›)) e' | exact absurd (.inr (.inr ‹_›)) e'
/-! ### the last closing brace -/
theorem last_l0 (s : ByteArray) (hs : s.size < 4611686018427380000) : ∀ (n x k : Nat) (last : Int), n = s.size - x → x ≤ s.size → 2 * n + 2 ≤ k → template_zzLast.l0 k s (x : Int) last = some (match lastB (D s x) with | some j => ((x + j : Nat) : Int) | none => last)
  | n, x, 0, _, _, _, hk => by omega
  | n, x, 1, _, _, _, hk => by omega
  | n, x, k + 2, last, hn, hx, hk => by
    rw [template_zzLast.l0]
    obtain ⟨w1, _, _⟩ := wrB x (by omega)
    cases h : D s x with
    | nil =>
      have := D_nil h
      rw [if_neg (by omega), template_zzLast.j1, if_neg (by decide)]
      rfl
    | cons c r =>
      obtain ⟨h1, h2, h3⟩ := D_cons h
      rw [if_pos (by omega), if_pos (by omega), h2, template_zzLast.j1]
      by_cases c10 : c = 10
      · subst c10
        rw [if_neg (by decide)]
        rfl
      · have hb : ((c.toNat : Int) != 10) = true := bne_iff_ne.2 (fun q => c10 ((u8 c 10).2 (by show c.toNat = 10; omega)))
        rw [if_pos hb, if_pos (by omega), if_pos (by omega), h2, w1, last_l0 s hs (n - 1) (x + 1) k _ (by omega) (by omega) (by omega), last_l0 s hs (n - 1) (x + 1) k _ (by omega) (by omega) (by omega), h3, lastB, if_neg c10]
        cases hl : lastB r with
        | some j =>
          simp only []
          by_cases c125 : (c.toNat : Int) = 125
          · rw [if_pos c125]; congr 2; omega
          · rw [if_neg c125]; congr 2; omega
        | none =>
          simp only []
          by_cases c125 : c = 125
          · subst c125
            rw [if_pos (by rfl), if_pos rfl]
            rfl
          · rw [if_neg (fun q => c125 ((u8 c 125).2 (by show c.toNat = 125; omega))), if_neg c125]
theorem last_l (s : ByteArray) (i k : Nat) (hs : s.size < 4611686018427380000) (hi : i ≤ s.size) (hk : 2 * s.size + 10 ≤ k) : template_zzLast.f k s (i : Int) = some (match lastB (D s i) with | some j => ((i + j : Nat) : Int) | none => -1) := by
  unfold template_zzLast.f
  exact last_l0 s hs _ _ _ _ rfl hi (by omega)
end Go.Proofs.YtlncdacoefoldaaGreatDoor.U
