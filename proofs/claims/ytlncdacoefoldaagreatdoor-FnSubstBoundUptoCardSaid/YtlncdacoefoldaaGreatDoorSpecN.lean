/- Plain: how long the text can be that the specification's substitution makes. No program in sight. -/
import Derived.Test.YtlncdacoefoldaaGreatDoorSpecB
namespace Go.Proofs.YtlncdacoefoldaaGreatDoor.U
set_option linter.unusedVariables false
set_option linter.unusedSimpArgs false
set_option linter.unusedSectionVars false

theorem wordS_bd {f : Bs → Ans} {v : Option Bs} {full : Bool} {s : UInt8} {w x : Bs} {n B : Nat} {c : Option Cls} (hf : ∀ u y d, f u = some (y, d) → y.length ≤ u.length * B) (hv : ∀ y, v = some y → y.length ≤ B) (h : wordS f v full s w = some (x, n, c)) : x.length ≤ n * B ∧ n ≤ w.length := by
  unfold wordS at h
  split at h
  · cases h
  · injection h with h; injection h with h1 h2; injection h2 with h2 _; subst h1; subst h2; simp
  · rename_i j hc
    have hj : j < w.length := (List.getElem?_eq_some_iff.1 (close_spec w 0 false j hc).2.1).1
    split at h
    · cases h
    · rename_i y c' hfy
      have h1 := hf _ _ _ hfy
      have h2 : y.length ≤ j * B := Nat.le_trans h1 (Nat.mul_le_mul_right B (by rw [List.length_take]; omega))
      have h3 : (v.getD []).length ≤ B := by
        cases v with
        | none => simp
        | some z => exact hv z rfl
      have h4 : (j + 1) * B = j * B + B := Nat.succ_mul j B
      repeat' split at h
      all_goals first
        | (cases h; done)
        | (injection h with h; injection h with q1 q2; injection q2 with q2 _; subst q1; subst q2; exact ⟨by first | omega | (simp; done) | (rw [h4]; omega), by omega⟩)
theorem bracedS_bd {f : Bs → Ans} {env : Env} {r x : Bs} {n B : Nat} {c : Option Cls} (hf : ∀ u y d, f u = some (y, d) → y.length ≤ u.length * B) (he : ∀ u y, env u = some y → y.length ≤ B) (h : bracedS f env r = some (x, n, c)) : x.length ≤ n * B ∧ n ≤ r.length := by
  have hle := subE_le r
  unfold bracedS at h
  split at h
  · cases h
  split at h
  · injection h with h; injection h with h1 h2; injection h2 with h2 _; subst h1; subst h2; simp
  split at h
  · cases h
  · rename_i q qs hq
    have hl := congrArg List.length hq
    rw [List.length_drop, List.length_cons] at hl
    split at h
    · injection h with h; injection h with h1 h2; injection h2 with h2 _; subst h1; subst h2
      refine ⟨?_, by omega⟩
      rw [Nat.succ_mul]
      cases e : env (r.take (subE r)) with
      | none => simp
      | some y => have := he _ _ e; simp; omega
    · split at h
      · split at h
        · injection h with h; injection h with h1 h2; injection h2 with h2 _; subst h1; subst h2; simp
        · rename_i g w
          rw [List.length_cons] at hl
          split at h
          · cases hk : wordS f (env (r.take (subE r))) true g w with
            | none => rw [hk] at h; cases h
            | some p =>
              obtain ⟨p1, p2, p3⟩ := p
              obtain ⟨b1, b2⟩ := wordS_bd hf (fun y hy => he _ y hy) hk
              rw [hk] at h
              simp only [Option.map_some] at h
              injection h with h; injection h with h1 h2; injection h2 with h2 _; subst h1
              split at h2
              · rename_i z
                subst h2
                rw [z] at b1
                exact ⟨b1, Nat.zero_le _⟩
              · subst h2
                exact ⟨Nat.le_trans b1 (Nat.mul_le_mul_right B (by omega)), by omega⟩
          · injection h with h; injection h with h1 h2; injection h2 with h2 _; subst h1; subst h2; simp
      · split at h
        · cases hk : wordS f (env (r.take (subE r))) false q qs with
          | none => rw [hk] at h; cases h
          | some p =>
            obtain ⟨p1, p2, p3⟩ := p
            obtain ⟨b1, b2⟩ := wordS_bd hf (fun y hy => he _ y hy) hk
            rw [hk] at h
            simp only [Option.map_some] at h
            injection h with h; injection h with h1 h2; injection h2 with h2 _; subst h1
            split at h2
            · rename_i z
              subst h2
              rw [z] at b1
              exact ⟨b1, Nat.zero_le _⟩
            · subst h2
              exact ⟨Nat.le_trans b1 (Nat.mul_le_mul_right B (by omega)), by omega⟩
        · injection h with h; injection h with h1 h2; injection h2 with h2 _; subst h1; subst h2; simp
theorem oneS_bd {f : Bs → Ans} {env : Env} {q x : Bs} {n B : Nat} {c : Option Cls} (hB : 1 ≤ B) (hf : ∀ u y d, f u = some (y, d) → y.length ≤ u.length * B) (he : ∀ u y, env u = some y → y.length ≤ B) (h : oneS f env q = some (x, n, c)) : x.length ≤ n * B ∧ n ≤ q.length := by
  cases q with
  | nil => cases h
  | cons d r =>
    have hle := subE_le (d :: r)
    rw [oneS] at h
    split at h
    · injection h with h; injection h with h1 h2; injection h2 with h2 _; subst h1; subst h2
      simp; omega
    · split at h
      · cases h
      · split at h
        · rename_i hz
          injection h with h; injection h with h1 h2; injection h2 with h2 _; subst h1; subst h2
          refine ⟨?_, hle⟩
          have hm : 1 * B ≤ subE (d :: r) * B := Nat.mul_le_mul_right B (by omega)
          cases e : env ((d :: r).take (subE (d :: r))) with
          | none => simp
          | some y => have := he _ _ e; simp; omega
        · split at h
          · cases h
          · cases hk : bracedS f env r with
            | none => rw [hk] at h; cases h
            | some p =>
              obtain ⟨p1, p2, p3⟩ := p
              obtain ⟨b1, b2⟩ := bracedS_bd hf he hk
              rw [hk] at h
              simp only [Option.map_some] at h
              injection h with h; injection h with h1 h2; injection h2 with h2 _; subst h1
              simp only [List.length_cons]
              split at h2
              · rename_i z
                subst h2
                rw [z] at b1
                exact ⟨b1, Nat.zero_le _⟩
              · subst h2
                exact ⟨Nat.le_trans b1 (Nat.mul_le_mul_right B (by omega)), by omega⟩
theorem scanS_bd {f : Bs → Ans} {env : Env} {B : Nat} (hB : 1 ≤ B) (hf : ∀ u y d, f u = some (y, d) → y.length ≤ u.length * B) (he : ∀ u y, env u = some y → y.length ≤ B) : ∀ (l : Bs) (k : Nat) (cl : Option Cls) (r : Bs) (c : Option Cls), k ≤ l.length → scanS f env l k cl = some (r, c) → r.length ≤ (l.length - k) * B
  | [], k, cl, r, c, _, h => by
    have h' : some (([] : Bs), cl) = some (r, c) := by cases k <;> simpa [scanS] using h
    injection h' with h'; injection h' with h1 _
    rw [← h1]; simp
  | d :: q, k + 1, cl, r, c, hk, h => by
    rw [scanS] at h
    have := scanS_bd hB hf he q k cl r c (by simp at hk; omega) h
    rw [List.length_cons, Nat.add_sub_add_right]
    exact this
  | d :: q, 0, cl, r, c, _, h => by
    rw [scanS] at h
    rw [List.length_cons, Nat.sub_zero, Nat.succ_mul]
    split at h
    · cases hs : scanS f env q 0 cl with
      | none => rw [hs] at h; cases h
      | some p =>
        obtain ⟨p1, p2⟩ := p
        have := scanS_bd hB hf he q 0 cl p1 p2 (Nat.zero_le _) hs
        rw [hs] at h
        simp only [Option.map_some] at h
        injection h with h; injection h with h1 _
        rw [← h1, List.length_cons]
        rw [Nat.sub_zero] at this
        omega
    · cases ho : oneS f env q with
      | none => rw [ho] at h; cases h
      | some p =>
        obtain ⟨v, n, e⟩ := p
        obtain ⟨b1, b2⟩ := oneS_bd hB hf he ho
        rw [ho] at h
        simp only [] at h
        split at h
        · cases h
        · cases hs : scanS f env q n (e.or cl) with
          | none => rw [hs] at h; cases h
          | some p =>
            obtain ⟨p1, p2⟩ := p
            have := scanS_bd hB hf he q n _ p1 p2 b2 hs
            rw [hs] at h
            simp only [Option.map_some] at h
            injection h with h; injection h with h1 _
            rw [← h1, List.length_append]
            have e2 : q.length * B = n * B + (q.length - n) * B := by rw [← Nat.add_mul]; congr 1; omega
            omega
theorem subS_bd {env : Env} {B : Nat} (hB : 1 ≤ B) (he : ∀ u y, env u = some y → y.length ≤ B) : ∀ (m : Nat) (t r : Bs) (c : Option Cls), subS env m t = some (r, c) → r.length ≤ t.length * B
  | 0, t, r, c, h => by cases h
  | m + 1, t, r, c, h => by
    rw [subS] at h
    cases hs : scanS (subS env m) env t 0 none with
    | none => rw [hs] at h; cases h
    | some p =>
      obtain ⟨p1, p2⟩ := p
      have := scanS_bd hB (subS_bd hB he m) he t 0 none p1 p2 (Nat.zero_le _) hs
      rw [hs] at h
      simp only [Option.map_some] at h
      split at h
      · injection h with h; injection h with h1 _; subst h1; simpa using this
      · injection h with h; injection h with h1 _; subst h1; simp
end Go.Proofs.YtlncdacoefoldaaGreatDoor.U
