/- Plain: the run over a text is the run over its parts. -/
import Derived.Test.YtklbghadhneejaaDoorVolW
namespace Go.Proofs.YtklbghadhneejaaDoor.V
set_option linter.unusedVariables false
set_option linter.unusedSimpArgs false
set_option linter.unusedSectionVars false
open Go.RowKit Go.Proofs.YtklbghadhneejaaDoorW.PrintWords Go.Proofs.YtklbghadhneejaaDoorW.PrintLast Go.Proofs.YtklbghadhneejaaDoor.PX

def runP (v : Vol) : List (List UInt8) → Option Vol
  | [] => none
  | [p] => if p = [] then none else popV v 0 p
  | p :: q :: ps => if p = [] ∨ p.length = 1 then none else (popV v 58 p).bind (fun v' => runP v' (q :: ps))
theorem joinH_nil (ps : List (List UInt8)) (h : ps ≠ []) : joinH [] ps = ps := by
  cases ps with
  | nil => exact absurd rfl h
  | cons p ps => simp [joinH]
theorem run_parts : ∀ (l : List UInt8), (∀ c ∈ l, c.toNat < 128 ∧ c ≠ 36 ∧ c ≠ 125 ∧ c ≠ 0) → ∀ v b, run v b (l ++ [0]) = runP v (joinH b (partsL 58 l))
  | [], _, v, b => by
    rw [List.nil_append, run, if_neg (by decide), if_pos (.inr rfl)]
    simp only [partsL, joinH, List.append_nil]
    rw [runP]
    by_cases hb : b = []
    · rw [if_pos (.inl hb), if_pos hb]
    · rw [if_neg (fun h => h.elim hb (fun h => absurd h.1 (by decide))), if_neg hb]
      cases popV v 0 b with
      | none => rfl
      | some v' => simp [run]
  | c :: cs, h, v, b => by
    obtain ⟨h1, h2, h3, h4⟩ := h c (by simp)
    have hcs : ∀ c ∈ cs, c.toNat < 128 ∧ c ≠ 36 ∧ c ≠ 125 ∧ c ≠ 0 := fun c hc => h c (by simp [hc])
    rw [List.cons_append, run, if_neg (by intro e; rcases e with e | e | e; (· omega); (· exact h2 e); (· exact h3 e))]
    by_cases h58 : c = 58
    · subst h58
      rw [if_pos (.inl rfl), partsL, if_pos rfl]
      have hne := partsL_ne 58 cs
      cases q : partsL 58 cs with
      | nil => exact absurd q hne
      | cons p ps =>
        simp only [joinH, List.append_nil]
        rw [runP]
        by_cases hb : b = [] ∨ b.length = 1
        · rw [if_pos hb, if_pos (hb.elim .inl (fun h => .inr ⟨trivial, h⟩))]
        · rw [if_neg hb, if_neg (fun e => hb (e.elim .inl (fun h => .inr h.2)))]
          congr 1
          funext v'
          rw [run_parts cs hcs v' [], joinH_nil _ hne, q]
    · rw [if_neg (fun e => e.elim h58 h4), run_parts cs hcs v (b ++ [c]), joinH_cons _ _ _ _ h58]
theorem partsL_no (sep : UInt8) : ∀ l : List UInt8, sep ∉ l → partsL sep l = [l]
  | [], _ => rfl
  | c :: cs, h => by
    rw [partsL, if_neg (fun e => h (by simp [e])), partsL_no sep cs (fun e => h (by simp [e]))]
theorem partsL_cut (sep : UInt8) (b : List UInt8) : ∀ a : List UInt8, sep ∉ a → partsL sep (a ++ sep :: b) = a :: partsL sep b
  | [], _ => by rw [List.nil_append, partsL, if_pos rfl]
  | c :: cs, h => by
    rw [List.cons_append, partsL, if_neg (fun e => h (by simp [e])), partsL_cut sep b cs (fun e => h (by simp [e]))]
theorem fnd_none (c : Int) (s : ByteArray) : ∀ n i, n = s.size - i → i ≤ s.size → fnd c s n i = none → ∀ j, i ≤ j → j < s.size → bt s (j : Int) ≠ c
  | 0, i, h, hi, _ => fun j h1 h2 => by omega
  | n + 1, i, h, hi, hf => fun j h1 h2 => by
    rw [fnd] at hf
    split at hf
    · cases hf
    · rename_i hne
      rcases Nat.lt_or_ge i j with h3 | h3
      · exact fnd_none c s n (i + 1) (by omega) (by omega) hf j h3 h2
      · obtain rfl : i = j := by omega
        exact hne
theorem fnd_some (c : Int) (s : ByteArray) : ∀ n i j, n = s.size - i → i ≤ s.size → fnd c s n i = some j → bt s (j : Int) = c ∧ ∀ k, i ≤ k → k < j → bt s (k : Int) ≠ c
  | 0, i, j, h, hi, hf => by simp [fnd] at hf
  | n + 1, i, j, h, hi, hf => by
    rw [fnd] at hf
    split at hf
    · rename_i he
      injection hf with hf
      subst hf
      exact ⟨he, fun k h1 h2 => by omega⟩
    · rename_i hne
      obtain ⟨h1, h2⟩ := fnd_some c s n (i + 1) j (by omega) (by omega) hf
      refine ⟨h1, fun k h3 h4 => ?_⟩
      rcases Nat.lt_or_ge i k with h5 | h5
      · exact h2 k h5 h4
      · obtain rfl : i = k := by omega
        exact hne
theorem mk_data (s : ByteArray) : (⟨s.data.toList.toArray⟩ : ByteArray) = s := ba_ext' (by simp)
theorem splitC_parts : ∀ n (s : ByteArray), s.size ≤ n → splitC s.size s = (partsL 44 s.data.toList).map (fun l => (⟨l.toArray⟩ : ByteArray))
  | n, s, hn => by
    have nomem : (∀ j, j < s.size → bt s (j : Int) ≠ 44) → (44 : UInt8) ∉ s.data.toList := by
      intro h hm
      obtain ⟨j, hj, e⟩ := List.getElem_of_mem hm
      exact h j (by rw [← len_data]; exact hj) (by rw [bt_eq s j hj, e]; rfl)
    cases hz : s.size with
    | zero =>
      have : s.data.toList = [] := List.eq_nil_of_length_eq_zero (by rw [len_data, hz])
      rw [splitC, this]
      simp only [partsL, List.map_cons, List.map_nil]
      congr 1
      exact ba_ext' (by simp [this])
    | succ k =>
      rw [splitC]
      cases e : fnd 44 s s.size 0 with
      | none =>
        simp only
        rw [partsL_no 44 _ (nomem (fun j hj => fnd_none 44 s s.size 0 (by omega) (Nat.zero_le _) e j (Nat.zero_le _) hj)), List.map_singleton, mk_data]
      | some j =>
        have hj := fnd_lt 44 s s.size 0 j (by omega) (Nat.zero_le _) e
        obtain ⟨h1, h2⟩ := fnd_some 44 s s.size 0 j (by omega) (Nat.zero_le _) e
        have hjl : j < s.data.toList.length := by rw [len_data]; exact hj
        have hc : s.data.toList[j] = 44 := by
          rw [bt_eq s j hjl] at h1
          exact UInt8.toNat_inj.1 (by have : (44 : UInt8).toNat = 44 := rfl; omega)
        have hsp : s.data.toList = s.data.toList.take j ++ 44 :: s.data.toList.drop (j + 1) := by
          conv => lhs; rw [← List.take_append_drop j s.data.toList, List.drop_eq_getElem_cons hjl, hc]
        have hno : (44 : UInt8) ∉ s.data.toList.take j := by
          intro hm
          obtain ⟨i, hi, ei⟩ := List.getElem_of_mem hm
          rw [List.length_take] at hi
          have hil : i < s.data.toList.length := by omega
          rw [List.getElem_take] at ei
          exact h2 i (Nat.zero_le _) (by omega) (by rw [bt_eq s i hil, ei]; rfl)
        have hsf := size_from s (j + 1) (by omega)
        obtain ⟨m, rfl⟩ : ∃ m, n = m + 1 := ⟨n - 1, by omega⟩
        have ih := splitC_parts m (s.extract (j + 1) s.size) (by rw [hsf]; omega)
        have hge : splitC k (s.extract (j + 1) s.size) = splitC (s.extract (j + 1) s.size).size (s.extract (j + 1) s.size) := by
          obtain ⟨d, hd⟩ := Nat.exists_eq_add_of_le (show (s.extract (j + 1) s.size).size ≤ k by rw [hsf]; omega)
          rw [hd]; exact splitC_ge _ d
        simp only
        rw [hge, ih]
        conv => rhs; rw [hsp, partsL_cut 44 _ _ hno]
        rw [List.map_cons]
        congr 1
        · exact ba_ext' (by rw [extract_list, List.drop_zero, Nat.sub_zero])
        · rw [extract_list, List.take_of_length_le (by rw [List.length_drop, len_data]; exact Nat.le_refl _)]
termination_by n => n
end Go.Proofs.YtklbghadhneejaaDoor.V
