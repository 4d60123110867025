/- Plain: what spec.shortPath says of a text. -/
import Derived.Test.YtklbghadhneejaaDoorPXx5
import Derived.Test.YtklbghadhneejaaDoorL
namespace Go.Proofs.YtklbghadhneejaaDoor.V
set_option linter.unusedVariables false
set_option linter.unusedSimpArgs false
set_option linter.unusedSectionVars false
open Go.RowKit Go.Proofs.YtklbghadhneejaaDoorW.PrintWords Go.Proofs.YtklbghadhneejaaDoorW.PrintLast Go.Proofs.YtklbghadhneejaaDoor.PX

theorem Ord_toList_inj {s t : ByteArray} (h : s.toList = t.toList) : s = t := by
  rw [ByteArray.toList_eq, ByteArray.toList_eq] at h
  exact ByteArray.ext (Array.toList_inj.1 h)
theorem wrapS (i : Nat) (h : i < 4611686018427387904) : wrap64 ((i : Int) + 1) = ((i + 1 : Nat) : Int) := by unfold wrap64; omega
/-- A byte of a word. -/
def wordC (b : Bool) (c : Int) : Prop := (97 ≤ c ∧ c ≤ 122) ∨ (65 ≤ c ∧ c ≤ 90) ∨ c = 95 ∨ (48 ≤ c ∧ c ≤ 57) ∨ c = 46 ∨ c = 45 ∨ (b = true ∧ c = 47)
theorem letter_f (c : Int) : ∃ r, spec_dotenvLetter.f c = some r ∧ (r = true → (97 ≤ c ∧ c ≤ 122) ∨ (65 ≤ c ∧ c ≤ 90) ∨ c = 95) := by
  unfold spec_dotenvLetter.f
  repeat' split
  all_goals first
    | exact ⟨_, rfl, fun _ => by omega⟩
    | exact ⟨_, rfl, fun h => .inr (.inr (by simpa using h))⟩
theorem word_l0 (s : ByteArray) (b : Bool) (hs : s.size < 4611686018427387903) : ∀ n k i, n = s.size - i → i ≤ s.size → n + 1 ≤ k → ∃ r, spec_shortWord.l0 k s b (i : Int) = some r ∧ (r = true → ∀ j, i ≤ j → j < s.size → wordC b (bt s (j : Int)))
  | n, 0, i, _, _, hk => by omega
  | 0, k + 1, i, h, hi, _ => by
    rw [spec_shortWord.l0, if_neg (by omega)]; exact ⟨_, rfl, fun _ j h1 h2 => by omega⟩
  | n + 1, k + 1, i, h, hi, hk => by
    obtain ⟨r1, h1, h2⟩ := word_l0 s b hs n k (i + 1) (by omega) (by omega) (by omega)
    have go : wordC b (bt s (i : Int)) → ∃ r, spec_shortWord.l0 k s b ((i + 1 : Nat) : Int) = some r ∧ (r = true → ∀ j, i ≤ j → j < s.size → wordC b (bt s (j : Int))) := by
      intro hc
      refine ⟨r1, h1, fun hr j hj hj2 => ?_⟩
      rcases Nat.lt_or_ge i j with h3 | h3
      · exact h2 hr j h3 hj2
      · obtain rfl : i = j := by omega
        exact hc
    obtain ⟨t, ht, htc⟩ := letter_f (bt s (i : Int))
    rw [spec_shortWord.l0, if_pos (by omega), if_pos (by omega), wrapS i (by omega), ht]
    simp only [Option.bind_some]
    generalize bt s (i : Int) = c at htc go
    have no : ∃ r, some false = some r ∧ (r = true → ∀ j, i ≤ j → j < s.size → wordC b (bt s (j : Int))) := ⟨_, rfl, fun h => by cases h⟩
    by_cases c1 : t = true
    · rw [if_pos c1]
      refine go ?_
      rcases htc c1 with h | h | h
      · exact .inl h
      · exact .inr (.inl h)
      · exact .inr (.inr (.inl h))
    · rw [if_neg c1]
      repeat' split
      all_goals first
        | exact no
        | (refine go ?_; unfold wordC; first | omega | (right; right; right; right; right; right; constructor <;> assumption))
theorem word_f (s : ByteArray) (b : Bool) (hs : s.size < 4611686018427387903) (k : Nat) (hk : s.size + 1 ≤ k) : ∃ r, spec_shortWord.f k s b = some r ∧ (r = true → ∀ j, j < s.size → wordC b (bt s (j : Int))) := by
  obtain ⟨r, h1, h2⟩ := word_l0 s b hs s.size k 0 (by omega) (by omega) (by omega)
  exact ⟨r, h1, fun h j hj => h2 h j (Nat.zero_le _) hj⟩
/-- What is known of a text of which something is said. -/
structure PathSaid (s : ByteArray) (p : Bool) : Prop where
  size : 2 ≤ s.size
  yes : p = true → bt s 0 = 46 ∨ bt s 0 = 47 ∨ bt s 0 = 126
  no : p = false → (∀ j, j < s.size → wordC false (bt s (j : Int))) ∧ bt s 0 ≠ 46
  all : ∀ j, j < s.size → wordC true (bt s (j : Int)) ∨ (j = 0 ∧ bt s (j : Int) = 126)
theorem bt_eq (s : ByteArray) (i : Nat) (h : i < s.data.toList.length) : bt s (i : Int) = ((s.data.toList[i]).toNat : Int) := by
  unfold bt
  rw [dif_pos (by simpa using h)]
  rfl
theorem len_data (s : ByteArray) : s.data.toList.length = s.size := by rw [Array.length_toList]; rfl
theorem extract_list (s : ByteArray) (i j : Nat) : (s.extract i j).data.toList = (s.data.toList.drop i).take (j - i) := by
  rw [ByteArray.data_extract, Array.toList_extract, List.extract_eq_take_drop]
theorem head_of {s : ByteArray} {n : Nat} {c : UInt8} {r : List UInt8} (h : (s.extract 0 n).toList = c :: r) : 0 < s.size ∧ bt s 0 = (c.toNat : Int) := by
  rw [ByteArray.toList_eq, extract_list, List.drop_zero] at h
  have h0 : 0 < s.data.toList.length := by
    rcases Nat.eq_zero_or_pos s.data.toList.length with e | e
    · rw [List.eq_nil_of_length_eq_zero e, List.take_nil] at h; cases h
    · exact e
  have h1 : s.data.toList[0] = c := by
    obtain ⟨x, xs, e⟩ : ∃ x xs, s.data.toList = x :: xs := List.exists_cons_of_ne_nil (List.ne_nil_of_length_pos h0)
    rw [e] at h
    cases n with
    | zero => simp at h
    | succ n =>
      have h2 : x = c := by simpa using (List.cons.inj (by simpa using h)).1
      simp [e, h2]
  have := bt_eq s 0 h0
  rw [h1] at this
  exact ⟨by rw [← len_data]; exact h0, this⟩
theorem bt_tail (s : ByteArray) (j : Nat) (h : j + 1 < s.size) : bt (s.extract 1 s.size) (j : Int) = bt s ((j + 1 : Nat) : Int) := by
  have h1 : (s.extract 1 s.size).data.toList = s.data.toList.drop 1 := by
    rw [extract_list, List.take_of_length_le (by rw [List.length_drop, len_data]; omega)]
  rw [bt_eq _ j (by rw [h1, List.length_drop, len_data]; omega), bt_eq s (j + 1) (by rw [len_data]; omega)]
  simp [h1, Nat.add_comm]
theorem size_tail (s : ByteArray) (h : 1 ≤ s.size) : (s.extract 1 s.size).size = s.size - 1 := by
  rw [← len_data, extract_list, List.length_take, List.length_drop, len_data]; omega
theorem word_mono {c : Int} (h : wordC false c) : wordC true c := by
  unfold wordC at *
  rcases h with h | h | h | h | h | h | h
  · exact .inl h
  · exact .inr (.inl h)
  · exact .inr (.inr (.inl h))
  · exact .inr (.inr (.inr (.inl h)))
  · exact .inr (.inr (.inr (.inr (.inl h))))
  · exact .inr (.inr (.inr (.inr (.inr (.inl h)))))
  · cases h.1
theorem j3_f (s : ByteArray) (hs : s.size < 4611686018427387903) (k : Nat) (hk : s.size + 2 ≤ k) (t : Bool) (ht : t = true → PathSaid s true) : ∃ r1 r2, spec_shortPath.j3 k s t = some (r1, r2) ∧ (r2 = true → PathSaid s r1) := by
  obtain ⟨k, rfl⟩ : ∃ k', k = k' + 1 := ⟨k - 1, by omega⟩
  rw [spec_shortPath.j3]
  by_cases h : t = true
  · rw [if_pos h]; exact ⟨_, _, rfl, fun _ => ht h⟩
  · rw [if_neg h]
    by_cases h2 : (s.size : Int) ≥ 2
    · rw [if_pos h2]
      obtain ⟨r, hr, hc⟩ := word_f s false hs k (by omega)
      rw [hr]
      simp only [Option.bind_some]
      by_cases h3 : r = true
      · rw [if_pos h3, if_pos (by omega)]
        repeat' split
        all_goals first
          | exact ⟨_, _, rfl, fun h => absurd h (by decide)⟩
          | (rename_i h46 _ _; exact ⟨_, _, rfl, fun _ => ⟨by omega, (fun h => by cases h), fun _ => ⟨hc h3, h46⟩, fun j hj => .inl (word_mono (hc h3 j hj))⟩⟩)
      · rw [if_neg h3]; exact ⟨_, _, rfl, fun h => by cases h⟩
    · rw [if_neg h2]; exact ⟨_, _, rfl, fun h => by cases h⟩
theorem j2_f (s : ByteArray) (hs : s.size < 4611686018427387903) (k : Nat) (hk : s.size + 3 ≤ k) (t : Bool) (ht : t = true → PathSaid s true) : ∃ r1 r2, spec_shortPath.j2 k s t = some (r1, r2) ∧ (r2 = true → PathSaid s r1) := by
  obtain ⟨k, rfl⟩ : ∃ k', k = k' + 1 := ⟨k - 1, by omega⟩
  rw [spec_shortPath.j2]
  by_cases h : t = true
  · rw [if_pos h]; exact ⟨_, _, rfl, fun _ => ht h⟩
  · rw [if_neg h]
    by_cases h2 : (s.size : Int) ≥ 3
    · rw [if_pos h2, if_pos (by decide), if_pos (by omega)]
      by_cases h3 : (s.extract 0 2).toList = ([126, 47] : List UInt8)
      · rw [if_pos h3, if_pos (by omega)]
        obtain ⟨h4, h5⟩ := head_of h3
        obtain ⟨r, hr, hc⟩ := word_f (s.extract 1 s.size) true (by rw [size_tail s (by omega)]; omega) k (by rw [size_tail s (by omega)]; omega)
        rw [hr]
        simp only [Option.bind_some]
        refine j3_f s hs k (by omega) r (fun h => ⟨by omega, fun _ => .inr (.inr h5), (fun h => by cases h), fun j hj => ?_⟩)
        rcases j with _ | j
        · exact .inr ⟨rfl, h5⟩
        · have := hc h j (by rw [size_tail s (by omega)]; omega)
          rw [bt_tail s j hj] at this
          exact .inl this
      · rw [if_neg h3]; exact j3_f s hs k (by omega) false (fun h => by cases h)
    · rw [if_neg h2]; exact j3_f s hs k (by omega) false (fun h => by cases h)
theorem j1_f (s : ByteArray) (hs : s.size < 4611686018427387903) (k : Nat) (hk : s.size + 4 ≤ k) (t : Bool) (ht : t = true → PathSaid s true) : ∃ r1 r2, spec_shortPath.j1 k s t = some (r1, r2) ∧ (r2 = true → PathSaid s r1) := by
  obtain ⟨k, rfl⟩ : ∃ k', k = k' + 1 := ⟨k - 1, by omega⟩
  rw [spec_shortPath.j1]
  by_cases h : t = true
  · rw [if_pos h]; exact ⟨_, _, rfl, fun _ => ht h⟩
  · rw [if_neg h]
    by_cases h2 : (s.size : Int) ≥ 4
    · rw [if_pos h2, if_pos (by decide), if_pos (by omega)]
      by_cases h3 : (s.extract 0 3).toList = ([46, 46, 47] : List UInt8)
      · rw [if_pos h3]
        obtain ⟨h4, h5⟩ := head_of h3
        obtain ⟨r, hr, hc⟩ := word_f s true hs k (by omega)
        rw [hr]
        simp only [Option.bind_some]
        exact j2_f s hs k (by omega) r (fun h => ⟨by omega, fun _ => .inl h5, (fun h => by cases h), fun j hj => .inl (hc h j hj)⟩)
      · rw [if_neg h3]; exact j2_f s hs k (by omega) false (fun h => by cases h)
    · rw [if_neg h2]; exact j2_f s hs k (by omega) false (fun h => by cases h)
theorem j0_f (s : ByteArray) (hs : s.size < 4611686018427387903) (k : Nat) (hk : s.size + 5 ≤ k) (t : Bool) (ht : t = true → PathSaid s true) : ∃ r1 r2, spec_shortPath.j0 k s t = some (r1, r2) ∧ (r2 = true → PathSaid s r1) := by
  obtain ⟨k, rfl⟩ : ∃ k', k = k' + 1 := ⟨k - 1, by omega⟩
  rw [spec_shortPath.j0]
  by_cases h : t = true
  · rw [if_pos h]; exact ⟨_, _, rfl, fun _ => ht h⟩
  · rw [if_neg h]
    by_cases h2 : (s.size : Int) ≥ 3
    · rw [if_pos h2, if_pos (by decide), if_pos (by omega)]
      by_cases h3 : (s.extract 0 2).toList = ([46, 47] : List UInt8)
      · rw [if_pos h3]
        obtain ⟨h4, h5⟩ := head_of h3
        obtain ⟨r, hr, hc⟩ := word_f s true hs k (by omega)
        rw [hr]
        simp only [Option.bind_some]
        exact j1_f s hs k (by omega) r (fun h => ⟨by omega, fun _ => .inl h5, (fun h => by cases h), fun j hj => .inl (hc h j hj)⟩)
      · rw [if_neg h3]; exact j1_f s hs k (by omega) false (fun h => by cases h)
    · rw [if_neg h2]; exact j1_f s hs k (by omega) false (fun h => by cases h)
theorem path_f (s : ByteArray) (hs : s.size < 4611686018427387903) (k : Nat) (hk : s.size + 5 ≤ k) : ∃ r1 r2, spec_shortPath.f k s = some (r1, r2) ∧ (r2 = true → PathSaid s r1) := by
  unfold spec_shortPath.f
  by_cases h2 : (s.size : Int) ≥ 2
  · rw [if_pos h2, if_pos (by omega)]
    by_cases h3 : bt s 0 = 47
    · rw [if_pos h3]
      obtain ⟨r, hr, hc⟩ := word_f s true hs k (by omega)
      rw [hr]
      simp only [Option.bind_some]
      exact j0_f s hs k hk r (fun h => ⟨by omega, fun _ => .inr (.inl h3), (fun h => by cases h), fun j hj => .inl (hc h j hj)⟩)
    · rw [if_neg h3]; exact j0_f s hs k hk false (fun h => by cases h)
  · rw [if_neg h2]; exact j0_f s hs k hk false (fun h => by cases h)
end Go.Proofs.YtklbghadhneejaaDoor.V
