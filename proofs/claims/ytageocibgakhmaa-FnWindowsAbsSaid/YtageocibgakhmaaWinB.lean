/- Walks for the Windows path law, second part. -/
import Derived.Test.YtageocibgakhmaaWinA
import Derived.Lib.Hide
namespace Go.Proofs.Ytageocibgakhmaa.Win
open Go.RowKit

def upC (n : Int) : Int := if 97 ≤ n ∧ n ≤ 122 then n - 32 else n

theorem upC_ne (n : Int) (h : (n == 63) = false) : (upC 63 != upC n) = true := by
  have h' : n ≠ 63 := by simpa using h
  have e : upC 63 = 63 := rfl
  rw [e]
  unfold upC
  simp only [bne_iff_ne, ne_eq]
  split <;> omega

theorem upper_spec (n : Int) (w : World) (hb : 0 ≤ n) (hb' : n < 256) : Calls Try.prog 89 #[.int .u8 n] w fun e w' => e = .returned (.int .u8 (upC n)) ∧ w = w' := by
  by_cases h1 : 97 ≤ n
  · by_cases h2 : n ≤ 122
    · have X : Hid (upC n = n - 32) := by unfold Hid upC; rw [if_pos ⟨h1, h2⟩]
      go_enter Try.func89, Try.ntmps89
      go_wp2
      go_ret
      exact ⟨by rw [X.out]; rfl, rfl⟩
    · have X : Hid (upC n = n) := by unfold Hid upC; rw [if_neg (by omega)]
      go_enter Try.func89, Try.ntmps89
      go_wp2
      go_ret
      exact ⟨by rw [X.out]; rfl, rfl⟩
  · have X : Hid (upC n = n) := by unfold Hid upC; rw [if_neg (by omega)]
    go_enter Try.func89, Try.ntmps89
    go_wp2
    go_ret
    exact ⟨by rw [X.out]; rfl, rfl⟩

theorem prefix_no (s p : ByteArray) (w : World) (hp2 : 2 ≤ p.size) (hp0 : slashB (at_ p 0) = true) (hp1 : slashB (at_ p 1) = true) (hs0 : 0 < s.size) (hs : slashB (at_ s 0) = true)
    (h1 : s.size = 1 ∨ (1 < s.size ∧ slashB (at_ s 1) = false)) :
    Calls Try.prog 77 #[.string s, .string p] w fun e w' => e = .returned (.bool false) ∧ w = w' := by
  by_cases hlen : s.size < p.size
  · go_enter Try.func77, Try.ntmps77
    go_wp2
    go_ret
    exact ⟨rfl, rfl⟩
  · have h1' : 1 < s.size := by omega
    have hs1 : slashB (at_ s 1) = false := by rcases h1 with h | h; omega; exact h.2
    clear h1
    have e0 := at_eq s 0 hs0
    have e1 := at_eq s 1 h1'
    have p0 := at_eq p 0 (by omega)
    have p1 := at_eq p 1 (by omega)
    go_enter Try.func77, Try.ntmps77
    go_wp2
    refine wp_loop_rounds 2 ?_
    rw [rounds_succ]
    go_wp2_with (first | (go_at_call 64; refine (sep_spec _ _).mono ?_; rintro e w' ⟨rfl, rfl⟩))
    rw [rounds_succ]
    go_wp2_with (first | (go_at_call 64; refine (sep_spec _ _).mono ?_; rintro e w' ⟨rfl, rfl⟩))
    go_ret
    exact ⟨rfl, rfl⟩

theorem prefix_no' (s p : ByteArray) (w : World) (hp2 : 2 ≤ p.size) (hp0 : slashB (at_ p 0) = true) (hp1 : at_ p 1 = 63) (hs0 : 0 < s.size) (hs : slashB (at_ s 0) = true)
    (h1 : s.size = 1 ∨ (1 < s.size ∧ (at_ s 1 == 63) = false)) :
    Calls Try.prog 77 #[.string s, .string p] w fun e w' => e = .returned (.bool false) ∧ ∃ n, w' = w.drewN n := by
  by_cases hlen : s.size < p.size
  · go_enter Try.func77, Try.ntmps77
    go_wp2
    go_ret
    exact ⟨rfl, 0, rfl⟩
  · have h1' : 1 < s.size := by omega
    have hs1 : (at_ s 1 == 63) = false := by rcases h1 with h | h; omega; exact h.2
    clear h1
    have e0 := at_eq s 0 hs0
    have e1 := at_eq s 1 h1'
    have p0 := at_eq p 0 (by omega)
    have p1 := at_eq p 1 (by omega)
    have hsb : 0 ≤ at_ s 1 ∧ at_ s 1 < 256 := by rw [← e1]; have := s[1].toNat_lt; omega
    have ps : slashB 63 = false := rfl
    rw [hp1] at p1
    clear hp1
    go_enter Try.func77, Try.ntmps77
    go_wp2
    refine wp_loop_rounds 2 ?_
    rw [rounds_succ]
    go_wp2_with (first | (go_at_call 64; refine (sep_spec _ _).mono ?_; rintro e w' ⟨rfl, rfl⟩))
    rw [rounds_succ]
    go_wp2_with (first | (go_at_call 64; refine (sep_spec _ _).mono ?_; rintro e w' ⟨rfl, rfl⟩))
    have hu := upC_ne _ hs1
    have s0 : (0 : Int) ≤ 63 := by omega
    have s1 : (63 : Int) < 256 := by omega
    go_quiet (first | (go_at_call 89; with_reducible exact quietS (upper_spec 63 _ s0 s1)) | (go_at_call 89; exact quietS (upper_spec _ _ hsb.1 hsb.2)))
    go_wp2
    go_ret
    exact ⟨rfl, _, rfl⟩

def okpB (p : ByteArray) : Bool := decide (2 ≤ p.size) && slashB (at_ p 0) && (slashB (at_ p 1) || at_ p 1 == 63)

theorem prefix_any (s p : ByteArray) (w : World) (hp : okpB p = true) (hs0 : 0 < s.size) (hs : slashB (at_ s 0) = true) (h1 : s.size = 1 ∨ (1 < s.size ∧ slashB (at_ s 1) = false ∧ (at_ s 1 == 63) = false)) :
    Calls Try.prog 77 #[.string s, .string p] w fun e w' => e = .returned (.bool false) ∧ ∃ n, w' = w.drewN n := by
  unfold okpB at hp
  simp only [Bool.and_eq_true, Bool.or_eq_true, decide_eq_true_eq, beq_iff_eq] at hp
  obtain ⟨⟨h2, h0⟩, h | h⟩ := hp
  · exact (prefix_no s p w h2 h0 h hs0 hs (by rcases h1 with h | h; exact .inl h; exact .inr ⟨h.1, h.2.1⟩)).mono fun _ _ ⟨a, b⟩ => ⟨a, 0, b.symm⟩
  · exact prefix_no' s p w h2 h0 h hs0 hs (by rcases h1 with h | h; exact .inl h; exact .inr ⟨h.1, h.2.2⟩)

/-- no volume name -/
theorem vol_none (s : ByteArray) (w : World) (h : (s.size = 0) ∨ (0 < s.size ∧ slashB (at_ s 0) = false ∧ (s.size = 1 ∨ (at_ s 1 == 58) = false)) ∨
      (0 < s.size ∧ slashB (at_ s 0) = true ∧ (s.size = 1 ∨ (1 < s.size ∧ slashB (at_ s 1) = false ∧ (at_ s 1 == 63) = false ∧ (at_ s 1 == 58) = false)))) :
    Calls Try.prog 63 #[.string s] w fun e w' => e = .returned (.int .i64 0) ∧ ∃ n, w' = w.drewN n := by
  rcases h with h0 | ⟨h0, hs, h1⟩ | ⟨h0, hs, h1⟩
  · have h0' : ((s.size : Int) == 0) = true := by simp [h0]
    have h1' : ¬ 2 ≤ (s.size : Int) := by omega
    clear h0
    go_enter Try.func63, Try.ntmps63
    go_wp2_with (first | (go_at_call 64; refine (sep_spec _ _).mono ?_; rintro e w' ⟨rfl, rfl⟩))
    go_ret
    exact ⟨rfl, 0, rfl⟩
  · have e0 := at_eq s 0 h0
    have h0' : ((s.size : Int) == 0) = false := by rw [beq_eq_false_iff_ne]; omega
    by_cases h2 : 2 ≤ s.size
    · have h2' : 2 ≤ (s.size : Int) := by omega
      have e1 := at_eq s 1 h2
      have h1' : (at_ s 1 == 58) = false := by rcases h1 with h | h; omega; exact h
      clear h1
      go_enter Try.func63, Try.ntmps63
      go_wp2_with (first | (go_at_call 64; refine (sep_spec _ _).mono ?_; rintro e w' ⟨rfl, rfl⟩))
      go_ret
      exact ⟨rfl, 0, rfl⟩
    · have h2' : ¬ 2 ≤ (s.size : Int) := by omega
      clear h1
      go_enter Try.func63, Try.ntmps63
      go_wp2_with (first | (go_at_call 64; refine (sep_spec _ _).mono ?_; rintro e w' ⟨rfl, rfl⟩))
      go_ret
      exact ⟨rfl, 0, rfl⟩
  · have e0 := at_eq s 0 h0
    have h0' : ((s.size : Int) == 0) = false := by rw [beq_eq_false_iff_ne]; omega
    have c1 : s.size = 1 ∨ (1 < s.size ∧ slashB (at_ s 1) = false ∧ (at_ s 1 == 63) = false) := by rcases h1 with h | h; exact .inl h; exact .inr ⟨h.1, h.2.1, h.2.2.1⟩
    have C1 := Lib.hid c1
    clear c1
    by_cases h2 : 2 ≤ s.size
    · have h2' : 2 ≤ (s.size : Int) := by omega
      have e1 := at_eq s 1 h2
      have h1' : (at_ s 1 == 58) = false := by rcases h1 with h | h; omega; exact h.2.2.2
      have h1s : slashB (at_ s 1) = false := by rcases h1 with h | h; omega; exact h.2.1
      clear h1
      go_enter Try.func63, Try.ntmps63
      go_wp2_with (first | (go_at_call 64; refine (sep_spec _ _).mono ?_; rintro e w' ⟨rfl, rfl⟩) | (go_at_call 77; refine (prefix_any _ _ _ (by kernel_rfl) h0 hs C1.out).mono ?_; rintro e w' ⟨rfl, n1, rfl⟩))
      go_ret
      exact ⟨rfl, _, rfl⟩
    · have h2' : ¬ 2 ≤ (s.size : Int) := by omega
      clear h1
      go_enter Try.func63, Try.ntmps63
      go_wp2_with (first | (go_at_call 64; refine (sep_spec _ _).mono ?_; rintro e w' ⟨rfl, rfl⟩) | (go_at_call 77; refine (prefix_any _ _ _ (by kernel_rfl) h0 hs C1.out).mono ?_; rintro e w' ⟨rfl, n1, rfl⟩))
      go_ret
      exact ⟨rfl, _, rfl⟩

theorem vol_two (s : ByteArray) (w : World) (h2 : 1 < s.size) (hc : (at_ s 1 == 58) = true) : Calls Try.prog 63 #[.string s] w fun e w' => e = .returned (.int .i64 2) ∧ w = w' := by
  have h2' : 2 ≤ (s.size : Int) := by omega
  have e1 := at_eq s 1 h2
  go_enter Try.func63, Try.ntmps63
  go_wp2
  go_ret
  exact ⟨rfl, rfl⟩

theorem abs_spec (s : ByteArray) (w : World) (a : Bool) (hK : Known s a) : Calls Try.prog 39 #[.string s] w fun e w' => e = .returned (.bool a) ∧ ∃ n, w' = w.drewN n := by
  have V : a = true ∨ True := .inr trivial
  clear V
  rcases hK with ⟨h0, rfl⟩ | ⟨h0, hs, h1, rfl⟩ | ⟨h1, hs, hc, rfl⟩ | ⟨h0, hs, h1, rfl⟩
  · have C := Lib.hid h0
    clear h0
    go_enter Try.func39, Try.ntmps39
    go_wp2_with (first | (go_at_call 63; refine (vol_none _ _ (.inl C.out)).mono ?_; rintro e w' ⟨rfl, n1, rfl⟩))
    go_ret
    exact ⟨rfl, _, rfl⟩
  · have C := Lib.hid h1
    clear h1
    go_enter Try.func39, Try.ntmps39
    go_wp2_with (first | (go_at_call 63; refine (vol_none _ _ (.inr (.inr ⟨h0, hs, C.out⟩))).mono ?_; rintro e w' ⟨rfl, n1, rfl⟩))
    go_ret
    exact ⟨rfl, _, rfl⟩
  · have e0 := at_eq s 0 (by omega)
    have h0 : 0 < s.size := by omega
    by_cases h2 : 2 < s.size
    · have e2 := at_eq s 2 h2
      have hz : (s.extract 2 s.size).size = s.size - 2 := by rw [ByteArray.size_extract]; omega
      have hE : (s.extract 2 s.size).toList.isEmpty = false := by rw [isEmpty_of_size, decide_eq_false]; omega
      have hx : ∀ h : 0 < (s.extract 2 s.size).size, ((s.extract 2 s.size)[0]'h).toNat = s[2].toNat := fun h => by rw [ByteArray.getElem_extract]
      clear hz
      go_enter Try.func39, Try.ntmps39
      go_wp2_with (first | (go_at_call 63; refine (vol_two _ _ h1 hc).mono ?_; rintro e w' ⟨rfl, rfl⟩) | (go_at_call 64; refine (sep_spec _ _).mono ?_; rintro e w' ⟨rfl, rfl⟩))
      go_ret
      refine ⟨?_, 0, rfl⟩
      show Ending.returned (.bool (slashB _)) = _
      simp [h2]
    · have hE : (s.extract 2 s.size).toList.isEmpty = true := by rw [isEmpty_of_size, decide_eq_true]; rw [ByteArray.size_extract]; omega
      go_enter Try.func39, Try.ntmps39
      go_wp2_with (first | (go_at_call 63; refine (vol_two _ _ h1 hc).mono ?_; rintro e w' ⟨rfl, rfl⟩) | (go_at_call 64; refine (sep_spec _ _).mono ?_; rintro e w' ⟨rfl, rfl⟩))
      go_ret
      exact ⟨by simp [h2], 0, rfl⟩
  · have C := Lib.hid h1
    clear h1
    go_enter Try.func39, Try.ntmps39
    go_wp2_with (first | (go_at_call 63; refine (vol_none _ _ (.inr (.inl ⟨h0, hs, C.out⟩))).mono ?_; rintro e w' ⟨rfl, n1, rfl⟩))
    go_ret
    exact ⟨rfl, _, rfl⟩

theorem impl_spec (s : ByteArray) (w : World) (a : Bool) (hK : Known s a) : Calls Try.prog 12 #[.string s] w fun e w' => e = .returned (.bool a) ∧ ∃ n, w' = w.drewN n := by
  go_enter Try.func12, Try.ntmps12
  go_wp2_with (first | (go_at_call 39; refine (abs_spec _ _ _ hK).mono ?_; rintro e w' ⟨rfl, n1, rfl⟩))
  go_ret
  exact ⟨rfl, _, rfl⟩

theorem known_yes : Known ⟨#[99, 58, 92, 120]⟩ true :=
  .inr (.inr (.inl ⟨of_decide_eq_true (by kernel_rfl), by kernel_rfl, by kernel_rfl, by kernel_rfl⟩))
theorem known_no : Known ⟨#[120]⟩ false :=
  .inr (.inr (.inr ⟨of_decide_eq_true (by kernel_rfl), by kernel_rfl, .inl (by kernel_rfl), rfl⟩))

theorem awake (w : World) : Calls Try.prog 13 #[] w fun e w' => e = .returned (.bool true) ∧ ∃ n, w' = w.drewN n := by
  go_enter Try.func13, Try.ntmps13
  go_wp2_with (first | (go_at_call 12; with_reducible refine (impl_spec _ _ _ known_yes).mono ?_; rintro e w' ⟨rfl, n1, rfl⟩) | (go_at_call 12; with_reducible refine (impl_spec _ _ _ known_no).mono ?_; rintro e w' ⟨rfl, n2, rfl⟩))
  go_ret
  exact ⟨rfl, _, rfl⟩

theorem law_walk (a0 : ByteArray) (w0 : a0.size ≤ 2147483647 ∨ 2147483647 < a0.size) (w : World) :
    Calls Try.prog 3 #[.string a0] w fun e w' => e = .returned (.bool true) ∧ ∃ n, w' = w.drewN n := by
  rcases w0 with h | h
  · have h' : ¬ 2147483647 < (a0.size : Int) := by omega
    clear h
    go_enter Try.func3, Try.ntmps3
    go_wp2_with (first | (go_at_call 11; refine (want_spec _ _).mono ?_; rintro e w' ⟨⟨a, b, rfl, hK⟩, n1, rfl⟩; have hk := Lib.hid hK; clear hK; rcases b with _ | _) | (go_at_call 12; refine (impl_spec _ _ _ (hk.out trivial)).mono ?_; rintro e w' ⟨rfl, n1, rfl⟩) | (go_at_call 13; refine (awake _).mono ?_; rintro e w' ⟨rfl, n1, rfl⟩))
    all_goals
      go_ret
      exact ⟨rfl, _, rfl⟩
  · have h' : 2147483647 < (a0.size : Int) := by omega
    go_enter Try.func3, Try.ntmps3
    go_wp2
    go_ret
    exact ⟨rfl, 0, rfl⟩
end Go.Proofs.Ytageocibgakhmaa.Win
