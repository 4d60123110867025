/- The walks of format.isFilePath and what it calls, at texts of which something is said. -/
import Derived.Test.YtklbghadhneejaaDoorShortP
namespace Go.Proofs.YtklbghadhneejaaDoor.V
set_option linter.unusedVariables false
set_option linter.unusedSimpArgs false
set_option linter.unusedSectionVars false
open Go.RowKit Go.Proofs.YtklbghadhneejaaDoorW.PrintWords Go.Proofs.YtklbghadhneejaaDoorW.PrintLast Go.Proofs.YtklbghadhneejaaDoor.PX

set_option maxHeartbeats 2000000 in
theorem lite_HasPrefix_no (s p : ByteArray) (w : World) (h : p.size ≤ s.size → s.extract 0 p.size ≠ p) :
    Calls Tryd.prog 35 #[.string s, .string p] w fun e w' => e = .returned (.bool false) ∧ w' = w := by
  by_cases hs : p.size ≤ s.size
  · have hne := h hs
    have hdec2 : ((s.extract 0 p.size).toList == p.toList) = false := by
      cases e : ((s.extract 0 p.size).toList == p.toList)
      · rfl
      · exact absurd (Ord_toList_inj (by simpa using e)) hne
    go_enter Tryd.func35, Tryd.ntmps35
    go_wp2
    go_ret
    exact ⟨rfl, rfl⟩
  · go_enter Tryd.func35, Tryd.ntmps35
    go_wp2
    go_ret
    exact ⟨rfl, rfl⟩
set_option maxHeartbeats 2000000 in
theorem strings_HasPrefix_no (s p : ByteArray) (w : World) (h : p.size ≤ s.size → s.extract 0 p.size ≠ p) :
    Calls Tryd.prog 29 #[.string s, .string p] w fun e w' => e = .returned (.bool false) ∧ w' = w := by
  have H := Lib.hid h
  clear h
  go_enter Tryd.func29, Tryd.ntmps29
  go_wp2_with (go_at_call 35; refine (lite_HasPrefix_no s p _ H.out).mono ?_; rintro e w1 ⟨rfl, rfl⟩)
  go_ret
  exact ⟨rfl, rfl⟩
theorem bt_get! (s : ByteArray) (i : Nat) (h : i < s.size) : bt s (i : Int) = ((s[i]'h).toNat : Int) := by
  unfold bt
  rw [dif_pos (by simpa using h)]
  rfl
set_option maxHeartbeats 2000000 in
theorem utf8_Decode_ascii (s : ByteArray) (w : World) (h0 : 0 < s.size) (h : bt s 0 < 128) :
    Calls Tryd.prog 30 #[.string s] w fun e w' => e = .returned (.tuple #[.int .i32 (bt s 0), .int .i64 1]) ∧ w' = w := by
  have hb := bt_get! s 0 h0
  have hlt : ((s[0]'h0).toNat : Int) < 128 := by rw [← hb]; exact h
  have hne : ¬ s.toList = [] := fun e => by
    have h1 : s.data.toList = [] := by rw [← ByteArray.toList_eq]; exact e
    have := len_data s
    rw [h1] at this
    simp at this
    omega
  have hne2 : s.toList.isEmpty = false := by cases e : s.toList.isEmpty; (· rfl); (· exact absurd (List.isEmpty_iff.1 e) hne)
  clear hne
  rw [show bt s 0 = ((s[0]'h0).toNat : Int) from hb]
  clear hb h
  go_enter Tryd.func30, Tryd.ntmps30
  go_wp2
  go_ret2
  exact ⟨rfl, rfl⟩
set_option maxHeartbeats 2000000 in
/-- No drive: another sign than ':', or another number of runes than one. -/
theorem format_isWindowsDrive_no (A : Option Addr) (n c : Nat) (ch : Int) (w : World) (h : ch ≠ 58 ∨ n ≠ 1) :
    Calls Tryd.prog 21 #[.slice A n c, .int .i32 ch] w fun e w' => e = .returned (.bool false) ∧ w' = w := by
  by_cases h58 : ch = 58
  · subst h58
    have hn : ¬ (n : Int) = 1 := by omega
    go_enter Tryd.func21, Tryd.ntmps21
    go_wp2
    go_ret
    exact ⟨rfl, rfl⟩
  · go_enter Tryd.func21, Tryd.ntmps21
    go_wp2
    go_ret
    exact ⟨rfl, rfl⟩
theorem wordC_lt {b : Bool} {c : Int} (h : wordC b c) : 0 < c ∧ c < 128 ∧ c ≠ 58 ∧ c ≠ 92 ∧ c ≠ 126 ∧ c ≠ 36 ∧ c ≠ 125 ∧ c ≠ 44 ∧ (b = false → c ≠ 47) := by
  unfold wordC at h
  refine ⟨?_, ?_, ?_, ?_, ?_, ?_, ?_, ?_, ?_⟩
  all_goals (try intro hb); (try subst hb); (rcases h with h | h | h | h | h | h | h) <;> first | omega | (cases h.1)
set_option maxHeartbeats 4000000 in
theorem format_isFilePath (s : ByteArray) (p : Bool) (w : World) (h : PathSaid s p) (hs : s.size ≤ 4294967296) :
    Calls Tryd.prog 24 #[.string s] w fun e w' => e = .returned (.bool p) ∧ Below w.heap.size w w' := by
  have h2 := h.size
  have h0 : 0 < s.size := by omega
  have h1 : 1 < s.size := by omega
  have hne : ¬ s.toList = [] := fun e => by
    have h1 : s.data.toList = [] := by rw [← ByteArray.toList_eq]; exact e
    have := len_data s
    rw [h1] at this
    simp at this
    omega
  have hne2 : s.toList.isEmpty = false := by cases e : s.toList.isEmpty; (· rfl); (· exact absurd (List.isEmpty_iff.1 e) hne)
  have hb := bt_get! s 0 h0
  have hb1 := bt_get! s 1 h1
  cases p with
  | true =>
    have hy := h.yes rfl
    rw [show bt s 0 = ((s[0]'h0).toNat : Int) from hb] at hy
    clear hb hb1 h
    rcases hy with hy | hy | hy
    · go_enter Tryd.func24, Tryd.ntmps24
      go_wp2
      go_ret
      exact ⟨rfl, Below.refl _ _⟩
    · go_enter Tryd.func24, Tryd.ntmps24
      go_wp2
      go_ret
      exact ⟨rfl, Below.refl _ _⟩
    · go_enter Tryd.func24, Tryd.ntmps24
      go_wp2
      go_ret
      exact ⟨rfl, Below.refl _ _⟩
  | false =>
    obtain ⟨hw, h46⟩ := h.no rfl
    have w0 := wordC_lt (hw 0 h0)
    have w1 := wordC_lt (hw 1 h1)
    have HD := Lib.hid (utf8_Decode_ascii s w h0 w0.2.1)
    have HP := Lib.hid (strings_HasPrefix_no s ⟨#[92, 92]⟩ w (fun hz e => by
      have h3 : (s.extract 0 2).toList = [92, 92] := by rw [show s.extract 0 2 = ⟨#[92, 92]⟩ from e, ByteArray.toList_eq]
      have := (head_of h3).2
      have h5 := w0.2.2.2.1
      exact h5 this))
    have q0 : ¬ ((s[0]'h0).toNat : Int) = 46 := by rw [← hb]; exact h46
    have q1 : ¬ ((s[0]'h0).toNat : Int) = 47 := by rw [← hb]; exact w0.2.2.2.2.2.2.2.2 rfl
    have q2 : ¬ ((s[0]'h0).toNat : Int) = 126 := by rw [← hb]; exact w0.2.2.2.2.1
    have q3 : wrap32 ((s[1]'h1).toNat : Int) ≠ 58 := by
      have hc : ((s[1]'h1).toNat : Int) ≠ 58 := by rw [← hb1]; exact w1.2.2.1
      have h2 : (s[1]'h1).toNat < 256 := (s[1]'h1).toNat_lt
      have h3 : wrap32 ((s[1]'h1).toNat : Int) = ((s[1]'h1).toNat : Int) := by unfold wrap32; omega
      rw [h3]; exact hc
    have HQ3 := Lib.hid q3
    clear q3
    have hle : ¬ (s.size : Int) ≤ 1 := by omega
    clear hw h46 w0 w1 h hb hb1 hne
    go_enter Tryd.func24, Tryd.ntmps24
    go_wp2_with (first
      | (go_at_call 29; refine HP.out.mono ?_; rintro e w1 ⟨rfl, rfl⟩)
      | (go_at_call 30; refine HD.out.mono ?_; rintro e w1 ⟨rfl, rfl⟩)
      | (go_at_call 21; refine (format_isWindowsDrive_no _ 1 1 (wrap32 ((s[1]'h1).toNat : Int)) _ (.inl HQ3.out)).mono ?_; rintro e w1 ⟨rfl, rfl⟩))
    go_ret
    exact ⟨rfl, by repeat (first | exact Below.refl _ _ | apply below_alloc)⟩
end Go.Proofs.YtklbghadhneejaaDoor.V
