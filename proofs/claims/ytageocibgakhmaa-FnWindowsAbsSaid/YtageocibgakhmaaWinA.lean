/- Walks for the Windows path law: callees. -/
import Derived.Test.YtageocibgakhmaaRows
import Derived.WalkKit
import Derived.BigQuiet
import Derived.Deep.QuietTactic
import Derived.ProofKit
import Derived.OpenShut
import Derived.ShutString
namespace Go.Proofs.Ytageocibgakhmaa.Win
open Go.RowKit

def slashB (n : Int) : Bool := n == 47 || n == 92

theorem slash_spec (n : Int) (w : World) : Calls Try.prog 38 #[.int .u8 n] w fun e w' => e = .returned (.bool (slashB n)) ∧ w = w' := by
  go_enter Try.func38, Try.ntmps38
  go_wp2
  all_goals
    go_ret
    exact ⟨by simp [slashB, *], rfl⟩

theorem sep_spec (n : Int) (w : World) : Calls Try.prog 64 #[.int .u8 n] w fun e w' => e = .returned (.bool (slashB n)) ∧ w = w' := by
  go_enter Try.func64, Try.ntmps64
  go_wp2
  all_goals
    go_ret
    exact ⟨by simp [slashB, *, Bool.or_comm], rfl⟩

theorem quietS {P : Program} {f : FuncId} {args : Array Value} {w : World} {n : Nat} {v : Value}
    (h : Calls P f args (w.drewN n) fun e w' => e = .returned v ∧ w.drewN n = w') : Calls P f args (w.drewN n) fun e w'' => e = .returned v ∧ ∃ m, w'' = w.drewN m :=
  h.mono fun _ _ ⟨he, hm⟩ => ⟨he, n, hm.symm⟩

/-- the byte at a place, as a number; -1 behind the end -/
def at_ (s : ByteArray) (k : Nat) : Int := if h : k < s.size then (s[k].toNat : Int) else -1
theorem at_eq (s : ByteArray) (k : Nat) (h : k < s.size) : (s[k].toNat : Int) = at_ s k := by simp [at_, h]

/-- the four ways in which the reference says something -/
def Known (s : ByteArray) (a : Bool) : Prop :=
  (s.size = 0 ∧ a = false) ∨
  (0 < s.size ∧ slashB (at_ s 0) = true ∧ (s.size = 1 ∨ (1 < s.size ∧ slashB (at_ s 1) = false ∧ (at_ s 1 == 63) = false ∧ (at_ s 1 == 58) = false)) ∧ a = false) ∨
  (1 < s.size ∧ slashB (at_ s 0) = false ∧ (at_ s 1 == 58) = true ∧ a = (decide (2 < s.size) && slashB (at_ s 2))) ∨
  (0 < s.size ∧ slashB (at_ s 0) = false ∧ (s.size = 1 ∨ (at_ s 1 == 58) = false) ∧ a = false)

def SomeW (s : ByteArray) (e : Ending) : Prop := ∃ a b, e = .returned (.tuple #[.bool a, .bool b]) ∧ (b = true → Known s a)

theorem isEmpty_of_size (s : ByteArray) : s.toList.isEmpty = decide (s.size = 0) := by
  rw [← Go.decide_eq_emptyBytes]
  by_cases h : s.size = 0
  · rw [decide_eq_true h, decide_eq_true]
    apply ByteArray.ext
    have h' : s.data.size = 0 := h
    exact Array.eq_empty_of_size_eq_zero h'
  · rw [decide_eq_false h, decide_eq_false]
    rintro rfl
    exact h rfl

theorem want_spec (s : ByteArray) (w : World) : Calls Try.prog 11 #[.string s] w fun e w' => SomeW s e ∧ ∃ n, w' = w.drewN n := by
  by_cases h0 : s.size = 0
  · have hE : s.toList.isEmpty = true := by rw [isEmpty_of_size, h0]; rfl
    go_enter Try.func11, Try.ntmps11
    go_wp2
    go_ret2
    exact ⟨⟨_, _, rfl, fun _ => .inl ⟨h0, rfl⟩⟩, 0, rfl⟩
  have h0' : 0 < s.size := by omega
  have hE : s.toList.isEmpty = false := by rw [isEmpty_of_size]; simp [h0]
  have e0 := at_eq s 0 h0'
  clear h0
  by_cases hs : slashB (at_ s 0) = true
  · by_cases h1 : s.size = 1
    · have h1d : ((s.size : Int) == 1) = true := by simp [h1]
      have X : Hid (s.size = 1) := h1
      clear h1
      go_enter Try.func11, Try.ntmps11
      go_wp2_with (go_at_call 38; refine (slash_spec _ _).mono ?_; rintro e w' ⟨rfl, rfl⟩)
      go_quiet ((go_at_call 38; exact quietS (slash_spec _ _)))
      go_wp2
      go_ret2
      exact ⟨⟨_, _, rfl, fun _ => .inr (.inl ⟨h0', hs, .inl X.out, rfl⟩)⟩, _, rfl⟩
    · have h1d : ((s.size : Int) == 1) = false := by simp; omega
      have h1' : 1 < s.size := by omega
      have h1i : 1 < (s.size : Int) := by omega
      have e1 := at_eq s 1 h1'
      clear h1
      by_cases hs1 : slashB (at_ s 1) = true
      · go_enter Try.func11, Try.ntmps11
        go_wp2_with (go_at_call 38; refine (slash_spec _ _).mono ?_; rintro e w' ⟨rfl, rfl⟩)
        go_quiet ((go_at_call 38; exact quietS (slash_spec _ _)))
        go_wp2
        go_ret2
        exact ⟨⟨_, _, rfl, fun h => by cases h⟩, _, rfl⟩
      · have hs1f : slashB (at_ s 1) = false := by simpa using hs1
        clear hs1
        by_cases hq : at_ s 1 = 63
        · have hqb : (at_ s 1 == 63) = true := by simp [hq]
          have hqn : (at_ s 1 != 63) = false := by simp [hq]
          clear hq
          go_enter Try.func11, Try.ntmps11
          go_wp2_with (go_at_call 38; refine (slash_spec _ _).mono ?_; rintro e w' ⟨rfl, rfl⟩)
          go_quiet ((go_at_call 38; exact quietS (slash_spec _ _)))
          go_wp2
          go_ret2
          exact ⟨⟨_, _, rfl, fun h => by cases h⟩, _, rfl⟩
        · have hqb : (at_ s 1 == 63) = false := by simp [hq]
          have hqn : (at_ s 1 != 63) = true := by simp [hq]
          clear hq
          go_enter Try.func11, Try.ntmps11
          go_wp2_with (go_at_call 38; refine (slash_spec _ _).mono ?_; rintro e w' ⟨rfl, rfl⟩)
          go_quiet ((go_at_call 38; exact quietS (slash_spec _ _)))
          go_wp2
          go_ret2
          exact ⟨⟨_, _, rfl, fun h => .inr (.inl ⟨h0', hs, .inr ⟨h1', hs1f, hqb, by simpa using h⟩, rfl⟩)⟩, _, rfl⟩
  · have hsf : slashB (at_ s 0) = false := by simpa using hs
    clear hs
    by_cases h1 : 1 < s.size
    · have h1i : 1 < (s.size : Int) := by omega
      have e1 := at_eq s 1 h1
      by_cases hc : at_ s 1 = 58
      · have hcb : (at_ s 1 == 58) = true := by simp [hc]
        clear hc
        by_cases h2 : 2 < s.size
        · have e2 := at_eq s 2 h2
          go_enter Try.func11, Try.ntmps11
          go_wp2_with (go_at_call 38; refine (slash_spec _ _).mono ?_; rintro e w' ⟨rfl, rfl⟩)
          all_goals
            go_ret2
            exact ⟨⟨_, _, rfl, fun h => .inr (.inr (.inl ⟨h1, hsf, hcb, by first | (simp [h2]; done) | (exfalso; simp at h; done) | (exfalso; simp at h; omega)⟩))⟩, 0, rfl⟩
        · have h2' : ¬ 2 < (s.size : Int) := by omega
          go_enter Try.func11, Try.ntmps11
          go_wp2_with (go_at_call 38; refine (slash_spec _ _).mono ?_; rintro e w' ⟨rfl, rfl⟩)
          all_goals
            go_ret2
            exact ⟨⟨_, _, rfl, fun h => .inr (.inr (.inl ⟨h1, hsf, hcb, by simp [h2]⟩))⟩, 0, rfl⟩
      · have hcb : (at_ s 1 == 58) = false := by simp [hc]
        clear hc
        go_enter Try.func11, Try.ntmps11
        go_wp2_with (go_at_call 38; refine (slash_spec _ _).mono ?_; rintro e w' ⟨rfl, rfl⟩)
        go_ret2
        exact ⟨⟨_, _, rfl, fun h => .inr (.inr (.inr ⟨h0', hsf, .inr hcb, rfl⟩))⟩, 0, rfl⟩
    · have h1i : ¬ 1 < (s.size : Int) := by omega
      go_enter Try.func11, Try.ntmps11
      go_wp2_with (go_at_call 38; refine (slash_spec _ _).mono ?_; rintro e w' ⟨rfl, rfl⟩)
      go_ret2
      exact ⟨⟨_, _, rfl, fun h => .inr (.inr (.inr ⟨h0', hsf, .inl (by omega), rfl⟩))⟩, 0, rfl⟩

end Go.Proofs.Ytageocibgakhmaa.Win
