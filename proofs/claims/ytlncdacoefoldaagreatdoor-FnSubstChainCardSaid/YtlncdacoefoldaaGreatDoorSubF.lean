/- Walks: the first match of a text, and its groups by their names. -/
import Derived.Test.YtlncdacoefoldaaGreatDoorSubB
import Derived.Test.YtlncdacoefoldaaGreatDoorSubP
namespace Go.Proofs.YtlncdacoefoldaaGreatDoor.U
set_option linter.unusedVariables false
set_option linter.unusedSimpArgs false
set_option linter.unusedSectionVars false
open Go.RowKit Go.Proofs.YtlncdacoefoldaaGreatDoorW.PrintWords Go.Proofs.YtlncdacoefoldaaGreatDoorW.PrintLast Go.Proofs.YtlncdacoefoldaaGreatDoor.PX Go.Proofs.YtlncdacoefoldaaGreatDoor.SM Go.Proofs.YtlncdacoefoldaaGreatDoor.L

theorem find_at (s : ByteArray) (i : Nat) : (∀ m, atM (D s i) = some m → find (D s i) = some m) ∧ (atM (D s i) = none → find (D s i) = find (D s (i + 1))) := by
  have e1 : D s (i + 1) = (D s i).drop 1 := D_add s i 1
  cases h : D s i with
  | nil => rw [e1, h]; exact ⟨fun m hm => by simp [atM] at hm, fun _ => rfl⟩
  | cons c r =>
    rw [e1, h]
    refine ⟨fun m hm => by rw [find, hm], fun hn => ?_⟩
    rw [find, hn]
    rfl
set_option maxHeartbeats 1000000 in
theorem find_calls (s : ByteArray) (m : M) (w : World) (hs : s.size < 2305843009213693952) (hm : find s.data.toList = some m) :
    Calls Tryz.prog 119 #[.agg #[], .string s] w fun e w' => ∃ A c, e = .returned (.slice A 6 c) ∧ Kd.C Kd.string w' A 6 (groups m) ∧ Below w.heap.size w w' := by
  have HM := Lib.hid hm
  clear hm
  go_enter Tryz.func119, Tryz.ntmps119
  go_wp2
  go_loopw [5] (fun v5 wr => ∃ i : Nat, i ≤ s.size ∧ v5 = .int .i64 i ∧ Hid (find (D s i) = some m) ∧ Aside0 (Below w.heap.size w wr)) (fun v5 _ => s.size - (intOf v5).toNat)
  case atStart => exact ⟨0, Nat.zero_le _, rfl, HM.out, ⟨(Below.refl _ _).alloc (Nat.le_refl _) _⟩⟩
  case round =>
    obtain ⟨i, hi, rfl, HF, HB⟩ := hrel
    by_cases hlt : i < s.size
    · have HA := Lib.hid (at_l s i (2 * s.size + 20) (by omega) hi (Nat.le_refl _))
      cases hat : atM (D s i) with
      | none =>
        have HN := Lib.hid (((find_at s i).2 hat).symm.trans HF.out)
        rw [hat] at HA
        clear hat
        go_wp2_with (go_at_call 113; refine (template_zzAt.calls _ s (i : Int) [] 0 false _ HA.out).mono ?_; rintro e w1 ⟨v0, rfl, ho, hb⟩; have HB1 := Aside0.mk (below_then HB.out HB.out.size hb); clear ho hb)
        go_roundw
        case rel => exact ⟨i + 1, by omega, by go_num, HN, HB1⟩
        case measure => simp [intOf]; omega
      | some m1 =>
        have hm1 : m1 = m := by
          have := (find_at s i).1 m1 hat
          rw [HF.out] at this
          injection this with this
          exact this.symm
        subst hm1
        rw [hat] at HA
        clear hat
        go_wp2_with (go_at_call 113; refine (template_zzAt.calls _ s (i : Int) (groups m1) ((i + m1.all.length : Nat) : Int) true _ HA.out).mono ?_; rintro e w1 ⟨v0, rfl, ho, hb⟩; obtain ⟨A1, c1, rfl, hl1, hC1⟩ := Kd.R_reads ho; have HC1 := Aside0.mk hC1; have HB1 := Aside0.mk (below_then HB.out HB.out.size hb); clear ho hb hC1)
        go_ret
        exact ⟨_, _, rfl, HC1.out, HB1.out⟩
    · have : D s i = [] := by
        have := D_len s i
        exact List.eq_nil_of_length_eq_zero (by omega)
      have h0 := HF.out
      rw [this] at h0
      cases h0
end Go.Proofs.YtlncdacoefoldaaGreatDoor.U
