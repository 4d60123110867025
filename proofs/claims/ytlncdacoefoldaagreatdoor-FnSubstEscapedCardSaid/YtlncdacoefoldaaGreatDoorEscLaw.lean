/- The walk of laws.FnSubstEscaped. -/
import Derived.Test.YtlncdacoefoldaaGreatDoorSubJ
import Derived.Test.YtlncdacoefoldaaGreatDoorSubH
namespace Go.Proofs.YtlncdacoefoldaaGreatDoor.U
set_option linter.unusedVariables false
set_option linter.unusedSimpArgs false
set_option linter.unusedSectionVars false
open Go.RowKit Go.Proofs.YtlncdacoefoldaaGreatDoorW.PrintWords Go.Proofs.YtlncdacoefoldaaGreatDoorW.PrintLast Go.Proofs.YtlncdacoefoldaaGreatDoor.PX Go.Proofs.YtlncdacoefoldaaGreatDoor.L Go.Proofs.YtlncdacoefoldaaGreatDoor.M

theorem fitP_len (l : List SP) : (fitP l).length ≤ l.length := Ord.fit_length l
theorem dbl_len : ∀ l : Bs, (dbl l).length ≤ 2 * l.length
  | [] => Nat.le_refl _
  | c :: r => by
    have := dbl_len r
    unfold dbl
    split <;> simp <;> omega
set_option maxHeartbeats 4000000 in
set_option maxRecDepth 100000 in
theorem law_FnSubstEscaped (a : ByteArray) (A1 : Option Addr) (c1 : Nat) (l1 : List SP) (w : World) (hr1 : Kd.C k59 w A1 l1.length l1) (hc1 : l1.length ≤ c1) :
    Calls Tryz.prog 5 #[.string a, .slice A1 l1.length c1] w fun e w' => e = .returned (.bool true) ∧ Below w.heap.size w w' := by
  have HR1 := Aside0.mk hr1
  have HC1 := Aside0.mk hc1
  clear hr1 hc1
  obtain ⟨r1, hf1, hs1⟩ := fits3 l1
  have HF1 := Lib.hid hf1
  have HS1 := Lib.hid hs1
  clear hf1 hs1
  by_cases ha : (2147483647 : Int) < (a.size : Int)
  · go_enter Tryz.func5, Tryz.ntmps5
    go_wp2
    go_ret
    exact ⟨rfl, Below.refl _ _⟩
  · cases r1 with
    | false =>
      go_enter Tryz.func5, Tryz.ntmps5
      go_wp2_with (go_at_call 11; refine (laws_zzFits3.calls _ A1 c1 l1 false _ HR1.out HC1.out HF1.out).mono ?_; rintro e w1 ⟨rfl, hb1⟩; have HB1 := Aside0.mk hb1; clear hb1)
      go_ret
      exact ⟨rfl, HB1.out⟩
    | true =>
      have hL1 := HS1.out rfl
      have hal : a.size ≤ 2147483647 := by omega
      have haD : a.data.toList.length = a.size := by rw [Array.length_toList]; rfl
      have HD := Lib.hid (double_l a (by omega))
      obtain ⟨b, hb⟩ : ∃ b, b = fitP l1 := ⟨_, rfl⟩
      have hbL : b.length ≤ 2147483647 := by rw [hb]; exact Nat.le_trans (fitP_len _) hL1
      have HBE := Lib.hid hb
      clear hb
      have HTO := Lib.hid (to_f b (by omega))
      have hmL : (b.map sI).length ≤ 2147483647 := by rw [List.length_map]; exact hbL
      obtain ⟨bi, hbi⟩ : ∃ bi, bi = b.map sI := ⟨_, rfl⟩
      rw [← hbi] at HTO hmL
      have HSU := Lib.hid (fun A0 c0 (W : World) hr0 hc0 => impl_subst A0 c0 bi (dbl a.data.toList) a.data.toList 1 W hr0 hc0 (by omega) (by have := dbl_len a.data.toList; omega) (sub_dbl (envP bi) 0 a.data.toList (by unfold LIM; omega)))
      rw [mk_of] at HSU
      clear hbi haD
      go_enter Tryz.func5, Tryz.ntmps5
      go_wp2_with (first
        | (go_at_call 11; refine (laws_zzFits3.calls _ A1 c1 l1 true _ HR1.out HC1.out HF1.out).mono ?_; rintro e w1 ⟨rfl, hb1⟩; have HB1 := Aside0.mk hb1; clear hb1)
        | (go_at_call 19; refine (spec_SubstDouble.calls _ a _ _ HD.out).mono ?_; rintro e w2 ⟨rfl, hb2⟩; have HB2 := Aside0.mk (below_then HB1.out HB1.out.size hb2); clear hb2)
        | (go_at_call 12; refine (spec_FitPairs A1 c1 l1 _ (Kd.C_below HR1.out HB2.out) HC1.out (by omega)).mono ?_; rw [← HBE.out]; rintro e w3 ⟨v, rfl, ho, hb3⟩; obtain ⟨A3, c3, rfl, hc3, hC3⟩ := Kd.R_reads ho; have HCC3 := Aside0.mk hC3; have HLL3 := Aside0.mk hc3; have HB3 := Aside0.mk (below_then HB2.out HB2.out.size hb3); clear ho hb3 hC3 hc3)
        | (go_at_call 23; refine (laws_pairsTo.calls _ A3 c3 b bi _ HCC3.out HLL3.out HTO.out).mono ?_; rintro e w4 ⟨v, rfl, ho, hb4⟩; obtain ⟨A4, c4, rfl, hc4, hC4⟩ := Kd.R_reads ho; have HCC4 := Aside0.mk hC4; have HLL4 := Aside0.mk hc4; have HB4 := Aside0.mk (below_then HB3.out HB3.out.size hb4); clear ho hb4 hC4 hc4)
        | (go_at_call 18; refine (HSU.out A4 c4 _ HCC4.out HLL4.out).mono ?_; rintro e w5 ⟨rfl, hb5⟩; have HB5 := Aside0.mk (below_then HB4.out HB4.out.size hb5); clear hb5)
        | (go_at_call 16; refine (laws_lives _).mono ?_; rintro e w6 ⟨rfl, hb6⟩; have HB6 := Aside0.mk (below_then HB5.out HB5.out.size hb6); clear hb6))
      go_ret
      exact ⟨rfl, HB6.out⟩
end Go.Proofs.YtlncdacoefoldaaGreatDoor.U
