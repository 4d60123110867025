/- The law on the transform of secrets. -/
import Derived.Test.YtadcdjiahekkgaaPartIs
namespace Go.Proofs.Ytadcdjiahekkgaa.A
set_option linter.unusedVariables false
set_option linter.unusedSimpArgs false
set_option linter.unusedSectionVars false
open Go.RowKit Go.Proofs.YtadcdjiahekkgaaW.PrintWords Go.Proofs.YtadcdjiahekkgaaW.PrintLast Go.Proofs.YtadcdjiahekkgaaW.PrintMore Go.Proofs.Ytadcdjiahekkgaa.PT Go.Proofs.Ytadcdjiahekkgaa.L Go.Proofs.Ytadcdjiahekkgaa.SM

theorem enters_secrets : ∀ args w, (callFunc 19 args).run Try.prog w = .ok (.enter 19 args) w := Go.Proofs.enters_of Try.func19 (by kernel_rfl) rfl
set_option maxHeartbeats 2000000 in
set_option maxRecDepth 100000 in
theorem law_TransformSecrets (s : ByteArray) (g : Bool) (w : World) :
    Calls Try.prog 5 #[.string s, .bool g] w fun e w' => e = .returned (.bool true) ∧ Below w.heap.size w w' := by
  by_cases ha : s.size ≤ 2147483647
  case neg =>
    have ga : 2147483647 < (s.size : Int) := by omega
    go_enter Try.func5, Try.ntmps5
    go_wp2_with fail
    go_ret
    exact ⟨rfl, Below.refl _ _⟩
  have ga : ¬ 2147483647 < (s.size : Int) := by omega
  cases hw : wordB s with
  | false =>
    have HW := Lib.hid hw
    clear hw
    go_enter Try.func5, Try.ntmps5
    go_wp2_with fail
    refine (spec_PartWord s _ ha).mono ?_
    rw [HW.out]
    rintro e w1 ⟨rfl, hb⟩
    go_wp2
    go_ret
    exact ⟨rfl, hb⟩
  | true =>
    have HW := Lib.hid hw
    clear hw
    go_enter Try.func5, Try.ntmps5
    go_wp2_with fail
    refine (spec_PartWord s _ ha).mono ?_
    rw [HW.out]
    rintro e w1 ⟨rfl, hb1⟩
    have H1 := Aside0.mk hb1
    clear hb1
    go_wp2_with fail
    refine (L.spec_T s _).mono ?_
    rintro e w2 ⟨rfl, hb2⟩
    have H2 := Aside0.mk (below_then H1.out H1.out.size hb2)
    clear hb2 H1
    go_wp2_with fail
    refine (L.spec_T s _).mono ?_
    rintro e w5 ⟨rfl, hb5⟩
    have H5 := Aside0.mk (below_then H2.out H2.out.size hb5)
    clear hb5 H2
    go_wp2_with fail
    refine (M_one kSource s w5.heap.size _ ?_ ?_).mono ?_
    · simp
    · simp
    rintro e w6 ⟨⟨v6, rfl, hv6⟩, hb6⟩
    have HV6 := Aside0.mk hv6
    have H6 : Aside0 (Below w.heap.size w w6) := ⟨(H5.out.alloc H5.out.size _).trans (hb6.mono (by have := H5.out.size; simp; omega))⟩
    clear hv6 hb6 H5
    go_wp2_with fail
    refine (laws_partIs 19 enters_secrets g (tS s) (mS [kSource] [s]) (tI s) (mI [kSource] [s]) (twin_text s) (twin_map [kSource] [s] (by simp) (by simp)) (fun W v hv => impl_TransformSecrets_text s g W hv) (fun W v hv => impl_TransformSecrets_map s g W hv) w6 (made_text s w6) HV6.out).mono ?_
    rintro e w7 ⟨rfl, hb7⟩
    have H7 := Aside0.mk (below_then H6.out H6.out.size hb7)
    clear hb7 H6 HV6
    go_wp2_with fail
    go_ret
    exact ⟨rfl, H7.out⟩
end Go.Proofs.Ytadcdjiahekkgaa.A
