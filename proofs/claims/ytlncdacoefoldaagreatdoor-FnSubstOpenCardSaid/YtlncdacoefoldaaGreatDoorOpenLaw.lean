/- The walk of laws.FnSubstOpen. -/
import Derived.Test.YtlncdacoefoldaaGreatDoorSubJ
import Derived.Test.YtlncdacoefoldaaGreatDoorSubH
namespace Go.Proofs.YtlncdacoefoldaaGreatDoor.U
set_option linter.unusedVariables false
set_option linter.unusedSimpArgs false
set_option linter.unusedSectionVars false
open Go.RowKit Go.Proofs.YtlncdacoefoldaaGreatDoorW.PrintWords Go.Proofs.YtlncdacoefoldaaGreatDoorW.PrintLast Go.Proofs.YtlncdacoefoldaaGreatDoor.PX Go.Proofs.YtlncdacoefoldaaGreatDoor.L

theorem open_env (n : Bs) (v : ByteArray) : envP [⟨mk n, v⟩] n = some v.data.toList := by
  simp [envP, envOf, putsP, SM.put, SM.has, SM.look]
theorem bare_len (l : Bs) : (bare l).length ≤ l.length := List.length_filter_le _ _
set_option maxHeartbeats 4000000 in
set_option maxRecDepth 100000 in
theorem law_open_main (a b c d : ByteArray) (w : World) (ha : a.size ≤ 2147483647) (hb : b.size ≤ 2147483647) (hc : c.size ≤ 2147483647) (hd : d.size ≤ 2147483647) :
    Calls Tryz.prog 7 #[.string a, .string b, .string c, .string d] w fun e w' => e = .returned (.bool true) ∧ Below w.heap.size w w' := by
  have hla : a.data.toList.length = a.size := by rw [Array.length_toList]; rfl
  have hlb : b.data.toList.length = b.size := by rw [Array.length_toList]; rfl
  have hlc : c.data.toList.length = c.size := by rw [Array.length_toList]; rfl
  have hld : d.data.toList.length = d.size := by rw [Array.length_toList]; rfl
  have HBA := Lib.hid (bare_l a (by omega))
  have HBD := Lib.hid (bare_l d (by omega))
  have HNM := Lib.hid (subname_l b (by omega))
  have l1 := bare_len a.data.toList
  have l2 := bare_len d.data.toList
  have l3 := nameOf_len b.data.toList
  have p1 := bare_is a.data.toList
  have p2 := bare_is d.data.toList
  have p3 := nameOf_is b.data.toList
  obtain ⟨A, hA⟩ : ∃ A, A = bare a.data.toList := ⟨_, rfl⟩
  obtain ⟨D, hD⟩ : ∃ D, D = bare d.data.toList := ⟨_, rfl⟩
  obtain ⟨Nm, hN⟩ : ∃ Nm, Nm = nameOf b.data.toList := ⟨_, rfl⟩
  rw [← hA] at HBA l1 p1
  rw [← hD] at HBD l2 p2
  rw [← hN] at HNM l3 p3
  have HS := Lib.hid (sub_open (envP [⟨mk Nm, c⟩]) 0 A Nm D c.data.toList p1 p2 p3 (open_env Nm c) (by rw [List.length_append, List.length_append, List.length_cons]; unfold LIM; omega))
  have HLen := Lib.hid (show (A ++ 36 :: (Nm ++ 32 :: D)).length < 1152921504606846976 by simp only [List.length_append, List.length_cons]; omega)
  have HSU := Lib.hid (fun A0 c0 (W : World) hr0 hc0 => impl_subst A0 c0 [⟨mk Nm, c⟩] _ _ 1 W hr0 hc0 (by simp) HLen.out HS.out)
  have e1 : mk (A ++ 36 :: (Nm ++ 32 :: D)) = mk A ++ ⟨#[36]⟩ ++ mk Nm ++ ⟨#[32]⟩ ++ mk D := by
    apply data_inj
    simp [mk_data]
  have e2 : mk (A ++ c.data.toList ++ 32 :: D) = mk A ++ c ++ ⟨#[32]⟩ ++ mk D := by
    apply data_inj
    simp [mk_data]
  rw [e1, e2] at HSU
  have z1 : (mk A).size = A.length := mk_size A
  have z2 : (mk D).size = D.length := mk_size D
  have z3 : (mk Nm).size = Nm.length := mk_size Nm
  clear hA hD hN p1 p2 p3 HS HLen e1 e2
  generalize mk A = xa at *
  generalize mk D = xd at *
  generalize mk Nm = xn at *
  have s1 : ¬ 9223372036854775807 < xa.size + 1 := by omega
  have s2 : ¬ 9223372036854775807 < xa.size + 1 + xn.size := by omega
  have s3 : ¬ 9223372036854775807 < xa.size + 1 + xn.size + 1 := by omega
  have s4 : ¬ 9223372036854775807 < xa.size + 1 + xn.size + 1 + xd.size := by omega
  have s5 : ¬ 9223372036854775807 < xa.size + c.size := by omega
  have s6 : ¬ 9223372036854775807 < xa.size + c.size + 1 := by omega
  have s7 : ¬ 9223372036854775807 < xa.size + c.size + 1 + xd.size := by omega
  clear z1 z2 z3 l1 l2 l3 hla hlb hlc hld
  have ha' : ¬ (2147483647 : Int) < (a.size : Int) := by omega
  have hb' : ¬ (2147483647 : Int) < (b.size : Int) := by omega
  have hc' : ¬ (2147483647 : Int) < (c.size : Int) := by omega
  have hd' : ¬ (2147483647 : Int) < (d.size : Int) := by omega
  go_enter Tryz.func7, Tryz.ntmps7
  go_wp2_with (first
    | (go_at_call_has 24 a; refine (laws_substBare.calls _ a _ _ HBA.out).mono ?_; rintro e w1 ⟨rfl, hb1⟩; have HB1 := Aside0.mk hb1; clear hb1)
    | (go_at_call 13; refine (spec_SubstName.calls _ b _ _ HNM.out).mono ?_; rintro e w2 ⟨rfl, hb2⟩; have HB2 := Aside0.mk (below_then HB1.out HB1.out.size hb2); clear hb2)
    | (go_at_call_has 24 d; refine (laws_substBare.calls _ d _ _ HBD.out).mono ?_; rintro e w3 ⟨rfl, hb3⟩; have HB3 := Aside0.mk (below_then HB2.out HB2.out.size hb3); clear hb3)
    | (refine Kd.R_lit k44 (w0 := w) w.heap.size 44 rfl (N := 46) rfl (xs := [⟨xn, c⟩]) (inner := [.string xn, .string c]) (ok := fun _ => True) (okp := fun _ => True) ?hr ?hp (fun _ hk => hk) trivial ?hB ?hS (by simp) ?_; (case hr => first | (go_simp; done) | (go_simp; rfl)); (case hp => exact Reps.snoc (ps := []) (cs := []) (Reps.none _ _) (k44_mkM _ _ _ _) rfl); (case hB => exact HB3.out); (case hS => exact HB3.out.size); intro v5 w5 ho5 hb5 hg5 hn5; obtain ⟨A5, c5, rfl, hc5, hC5⟩ := Kd.R_reads ho5; have HC5 := Aside0.mk hC5; have HB5 := Aside0.mk hb5; have HL5 := Aside0.mk hc5; clear ho5 hb5 hg5 hn5 hC5 hc5)
    | (go_at_call 18; refine (HSU.out _ _ _ HC5.out HL5.out).mono ?_; rintro e w6 ⟨rfl, hb⟩; have HB6 := Aside0.mk (HB5.out.trans (hb.mono HB5.out.size)); clear hb)
    | (go_at_call 16; refine (laws_lives _).mono ?_; rintro e w7 ⟨rfl, hb7⟩; have HB7 := Aside0.mk (below_then HB6.out HB6.out.size hb7); clear hb7))
  go_ret
  exact ⟨rfl, HB7.out⟩
theorem law_FnSubstOpen (a b c d : ByteArray) (w : World) :
    Calls Tryz.prog 7 #[.string a, .string b, .string c, .string d] w fun e w' => e = .returned (.bool true) ∧ Below w.heap.size w w' := by
  by_cases ha : (2147483647 : Int) < (a.size : Int)
  · go_enter Tryz.func7, Tryz.ntmps7
    go_wp2
    go_ret
    exact ⟨rfl, Below.refl _ _⟩
  by_cases hb : (2147483647 : Int) < (b.size : Int)
  · go_enter Tryz.func7, Tryz.ntmps7
    go_wp2
    go_ret
    exact ⟨rfl, Below.refl _ _⟩
  by_cases hc : (2147483647 : Int) < (c.size : Int)
  · go_enter Tryz.func7, Tryz.ntmps7
    go_wp2
    go_ret
    exact ⟨rfl, Below.refl _ _⟩
  by_cases hd : (2147483647 : Int) < (d.size : Int)
  · go_enter Tryz.func7, Tryz.ntmps7
    go_wp2
    go_ret
    exact ⟨rfl, Below.refl _ _⟩
  exact law_open_main a b c d w (by omega) (by omega) (by omega) (by omega)
end Go.Proofs.YtlncdacoefoldaaGreatDoor.U
