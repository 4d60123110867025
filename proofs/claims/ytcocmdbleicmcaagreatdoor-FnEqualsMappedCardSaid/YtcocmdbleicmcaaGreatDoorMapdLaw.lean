/- The walks of impl.EqualsToMapping, LabelsFrom, LabelsToEquals and laws.FnEqualsMapped. -/
import Derived.Test.YtcocmdbleicmcaaGreatDoorToMap
import Derived.Test.YtcocmdbleicmcaaGreatDoorAwake
namespace Go.Proofs.YtcocmdbleicmcaaGreatDoor.M
set_option linter.unusedVariables false
set_option linter.unusedSimpArgs false
set_option linter.unusedSectionVars false
open Go.RowKit Go.Proofs.YtcocmdbleicmcaaGreatDoorW.PrintWords Go.Proofs.YtcocmdbleicmcaaGreatDoorW.PrintLast Go.Proofs.YtcocmdbleicmcaaGreatDoor.PX Go.Proofs.YtcocmdbleicmcaaGreatDoor.SM
theorem fp_len (m : List (ByteArray × PO)) : (m.filterMap fpO).length ≤ m.length := List.length_filterMap_le _ _
set_option maxHeartbeats 4000000 in
set_option maxRecDepth 100000 in
theorem impl_EqualsToMapping (A0 : Option Addr) (c0 : Nat) (l0 : List S76) (w : World) (hr0 : Kd.C k76 w A0 l0.length l0) (hc0 : l0.length ≤ c0) (hl0 : l0.length ≤ 4294967296) :
    Calls Tryz.prog 34 #[.slice A0 l0.length c0] w fun e w' => ∃ v l, ∃ (m1 : List (ByteArray × PO)) (m3 : List (ByteArray × ByteArray)), e = .returned v ∧ Kd.R k89 89 w' w.heap.size (fun _ => True) v l ∧ Ord.Asc S89.f0 l ∧ (l.map tpI).Perm m3 ∧ m3.Perm (m1.filterMap fpO) ∧ img m1 = putsE l0 ∧ l.length ≤ 4294967296 ∧ Below w.heap.size w w' := by
  have HR0 := Aside0.mk hr0
  have HC0 := Aside0.mk hc0
  clear hr0 hc0
  go_enter Tryz.func34, Tryz.ntmps34
  go_upto_region 1 with (fail)
  go_wp2_with (first
    | (go_at_call 69; refine (impl_equals A0 c0 l0 _ HR0.out HC0.out (by omega)).mono ?_; rintro e w1 ⟨b1, m1, rfl, ht1, hh1, hi1, hb1, hB1⟩; have HT1 := Aside0.mk ht1; have HI1 := Aside0.mk hi1; have HH1 := Aside0.mk hh1; have HB1 := Aside0.mk hB1; have HLm := Aside0.mk (show m1.length ≤ 4294967296 from by (have h1 := putsE_len l0; rw [← hi1, img_len] at h1; omega)); clear ht1 hB1 hb1 hh1 hi1)
    | (go_at_call 71; refine (types_ToMapping b1 m1 _ HT1.out HH1.out).mono ?_; rintro e w3 ⟨b3, m3, rfl, ht, hp, hb⟩; have HT3 := Aside0.mk ht; have HM3 := Aside0.mk hp; have HB3 := Aside0.mk (below_then HB1.out HB1.out.size hb); have HLn := Aside0.mk (show m3.length ≤ 4294967296 from by (rw [hp.length_eq]; exact Nat.le_trans (fp_len m1) HLm.out)); clear ht hp hb)
    | (go_at_call 65; refine (impl_told b3 m3 _ HT3.out (Nat.le_trans HLn.out (by decide))).mono ?_; rintro e w4 ⟨v, l, rfl, ho, ha, hp, hb⟩; have HO := Aside0.mk (Kd.R_lower ho HB3.out.size); have HA := Aside0.mk ha; have HP := Aside0.mk hp; have HB4 := Aside0.mk (below_then HB3.out HB3.out.size hb); clear ho ha hp hb))
  go_ret
  exact ⟨_, _, _, _, rfl, HO.out, HA.out, HP.out, HM3.out, HI1.out, by have := HP.out.length_eq; rw [List.length_map] at this; rw [this]; exact HLn.out, HB4.out⟩
set_option maxHeartbeats 4000000 in
set_option maxRecDepth 100000 in
theorem impl_LabelsFrom (A0 : Option Addr) (c0 : Nat) (l0 : List S76) (w : World) (hr0 : Kd.C k76 w A0 l0.length l0) (hc0 : l0.length ≤ c0) (hl0 : l0.length ≤ 4294967296) :
    Calls Tryz.prog 35 #[.slice A0 l0.length c0] w fun e w' => ∃ v l, ∃ (m1 : List (ByteArray × PO)) (m3 : List (ByteArray × ByteArray)), e = .returned v ∧ Kd.R k89 89 w' w.heap.size (fun _ => True) v l ∧ Ord.Asc S89.f0 l ∧ (l.map tpI).Perm m3 ∧ m3.Perm (m1.filterMap fpO) ∧ img m1 = putsE l0 ∧ l.length ≤ 4294967296 ∧ Below w.heap.size w w' := by
  have HR0 := Aside0.mk hr0
  have HC0 := Aside0.mk hc0
  clear hr0 hc0
  go_enter Tryz.func35, Tryz.ntmps35
  go_upto_region 1 with (fail)
  go_wp2_with (first
    | (go_at_call 69; refine (impl_equals A0 c0 l0 _ HR0.out HC0.out (by omega)).mono ?_; rintro e w1 ⟨b1, m1, rfl, ht1, hh1, hi1, hb1, hB1⟩; have HT1 := Aside0.mk ht1; have HI1 := Aside0.mk hi1; have HH1 := Aside0.mk hh1; have HB1 := Aside0.mk hB1; have HLm := Aside0.mk (show m1.length ≤ 4294967296 from by (have h1 := putsE_len l0; rw [← hi1, img_len] at h1; omega)); clear ht1 hB1 hb1 hh1 hi1)
    | (go_at_call 72; refine (types_NewLabels b1 m1 _ HT1.out HH1.out).mono ?_; rintro e w3 ⟨b3, m3, rfl, ht, hp, hb⟩; have HT3 := Aside0.mk ht; have HM3 := Aside0.mk hp; have HB3 := Aside0.mk (below_then HB1.out HB1.out.size hb); have HLn := Aside0.mk (show m3.length ≤ 4294967296 from by (rw [hp.length_eq]; exact Nat.le_trans (fp_len m1) HLm.out)); clear ht hp hb)
    | (go_at_call 65; refine (impl_told b3 m3 _ HT3.out (Nat.le_trans HLn.out (by decide))).mono ?_; rintro e w4 ⟨v, l, rfl, ho, ha, hp, hb⟩; have HO := Aside0.mk (Kd.R_lower ho HB3.out.size); have HA := Aside0.mk ha; have HP := Aside0.mk hp; have HB4 := Aside0.mk (below_then HB3.out HB3.out.size hb); clear ho ha hp hb))
  go_ret
  exact ⟨_, _, _, _, rfl, HO.out, HA.out, HP.out, HM3.out, HI1.out, by have := HP.out.length_eq; rw [List.length_map] at this; rw [this]; exact HLn.out, HB4.out⟩
set_option maxHeartbeats 4000000 in
set_option maxRecDepth 100000 in
theorem impl_LabelsToEquals (A0 : Option Addr) (c0 : Nat) (l0 : List S89) (w : World) (hr0 : Kd.C k89 w A0 l0.length l0) (hc0 : l0.length ≤ c0) (hl0 : l0.length ≤ 4294967296) :
    Calls Tryz.prog 36 #[.slice A0 l0.length c0] w fun e w' => ∃ v l, ∃ (m3 : List (ByteArray × PO)), e = .returned v ∧ Kd.R k76 76 w' w.heap.size (fun _ => True) v l ∧ Ord.Asc S76.f0 l ∧ l.Perm (m3.map opO) ∧ (img m3).Perm ((putsP l0).map upI) ∧ l.length ≤ 4294967296 ∧ Below w.heap.size w w' := by
  have HR0 := Aside0.mk hr0
  have HC0 := Aside0.mk hc0
  clear hr0 hc0
  obtain ⟨M, hM⟩ : ∃ M, M = putsP l0 := ⟨_, rfl⟩
  have hML : M.length ≤ 4294967296 := by rw [hM]; exact Nat.le_trans (putsP_len _) hl0
  have HMM := Lib.hid hM
  clear hM
  go_enter Tryz.func36, Tryz.ntmps36
  go_upto_region 1 with (fail)
  go_wp2_with (first
    | (go_at_call 66; refine (impl_pairs A0 c0 l0 _ HR0.out HC0.out (by omega)).mono ?_; rintro e w1 ⟨b1, rfl, ht1, hb1, hB1⟩; rw [← HMM.out] at ht1; have HT1 := Aside0.mk ht1; have HB1 := Aside0.mk hB1; clear ht1 hB1 hb1)
    | (go_at_call 73; refine (types_ToEquals b1 M _ HT1.out).mono ?_; rintro e w3 ⟨b3, m3, rfl, ht, hh, hp, hb⟩; have HT3 := Aside0.mk ht; have HH3 := Aside0.mk hh; have HM3 := Aside0.mk hp; have HB3 := Aside0.mk (below_then HB1.out HB1.out.size hb); have HLn := Aside0.mk (show m3.length ≤ 4294967296 from by (have h1 := hp.length_eq; rw [img_len, List.length_map] at h1; omega)); clear ht hp hb hh)
    | (go_at_call 60; refine (impl_opts b3 m3 _ HT3.out HH3.out (Nat.le_trans HLn.out (by decide))).mono ?_; rintro e w4 ⟨v, l, rfl, ho, ha, hp, hb⟩; have HO := Aside0.mk (Kd.R_lower ho HB3.out.size); have HA := Aside0.mk ha; have HP := Aside0.mk hp; have HB4 := Aside0.mk (below_then HB3.out HB3.out.size hb); clear ho ha hp hb))
  go_ret
  exact ⟨_, _, _, rfl, HO.out, HA.out, HP.out, by rw [← HMM.out]; exact HM3.out, by have := HP.out.length_eq; rw [List.length_map] at this; rw [this]; exact HLn.out, HB4.out⟩
set_option maxHeartbeats 8000000 in
set_option maxRecDepth 100000 in
theorem law_FnEqualsMapped (A0 : Option Addr) (c0 : Nat) (l0 : List SO) (w : World) (hr0 : Kd.C k75 w A0 l0.length l0) (hc0 : l0.length ≤ c0) (htab : Lib.TabIs Tryz.prog w "strings.asciiSpace" .u8 Lib.asciiSpaceTab) :
    Calls Tryz.prog 7 #[.slice A0 l0.length c0] w fun e w' => e = .returned (.bool true) ∧ Below w.heap.size w w' := by
  have HT := Lib.hid (Lib.tabBelow_of_tabIs htab)
  have HR0 := Aside0.mk hr0
  have HC0 := Aside0.mk hc0
  clear htab hr0 hc0
  obtain ⟨r0, hf0, hs0⟩ := fits7 l0
  have HF0 := Lib.hid hf0
  have HS0 := Lib.hid hs0
  clear hf0 hs0
  go_enter Tryz.func7, Tryz.ntmps7
  go_upto_region 1 with (fail)
  cases r0 with
  | false =>
    go_wp2_with (first
      | (go_at_call 28; refine (laws_zzFits7.calls _ A0 c0 l0 false _ HR0.out HC0.out HF0.out).mono ?_; rintro e w1_ ⟨rfl, hb⟩; replace HR0 := Aside0.mk (Kd.C_below HR0.out hb); have HBs1 := Aside0.mk hb; clear hb))
    go_ret
    exact ⟨rfl, HBs1.out⟩
  | true =>
    have hL0 := HS0.out rfl
    obtain ⟨F, hF⟩ : ∃ F, F = fitO l0 := ⟨_, rfl⟩
    have hFL : F.length ≤ 2147483647 := by rw [hF]; exact Nat.le_trans (fitO_len _) hL0
    obtain ⟨L, hL⟩ : ∃ L, L = fullO F := ⟨_, rfl⟩
    have hLL : L.length ≤ 2147483647 := by rw [hL]; exact Nat.le_trans (fullO_len _) hFL
    have HAA := Lib.hid (show Ord.Asc S75.f0 L by rw [hL, hF]; exact fullO_asc (fitO_asc _))
    have HHS := Lib.hid (show ∀ x, x ∈ L → x.f2 = true by rw [hL]; exact fullO_has _)
    have hfu := full_f F (by omega)
    rw [← hL] at hfu
    have HFU := Lib.hid hfu
    have HF := Lib.hid hF
    clear hfu hF hL
    obtain ⟨P, hP⟩ : ∃ P, P = L.map prS := ⟨_, rfl⟩
    have hPL : P.length ≤ 2147483647 := by rw [hP, List.length_map]; exact hLL
    have hpf := pairs_f L HHS.out (by omega)
    rw [← hP] at hpf
    have HPF := Lib.hid hpf
    have HPP := Lib.hid hP
    clear hpf hP
    have hto := toO_f L (by omega)
    obtain ⟨I, hI⟩ : ∃ I, I = L.map sIo := ⟨_, rfl⟩
    have hIL : I.length ≤ 2147483647 := by rw [hI, List.length_map]; exact hLL
    rw [← hI] at hto
    have HTO := Lib.hid hto
    have HI := Lib.hid hI
    clear hto hI
    have HSP := Lib.hid (same_f P (by omega))
    have HSO := Lib.hid (sameO_f L (by omega))
    go_wp2_with (first
      | (go_at_call 28; refine (laws_zzFits7.calls _ A0 c0 l0 true _ HR0.out HC0.out HF0.out).mono ?_; rintro e w1_ ⟨rfl, hb⟩; replace HR0 := Aside0.mk (Kd.C_below HR0.out hb); have HBs1 := Aside0.mk hb; clear hb)
      | (go_at_call 29; refine (spec_FitOpts A0 c0 l0 _ HR0.out HC0.out (by omega)).mono ?_; rintro e w2_ ⟨v, rfl, ho, hb⟩; rw [← HF.out] at ho; obtain ⟨A2, c2, rfl, hl2, hC2⟩ := Kd.R_reads ho; clear ho; clear HR0; have HC2 := Aside0.mk hC2; have HL2 := Aside0.mk hl2; clear hC2 hl2; have HBs2 := Aside0.mk (below_then HBs1.out HBs1.out.size hb); clear HBs1 hb)
      | (go_at_call 33; refine (spec_Full.calls _ A2 c2 F L _ HC2.out HL2.out HFU.out).mono ?_; rintro e w3_ ⟨v, rfl, ho, hb⟩; obtain ⟨A3, c3, rfl, hl3, hC3⟩ := Kd.R_reads ho; clear ho; clear HC2; have HC3 := Aside0.mk hC3; have HL3 := Aside0.mk hl3; clear hC3 hl3; have HBs3 := Aside0.mk (below_then HBs2.out HBs2.out.size hb); clear HBs2 hb)
      | (go_at_call 31; refine (laws_optsTo.calls _ A3 c3 L I _ HC3.out HL3.out HTO.out).mono ?_; rintro e w4_ ⟨v, rfl, ho, hb⟩; obtain ⟨A4, c4, rfl, hl4, hC4⟩ := Kd.R_reads ho; clear ho; replace HC3 := Aside0.mk (Kd.C_below HC3.out hb); have HC4 := Aside0.mk hC4; have HL4 := Aside0.mk hl4; clear hC4 hl4; have HBs4 := Aside0.mk (below_then HBs3.out HBs3.out.size hb); clear HBs3 hb)
      | (go_at_call 34; refine (impl_EqualsToMapping A4 c4 I _ HC4.out HL4.out (by omega)).mono ?_; rintro e w5_ ⟨v, g5, m1, m3, rfl, ho, ha, hp, hm, hi, hg5, hb⟩; rw [HI.out] at hi; have hmm := mapped HAA.out HHS.out hi hm ha hp; rw [← HPP.out] at hmm; have hff := from_f g5 (by omega); rw [hmm] at hff; have HFF5 := Lib.hid hff; have HMM5 := Lib.hid hmm; have HG5 := Aside0.mk ha; clear hff hmm ha hp hm hi; obtain ⟨A5, c5, rfl, hl5, hC5⟩ := Kd.R_reads ho; clear ho; clear HC4; replace HC3 := Aside0.mk (Kd.C_below HC3.out hb); have HC5 := Aside0.mk hC5; have HL5 := Aside0.mk hl5; clear hC5 hl5; have HBs5 := Aside0.mk (below_then HBs4.out HBs4.out.size hb); clear HBs4 hb)
      | (go_at_call 26; refine (laws_pairsFrom.calls _ A5 c5 g5 P _ HC5.out HL5.out HFF5.out).mono ?_; rintro e w6_ ⟨v, rfl, ho, hb⟩; obtain ⟨A6, c6, rfl, hl6, hC6⟩ := Kd.R_reads ho; clear ho; clear HC5; replace HC3 := Aside0.mk (Kd.C_below HC3.out hb); have HC6 := Aside0.mk hC6; have HL6 := Aside0.mk hl6; clear hC6 hl6; have HBs6 := Aside0.mk (below_then HBs5.out HBs5.out.size hb); clear HBs5 hb)
      | (go_at_call 31; refine (laws_optsTo.calls _ A3 c3 L I _ HC3.out HL3.out HTO.out).mono ?_; rintro e w7_ ⟨v, rfl, ho, hb⟩; obtain ⟨A7, c7, rfl, hl7, hC7⟩ := Kd.R_reads ho; clear ho; replace HC3 := Aside0.mk (Kd.C_below HC3.out hb); replace HC6 := Aside0.mk (Kd.C_below HC6.out hb); have HC7 := Aside0.mk hC7; have HL7 := Aside0.mk hl7; clear hC7 hl7; have HBs7 := Aside0.mk (below_then HBs6.out HBs6.out.size hb); clear HBs6 hb)
      | (go_at_call 35; refine (impl_LabelsFrom A7 c7 I _ HC7.out HL7.out (by omega)).mono ?_; rintro e w8_ ⟨v, g8, m1, m3, rfl, ho, ha, hp, hm, hi, hg8, hb⟩; rw [HI.out] at hi; have hmm := mapped HAA.out HHS.out hi hm ha hp; rw [← HPP.out] at hmm; have hff := from_f g8 (by omega); rw [hmm] at hff; have HFF8 := Lib.hid hff; have HMM8 := Lib.hid hmm; have HG8 := Aside0.mk ha; clear hff hmm ha hp hm hi; obtain ⟨A8, c8, rfl, hl8, hC8⟩ := Kd.R_reads ho; clear ho; clear HC7; replace HC3 := Aside0.mk (Kd.C_below HC3.out hb); replace HC6 := Aside0.mk (Kd.C_below HC6.out hb); have HC8 := Aside0.mk hC8; have HL8 := Aside0.mk hl8; clear hC8 hl8; have HBs8 := Aside0.mk (below_then HBs7.out HBs7.out.size hb); clear HBs7 hb)
      | (go_at_call 26; refine (laws_pairsFrom.calls _ A8 c8 g8 P _ HC8.out HL8.out HFF8.out).mono ?_; rintro e w9_ ⟨v, rfl, ho, hb⟩; obtain ⟨A9, c9, rfl, hl9, hC9⟩ := Kd.R_reads ho; clear ho; clear HC8; replace HC3 := Aside0.mk (Kd.C_below HC3.out hb); replace HC6 := Aside0.mk (Kd.C_below HC6.out hb); have HC9 := Aside0.mk hC9; have HL9 := Aside0.mk hl9; clear hC9 hl9; have HBs9 := Aside0.mk (below_then HBs8.out HBs8.out.size hb); clear HBs8 hb)
      | (go_at_call 31; refine (laws_optsTo.calls _ A3 c3 L I _ HC3.out HL3.out HTO.out).mono ?_; rintro e w10_ ⟨v, rfl, ho, hb⟩; obtain ⟨A10, c10, rfl, hl10, hC10⟩ := Kd.R_reads ho; clear ho; replace HC3 := Aside0.mk (Kd.C_below HC3.out hb); replace HC6 := Aside0.mk (Kd.C_below HC6.out hb); replace HC9 := Aside0.mk (Kd.C_below HC9.out hb); have HC10 := Aside0.mk hC10; have HL10 := Aside0.mk hl10; clear hC10 hl10; have HBs10 := Aside0.mk (below_then HBs9.out HBs9.out.size hb); clear HBs9 hb)
      | (go_at_call 35; refine (impl_LabelsFrom A10 c10 I _ HC10.out HL10.out (by omega)).mono ?_; rintro e w11_ ⟨v, g11, m1, m3, rfl, ho, ha, hp, hm, hi, hg11, hb⟩; rw [HI.out] at hi; have hmm := mapped HAA.out HHS.out hi hm ha hp; rw [← HPP.out] at hmm; have hff := from_f g11 (by omega); rw [hmm] at hff; have HFF11 := Lib.hid hff; have HMM11 := Lib.hid hmm; have HG11 := Aside0.mk ha; clear hff hmm ha hp hm hi; obtain ⟨A11, c11, rfl, hl11, hC11⟩ := Kd.R_reads ho; clear ho; clear HC10; replace HC3 := Aside0.mk (Kd.C_below HC3.out hb); replace HC6 := Aside0.mk (Kd.C_below HC6.out hb); replace HC9 := Aside0.mk (Kd.C_below HC9.out hb); have HC11 := Aside0.mk hC11; have HL11 := Aside0.mk hl11; clear hC11 hl11; have HBs11 := Aside0.mk (below_then HBs10.out HBs10.out.size hb); clear HBs10 hb)
      | (go_at_call 36; refine (impl_LabelsToEquals A11 c11 g11 _ HC11.out HL11.out hg11).mono ?_; rintro e w12_ ⟨v, o, m3, rfl, ho, ha, hp, hm, hg, hb⟩; have hmm := remapped HAA.out HHS.out (by rw [← HPP.out]; exact HMM11.out) hm ha hp; have hff := fromO_f o (by omega); rw [hmm] at hff; have HFFo := Lib.hid hff; clear hff hmm ha hp hm; obtain ⟨A12, c12, rfl, hl12, hC12⟩ := Kd.R_reads ho; clear ho; clear HC11; replace HC3 := Aside0.mk (Kd.C_below HC3.out hb); replace HC6 := Aside0.mk (Kd.C_below HC6.out hb); replace HC9 := Aside0.mk (Kd.C_below HC9.out hb); have HC12 := Aside0.mk hC12; have HL12 := Aside0.mk hl12; clear hC12 hl12; have HBs12 := Aside0.mk (below_then HBs11.out HBs11.out.size hb); clear HBs11 hb)
      | (go_at_call 18; refine (laws_optsFrom.calls _ A12 c12 o L _ HC12.out HL12.out HFFo.out).mono ?_; rintro e w13_ ⟨v, rfl, ho, hb⟩; obtain ⟨A13, c13, rfl, hl13, hC13⟩ := Kd.R_reads ho; clear ho; clear HC12; replace HC3 := Aside0.mk (Kd.C_below HC3.out hb); replace HC6 := Aside0.mk (Kd.C_below HC6.out hb); replace HC9 := Aside0.mk (Kd.C_below HC9.out hb); have HC13 := Aside0.mk hC13; have HL13 := Aside0.mk hl13; clear hC13 hl13; have HBs13 := Aside0.mk (below_then HBs12.out HBs12.out.size hb); clear HBs12 hb)
      | (go_at_call 37; refine (spec_Pairs.calls _ A3 c3 L P _ HC3.out HL3.out HPF.out).mono ?_; rintro e w14_ ⟨v, rfl, ho, hb⟩; obtain ⟨A14, c14, rfl, hl14, hC14⟩ := Kd.R_reads ho; clear ho; replace HC3 := Aside0.mk (Kd.C_below HC3.out hb); replace HC6 := Aside0.mk (Kd.C_below HC6.out hb); replace HC9 := Aside0.mk (Kd.C_below HC9.out hb); replace HC13 := Aside0.mk (Kd.C_below HC13.out hb); have HC14 := Aside0.mk hC14; have HL14 := Aside0.mk hl14; clear hC14 hl14; have HBs14 := Aside0.mk (below_then HBs13.out HBs13.out.size hb); clear HBs13 hb)
      | (go_at_call 25; refine (laws_samePairs.calls _ A6 c6 P A14 c14 P true _ HC6.out HL6.out HC14.out HL14.out HSP.out).mono ?_; rintro e w15_ ⟨rfl, hd⟩; have hb := hd.below; clear hd; clear HC6; clear HC14; replace HC3 := Aside0.mk (Kd.C_below HC3.out hb); replace HC9 := Aside0.mk (Kd.C_below HC9.out hb); replace HC13 := Aside0.mk (Kd.C_below HC13.out hb); have HBs15 := Aside0.mk (below_then HBs14.out HBs14.out.size hb); clear HBs14 hb)
      | (go_at_call 37; refine (spec_Pairs.calls _ A3 c3 L P _ HC3.out HL3.out HPF.out).mono ?_; rintro e w16_ ⟨v, rfl, ho, hb⟩; obtain ⟨A16, c16, rfl, hl16, hC16⟩ := Kd.R_reads ho; clear ho; replace HC3 := Aside0.mk (Kd.C_below HC3.out hb); replace HC9 := Aside0.mk (Kd.C_below HC9.out hb); replace HC13 := Aside0.mk (Kd.C_below HC13.out hb); have HC16 := Aside0.mk hC16; have HL16 := Aside0.mk hl16; clear hC16 hl16; have HBs16 := Aside0.mk (below_then HBs15.out HBs15.out.size hb); clear HBs15 hb)
      | (go_at_call 25; refine (laws_samePairs.calls _ A9 c9 P A16 c16 P true _ HC9.out HL9.out HC16.out HL16.out HSP.out).mono ?_; rintro e w17_ ⟨rfl, hd⟩; have hb := hd.below; clear hd; clear HC9; clear HC16; replace HC3 := Aside0.mk (Kd.C_below HC3.out hb); replace HC13 := Aside0.mk (Kd.C_below HC13.out hb); have HBs17 := Aside0.mk (below_then HBs16.out HBs16.out.size hb); clear HBs16 hb)
      | (go_at_call 17; refine (laws_sameOpts.calls _ A13 c13 L A3 c3 L true _ HC13.out HL13.out HC3.out HL3.out HSO.out).mono ?_; rintro e w18_ ⟨rfl, hd⟩; have hb := hd.below; clear hd; clear HC13; clear HC3; have HBs18 := Aside0.mk (below_then HBs17.out HBs17.out.size hb); clear HBs17 hb)
      | (go_at_call 16; refine (laws_mapsAwake _ (HT.out _ HBs18.out)).mono ?_; rintro e w19_ ⟨rfl, hb⟩; have HBs19 := Aside0.mk (below_then HBs18.out HBs18.out.size hb); clear HBs18 hb))
    go_ret
    exact ⟨rfl, HBs19.out⟩
end Go.Proofs.YtcocmdbleicmcaaGreatDoor.M
