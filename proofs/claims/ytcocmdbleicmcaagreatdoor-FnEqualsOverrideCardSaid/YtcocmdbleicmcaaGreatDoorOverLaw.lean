/- The walk of laws.FnEqualsOverride. -/
import Derived.Test.YtcocmdbleicmcaaGreatDoorOverP
import Derived.Test.YtcocmdbleicmcaaGreatDoorAwake
namespace Go.Proofs.YtcocmdbleicmcaaGreatDoor.M
set_option linter.unusedVariables false
set_option linter.unusedSimpArgs false
set_option linter.unusedSectionVars false
open Go.RowKit Go.Proofs.YtcocmdbleicmcaaGreatDoorW.PrintWords Go.Proofs.YtcocmdbleicmcaaGreatDoorW.PrintLast Go.Proofs.YtcocmdbleicmcaaGreatDoor.PX Go.Proofs.YtcocmdbleicmcaaGreatDoor.SM

set_option maxHeartbeats 4000000 in
set_option maxRecDepth 100000 in
theorem law_FnEqualsOverride (A0 : Option Addr) (c0 : Nat) (l0 : List SO) (A1 : Option Addr) (c1 : Nat) (l1 : List SO) (w : World) (hr0 : Kd.C k75 w A0 l0.length l0) (hc0 : l0.length ≤ c0) (hr1 : Kd.C k75 w A1 l1.length l1) (hc1 : l1.length ≤ c1) (htab : Lib.TabIs Tryz.prog w "strings.asciiSpace" .u8 Lib.asciiSpaceTab) :
    Calls Tryz.prog 6 #[.slice A0 l0.length c0, .slice A1 l1.length c1] w fun e w' => e = .returned (.bool true) ∧ Below w.heap.size w w' := by
  have HT := Lib.hid (Lib.tabBelow_of_tabIs htab)
  have HR0 := Aside0.mk hr0
  have HR1 := Aside0.mk hr1
  have HC0 := Aside0.mk hc0
  have HC1 := Aside0.mk hc1
  clear htab hr0 hr1 hc0 hc1
  obtain ⟨r0, hf0, hs0⟩ := fits7 l0
  obtain ⟨r1, hf1, hs1⟩ := fits7 l1
  have HF0 := Lib.hid hf0
  have HF1 := Lib.hid hf1
  have HS0 := Lib.hid hs0
  have HS1 := Lib.hid hs1
  clear hf0 hf1 hs0 hs1
  go_enter Tryz.func6, Tryz.ntmps6
  go_upto_region 1 with (fail)
  cases r0 with
  | false =>
    go_wp2_with (first
      | (go_at_call_has 28 A0; refine (laws_zzFits7.calls _ A0 c0 l0 false _ HR0.out HC0.out HF0.out).mono ?_; rintro e w1 ⟨rfl, hb1⟩; have HB1 := Aside0.mk hb1; clear hb1))
    go_ret
    exact ⟨rfl, HB1.out⟩
  | true =>
    have hL0 := HS0.out rfl
    cases r1 with
    | false =>
      go_wp2_with (first
        | (go_at_call_has 28 A0; refine (laws_zzFits7.calls _ A0 c0 l0 true _ HR0.out HC0.out HF0.out).mono ?_; rintro e w1 ⟨rfl, hb1⟩; have HB1 := Aside0.mk hb1; clear hb1)
        | (go_at_call_has 28 A1; refine (laws_zzFits7.calls _ A1 c1 l1 false _ (Kd.C_below HR1.out HB1.out) HC1.out HF1.out).mono ?_; rintro e w2 ⟨rfl, hb2⟩; have HB2 := Aside0.mk (below_then HB1.out HB1.out.size hb2); clear hb2))
      go_ret
      exact ⟨rfl, HB2.out⟩
    | true =>
      have hL1 := HS1.out rfl
      obtain ⟨a, ha⟩ : ∃ a, a = fitO l0 := ⟨_, rfl⟩
      obtain ⟨b, hb⟩ : ∃ b, b = fitO l1 := ⟨_, rfl⟩
      have haL : a.length ≤ 2147483647 := by rw [ha]; exact Nat.le_trans (fitO_len _) hL0
      have hbL : b.length ≤ 2147483647 := by rw [hb]; exact Nat.le_trans (fitO_len _) hL1
      have HAA := Lib.hid (show Ord.Asc S75.f0 a by rw [ha]; exact fitO_asc _)
      have HBB := Lib.hid (show Ord.Asc S75.f0 b by rw [hb]; exact fitO_asc _)
      have HNA := Lib.hid (show ∀ x, x ∈ a → normO x = x from fun x hx => by rw [ha] at hx; exact fitO_norm hx)
      have HNB := Lib.hid (show ∀ x, x ∈ b → normO x = x from fun x hx => by rw [hb] at hx; exact fitO_norm hx)
      have HA := Lib.hid ha
      have HB := Lib.hid hb
      clear ha hb
      obtain ⟨L, hL⟩ : ∃ L, L = fitO (a ++ b) := ⟨_, rfl⟩
      have hLL : L.length ≤ 4294967296 := by rw [hL]; refine Nat.le_trans (fitO_len _) ?_; rw [List.length_append]; omega
      have HL := Lib.hid hL
      clear hL
      have HTO := Lib.hid (toO_f a (by omega))
      have HTP := Lib.hid (toO_f b (by omega))
      obtain ⟨ai, hai⟩ : ∃ ai, ai = a.map sIo := ⟨_, rfl⟩
      obtain ⟨bi, hbi⟩ : ∃ bi, bi = b.map sIo := ⟨_, rfl⟩
      have haiL : ai.length ≤ 2147483647 := by rw [hai, List.length_map]; exact haL
      have hbiL : bi.length ≤ 2147483647 := by rw [hbi, List.length_map]; exact hbL
      rw [← hai] at HTO
      rw [← hbi] at HTP
      have HAI := Lib.hid hai
      have HBI := Lib.hid hbi
      clear hai hbi
      have HSA := Lib.hid (sameO_f L (by omega))
      go_wp2_with (first
        | (go_at_call_has 28 A0; refine (laws_zzFits7.calls _ A0 c0 l0 true _ HR0.out HC0.out HF0.out).mono ?_; rintro e w1 ⟨rfl, hb1⟩; have HB1 := Aside0.mk hb1; clear hb1)
        | (go_at_call_has 28 A1; refine (laws_zzFits7.calls _ A1 c1 l1 true _ (Kd.C_below HR1.out HB1.out) HC1.out HF1.out).mono ?_; rintro e w2 ⟨rfl, hb2⟩; have HB2 := Aside0.mk (below_then HB1.out HB1.out.size hb2); clear hb2)
        | (go_at_call_has 29 A0; refine (spec_FitOpts A0 c0 l0 _ (Kd.C_below HR0.out HB2.out) HC0.out (by omega)).mono ?_; rintro e w3 ⟨v3, rfl, ho3, hb3⟩; rw [← HA.out] at ho3; obtain ⟨A3, c3, rfl, hl3, hC3⟩ := Kd.R_reads ho3; have HC3 := Aside0.mk hC3; have HL3 := Aside0.mk hl3; have HB3 := Aside0.mk (below_then HB2.out HB2.out.size hb3); clear ho3 hC3 hl3 hb3)
        | (go_at_call_has 29 A1; refine (spec_FitOpts A1 c1 l1 _ (Kd.C_below HR1.out HB3.out) HC1.out (by omega)).mono ?_; rintro e w4 ⟨v4, rfl, ho4, hb4⟩; rw [← HB.out] at ho4; obtain ⟨A4, c4, rfl, hl4, hC4⟩ := Kd.R_reads ho4; have HC4 := Aside0.mk hC4; have HL4 := Aside0.mk hl4; have HC3b := Aside0.mk (Kd.C_below HC3.out hb4); have HB4 := Aside0.mk (below_then HB3.out HB3.out.size hb4); clear ho4 hC4 hl4 hb4)
        | (go_at_call_has 31 A3; refine (laws_optsTo.calls _ A3 c3 a _ _ HC3b.out HL3.out HTO.out).mono ?_; rintro e w5 ⟨v5, rfl, ho5, hb5⟩; obtain ⟨A5, c5, rfl, hl5, hC5⟩ := Kd.R_reads ho5; have HC5 := Aside0.mk hC5; have HL5 := Aside0.mk hl5; have HC3c := Aside0.mk (Kd.C_below HC3b.out hb5); have HC4c := Aside0.mk (Kd.C_below HC4.out hb5); have HB5 := Aside0.mk (below_then HB4.out HB4.out.size hb5); clear ho5 hC5 hl5 hb5)
        | (go_at_call_has 31 A4; refine (laws_optsTo.calls _ A4 c4 b _ _ HC4c.out HL4.out HTP.out).mono ?_; rintro e w6 ⟨v6, rfl, ho6, hb6⟩; obtain ⟨A6, c6, rfl, hl6, hC6⟩ := Kd.R_reads ho6; have HC6 := Aside0.mk hC6; have HL6 := Aside0.mk hl6; have HC3d := Aside0.mk (Kd.C_below HC3c.out hb6); have HC4d := Aside0.mk (Kd.C_below HC4c.out hb6); have HC5d := Aside0.mk (Kd.C_below HC5.out hb6); have HB6 := Aside0.mk (below_then HB5.out HB5.out.size hb6); clear ho6 hC6 hl6 hb6)
        | (go_at_call 30; refine (impl_EqualsOverride A5 c5 ai A6 c6 bi _ HC5d.out HL5.out (by omega) HC6.out HL6.out (by omega)).mono ?_; rintro e w7 ⟨v7, g, m1, m2, m3, rfl, ho7, ha7, hp7, hi1, hi2, hm7, hg7, hb7⟩; obtain ⟨A7, c7, rfl, hl7, hC7⟩ := Kd.R_reads ho7; rw [HAI.out] at hi1; rw [HBI.out] at hi2; have hmm := overrode HAA.out HBB.out HNA.out HNB.out ha7 hp7 hi1 hi2 hm7; rw [← HL.out] at hmm; have hff := fromO_f g (by omega); rw [hmm] at hff; have HFF := Lib.hid hff; have HC7 := Aside0.mk hC7; have HL7 := Aside0.mk hl7; have HC3e := Aside0.mk (Kd.C_below HC3d.out hb7); have HC4e := Aside0.mk (Kd.C_below HC4d.out hb7); have HB7 := Aside0.mk (below_then HB6.out HB6.out.size hb7); clear ho7 hC7 hl7 hb7 hmm hff ha7 hm7 hp7 hi1 hi2)
        | (go_at_call 18; refine (laws_optsFrom.calls _ A7 c7 g _ _ HC7.out HL7.out HFF.out).mono ?_; rintro e w8 ⟨v8, rfl, ho8, hb8⟩; obtain ⟨A8, c8, rfl, hl8, hC8⟩ := Kd.R_reads ho8; have HC8 := Aside0.mk hC8; have HL8 := Aside0.mk hl8; have HC3f := Aside0.mk (Kd.C_below HC3e.out hb8); have HC4f := Aside0.mk (Kd.C_below HC4e.out hb8); have HB8 := Aside0.mk (below_then HB7.out HB7.out.size hb8); clear ho8 hC8 hl8 hb8)
        | (go_at_call 32; refine (spec_Override A3 c3 a A4 c4 b _ HC3f.out HL3.out (by omega) HC4f.out HL4.out (by omega)).mono ?_; rintro e w9 ⟨v9, rfl, ho9, hb9⟩; rw [← HL.out] at ho9; obtain ⟨A9, c9, rfl, hl9, hC9⟩ := Kd.R_reads ho9; have HC9 := Aside0.mk hC9; have HL9 := Aside0.mk hl9; have HC8b := Aside0.mk (Kd.C_below HC8.out hb9); have HB9 := Aside0.mk (below_then HB8.out HB8.out.size hb9); clear ho9 hC9 hl9 hb9)
        | (go_at_call 17; refine (laws_sameOpts.calls _ A8 c8 L A9 c9 L true _ HC8b.out HL8.out HC9.out HL9.out HSA.out).mono ?_; rintro e wa ⟨rfl, hda⟩; have HBa := Aside0.mk (below_then HB9.out HB9.out.size hda.below); clear hda)
        | (go_at_call 16; refine (laws_mapsAwake _ (HT.out _ HBa.out)).mono ?_; rintro e wb ⟨rfl, hbb⟩; have HBb := Aside0.mk (below_then HBa.out HBa.out.size hbb); clear hbb))
      go_ret
      exact ⟨rfl, HBb.out⟩
end Go.Proofs.YtcocmdbleicmcaaGreatDoor.M
