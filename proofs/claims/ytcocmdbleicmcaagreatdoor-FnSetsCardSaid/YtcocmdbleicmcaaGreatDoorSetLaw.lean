/- The walks of impl.SetDiff, impl.SetUnion, spec.Diff, spec.Union and laws.FnSets. -/
import Derived.Test.YtcocmdbleicmcaaGreatDoorSetOps
import Derived.Test.YtcocmdbleicmcaaGreatDoorEqMapLaw
namespace Go.Proofs.YtcocmdbleicmcaaGreatDoor.M
set_option linter.unusedVariables false
set_option linter.unusedSimpArgs false
set_option linter.unusedSectionVars false
open Go.RowKit Go.Proofs.YtcocmdbleicmcaaGreatDoorW.PrintWords Go.Proofs.YtcocmdbleicmcaaGreatDoorW.PrintLast Go.Proofs.YtcocmdbleicmcaaGreatDoor.PX Go.Proofs.YtcocmdbleicmcaaGreatDoor.SM

set_option maxHeartbeats 4000000 in
set_option maxRecDepth 100000 in
theorem impl_SetDiff (A0 : Option Addr) (c0 : Nat) (l0 : List ByteArray) (A1 : Option Addr) (c1 : Nat) (l1 : List ByteArray) (w : World) (hr0 : Kd.C Kd.string w A0 l0.length l0) (hl0 : l0.length ≤ 4294967296) (hr1 : Kd.C Kd.string w A1 l1.length l1) (hl1 : l1.length ≤ 4294967296) :
    Calls Tryz.prog 43 #[.slice A0 l0.length c0, .slice A1 l1.length c1] w fun e w' => ∃ v, e = .returned v ∧ Kd.R Kd.string 9 w' w.heap.size (fun _ => True) v (diffS l0 l1) ∧ Below w.heap.size w w' := by
  have HR0 := Aside0.mk hr0
  have HR1 := Aside0.mk hr1
  clear hr0 hr1
  obtain ⟨L, hL⟩ : ∃ L, L = diffS l0 l1 := ⟨_, rfl⟩
  rw [← hL]
  have HL := Lib.hid hL
  clear hL
  go_enter Tryz.func43, Tryz.ntmps43
  go_upto_region 1 with (fail)
  go_wp2_with (first
    | (go_at_call_has 78 A0; refine (utils_NewSet A0 c0 l0 _ HR0.out (by omega)).mono ?_; rintro e w1 ⟨b1, m1, rfl, ht1, hk1, hb1, hB1⟩; have HT1 := Aside0.mk ht1; have HK1 := Aside0.mk hk1; have HB1 := Aside0.mk hB1; clear ht1 hB1 hb1 hk1 HR0)
    | (go_at_call_has 78 A1; refine (utils_NewSet A1 c1 l1 _ (Kd.C_below HR1.out HB1.out) (by omega)).mono ?_; rintro e w2 ⟨b2, m2, rfl, ht2, hk2, hb2, hB2⟩; have HT2 := Aside0.mk ht2; have HK2 := Aside0.mk hk2; have HT1b := Aside0.mk (HT1.out.below hB2); have HB2 := Aside0.mk (below_then HB1.out HB1.out.size hB2); clear ht2 hB2 hb2 hk2)
    | (go_at_call 79; refine (utils_Diff b1 b2 m1 m2 _ HT1b.out HT2.out).mono ?_; rintro e w3 ⟨b3, m3, rfl, ht3, hk3, hB3⟩; have HT3 := Aside0.mk ht3; have HK3 := Aside0.mk (show ∀ x, x ∈ keys m3 ↔ x ∈ l0.filter (fun x => !Lib.containsS l1 x) from fun x => by (rw [hk3, HK1.out, HK2.out, List.mem_filter, ← contains_iff l1]; simp)); have HB3 := Aside0.mk (below_then HB2.out HB2.out.size hB3); have HN3 := Aside0.mk ht3.nodup; have HL3 := Aside0.mk (show m3.length ≤ 4294967296 from Nat.le_trans (keys_len ht3.nodup (fun x h => (HK3.out x).1 h)) (by (refine Nat.le_trans (List.length_filter_le _ _) ?_; omega))); clear ht3 hk3 hB3)
    | (go_at_call 80; refine (utils_Elements b3 m3 _ HT3.out HL3.out).mono ?_; rintro e w4 ⟨v4, l4, rfl, ho, hp, hb⟩; have HO4 := Aside0.mk (Kd.R_lower ho HB3.out.size); have HP4 := Aside0.mk hp; have HB4 := Aside0.mk (below_then HB3.out HB3.out.size hb); have HL4 := Aside0.mk (show l4.length ≤ 1099511627776 from by (rw [hp.length_eq, keys, List.length_map]; exact Nat.le_trans HL3.out (by decide))); clear ho hp hb)
    | (go_at_call 74; refine (impl_rising v4 l4 _ _ HO4.out HL4.out).mono ?_; rintro e w5 ⟨rfl, ho, hg⟩; have HO5 := Aside0.mk ho; have HB5 := Aside0.mk (HB4.out.grown hg HB4.out.size (fun k hk => Kd.R_base HO4.out k hk)); clear ho hg))
  go_ret
  have e : Ord.sortS l4 = L := by
    rw [HL.out]
    exact sort_dist_eq (HP4.out.nodup_iff.2 HN3.out) (fun x => HP4.out.mem_iff.trans (HK3.out x))
  exact ⟨_, rfl, by rw [← e]; exact HO5.out, HB5.out⟩
set_option maxHeartbeats 4000000 in
set_option maxRecDepth 100000 in
theorem impl_SetUnion (A0 : Option Addr) (c0 : Nat) (l0 : List ByteArray) (A1 : Option Addr) (c1 : Nat) (l1 : List ByteArray) (w : World) (hr0 : Kd.C Kd.string w A0 l0.length l0) (hl0 : l0.length ≤ 4294967296) (hr1 : Kd.C Kd.string w A1 l1.length l1) (hl1 : l1.length ≤ 4294967296) (hm : l0.length + l1.length ≤ 4294967296) :
    Calls Tryz.prog 44 #[.slice A0 l0.length c0, .slice A1 l1.length c1] w fun e w' => ∃ v, e = .returned v ∧ Kd.R Kd.string 9 w' w.heap.size (fun _ => True) v (unionS l0 l1) ∧ Below w.heap.size w w' := by
  have HR0 := Aside0.mk hr0
  have HR1 := Aside0.mk hr1
  clear hr0 hr1
  obtain ⟨L, hL⟩ : ∃ L, L = unionS l0 l1 := ⟨_, rfl⟩
  rw [← hL]
  have HL := Lib.hid hL
  clear hL
  go_enter Tryz.func44, Tryz.ntmps44
  go_upto_region 1 with (fail)
  go_wp2_with (first
    | (go_at_call_has 78 A0; refine (utils_NewSet A0 c0 l0 _ HR0.out (by omega)).mono ?_; rintro e w1 ⟨b1, m1, rfl, ht1, hk1, hb1, hB1⟩; have HT1 := Aside0.mk ht1; have HK1 := Aside0.mk hk1; have HB1 := Aside0.mk hB1; clear ht1 hB1 hb1 hk1 HR0)
    | (go_at_call_has 78 A1; refine (utils_NewSet A1 c1 l1 _ (Kd.C_below HR1.out HB1.out) (by omega)).mono ?_; rintro e w2 ⟨b2, m2, rfl, ht2, hk2, hb2, hB2⟩; have HT2 := Aside0.mk ht2; have HK2 := Aside0.mk hk2; have HT1b := Aside0.mk (HT1.out.below hB2); have HB2 := Aside0.mk (below_then HB1.out HB1.out.size hB2); clear ht2 hB2 hb2 hk2)
    | (go_at_call 81; refine (utils_Union b1 b2 m1 m2 _ HT1b.out HT2.out).mono ?_; rintro e w3 ⟨b3, m3, rfl, ht3, hk3, hB3⟩; have HT3 := Aside0.mk ht3; have HK3 := Aside0.mk (show ∀ x, x ∈ keys m3 ↔ x ∈ l0 ++ l1 from fun x => by (rw [hk3, HK1.out, HK2.out, List.mem_append])); have HB3 := Aside0.mk (below_then HB2.out HB2.out.size hB3); have HN3 := Aside0.mk ht3.nodup; have HL3 := Aside0.mk (show m3.length ≤ 4294967296 from Nat.le_trans (keys_len ht3.nodup (fun x h => (HK3.out x).1 h)) (by (rw [List.length_append]; omega))); clear ht3 hk3 hB3)
    | (go_at_call 80; refine (utils_Elements b3 m3 _ HT3.out HL3.out).mono ?_; rintro e w4 ⟨v4, l4, rfl, ho, hp, hb⟩; have HO4 := Aside0.mk (Kd.R_lower ho HB3.out.size); have HP4 := Aside0.mk hp; have HB4 := Aside0.mk (below_then HB3.out HB3.out.size hb); have HL4 := Aside0.mk (show l4.length ≤ 1099511627776 from by (rw [hp.length_eq, keys, List.length_map]; exact Nat.le_trans HL3.out (by decide))); clear ho hp hb)
    | (go_at_call 74; refine (impl_rising v4 l4 _ _ HO4.out HL4.out).mono ?_; rintro e w5 ⟨rfl, ho, hg⟩; have HO5 := Aside0.mk ho; have HB5 := Aside0.mk (HB4.out.grown hg HB4.out.size (fun k hk => Kd.R_base HO4.out k hk)); clear ho hg))
  go_ret
  have e : Ord.sortS l4 = L := by
    rw [HL.out]
    exact sort_dist_eq (HP4.out.nodup_iff.2 HN3.out) (fun x => HP4.out.mem_iff.trans (HK3.out x))
  exact ⟨_, rfl, by rw [← e]; exact HO5.out, HB5.out⟩
set_option maxHeartbeats 4000000 in
set_option maxRecDepth 100000 in
theorem spec_Diff (A0 : Option Addr) (c0 : Nat) (l0 : List ByteArray) (A1 : Option Addr) (c1 : Nat) (l1 : List ByteArray) (w : World) (hr0 : Kd.C Kd.string w A0 l0.length l0) (hl0 : l0.length ≤ 4294967296) (hr1 : Kd.C Kd.string w A1 l1.length l1) (hc1 : l1.length ≤ c1) (hl1 : l1.length ≤ 4294967296) :
    Calls Tryz.prog 45 #[.slice A0 l0.length c0, .slice A1 l1.length c1] w fun e w' => ∃ v, e = .returned v ∧ Kd.R Kd.string 9 w' w.heap.size (fun _ => True) v (diffS l0 l1) ∧ Below w.heap.size w w' := by
  have HR0 := Aside0.mk hr0
  have HR1 := Aside0.mk hr1
  have HC1 := Aside0.mk hc1
  clear hr0 hr1 hc1
  go_enter Tryz.func45, Tryz.ntmps45
  go_wp2
  go_loopw [5, 6] (fun v5 v6 wr => ∃ i : Nat, i ≤ l0.length ∧ v6 = .int .i64 i ∧ Aside0 (Kd.R Kd.string 9 wr w.heap.size (fun _ => True) v5 ((l0.take i).filter (fun x => !Lib.containsS l1 x))) ∧ Aside0 (Below w.heap.size w wr)) (fun _ v6 _ => l0.length - (intOf v6).toNat)
  case atStart => exact ⟨0, Nat.zero_le _, rfl, ⟨Kd.R_nil _ _ _ _ _⟩, ⟨Below.refl _ _⟩⟩
  case round =>
    obtain ⟨i, hi, rfl, HO, HB⟩ := hrel
    by_cases hlt : i < l0.length
    · obtain ⟨ad0, rfl, hx0⟩ := Kd.at_string HR0.out (i : Int) (by omega) (by omega)
      replace hx0 := (HB.out.cell (World.block_lt_of_cell? w _ hx0)).trans hx0
      simp only [Int.toNat_natCast] at hx0
      obtain ⟨s, hs⟩ : ∃ s, s = l0[i] := ⟨_, rfl⟩
      have hs' : rdOf ByteArray.empty l0 (i : Int) = s := by rw [hs]; simp [rdOf, List.getD_eq_getElem?_getD, List.getElem?_eq_getElem hlt]
      rw [hs'] at hx0
      obtain ⟨D, hD⟩ : ∃ D, D = (l0.take i).filter (fun x => !Lib.containsS l1 x) := ⟨_, rfl⟩
      have hDL : D.length ≤ i := by rw [hD]; exact Nat.le_trans (List.length_filter_le _ _) (List.length_take_le _ _)
      have hN : (l0.take (i + 1)).filter (fun x => !Lib.containsS l1 x) = if Lib.containsS l1 s = true then D else D ++ [s] := by
        rw [List.take_succ_eq_append_getElem hlt, List.filter_append, hD, ← hs]
        cases e : Lib.containsS l1 s <;> simp [e]
      rw [← hD] at HO
      clear hD hs hs'
      have HI := Aside0.mk (in_f l1 s (by omega) _ (Nat.le_refl _))
      obtain ⟨A5, c5, rfl⟩ := Kd.R_slice HO.out
      cases hin : Lib.containsS l1 s with
      | true =>
        rw [hin] at HI hN
        have HN := Lib.hid hN
        clear hN hin
        go_wp2_with (go_at_call 56; refine (spec_mapsIn.calls _ A1 c1 l1 s true _ (Kd.C_below HR1.out HB.out) HC1.out HI.out).mono ?_; rintro e w1 ⟨rfl, hd⟩; have HO1 := Aside0.mk (Kd.R_below HO.out hd.below); have HB1 := Aside0.mk (below_then HB.out HB.out.size hd.below); clear hd)
        go_roundw
        case rel =>
          refine ⟨i + 1, by omega, by go_num, ⟨?_⟩, HB1⟩
          rw [HN.out]; exact HO1.out
        case measure => simp [intOf]; omega
      | false =>
        rw [hin] at HI hN
        have HN := Lib.hid hN
        clear hN hin
        go_wp2_with (first
          | (go_at_call 56; refine (spec_mapsIn.calls _ A1 c1 l1 s false _ (Kd.C_below HR1.out HB.out) HC1.out HI.out).mono ?_; rintro e w1 ⟨rfl, hd⟩; have HO1 := Aside0.mk (Kd.R_below HO.out hd.below); have HB1 := Aside0.mk (below_then HB.out HB.out.size hd.below); replace hx0 := (hd.below.cell (World.block_lt_of_cell? _ _ hx0)).trans hx0; clear hd)
          | (at_builtin; refine Kd.R_append Kd.string (w0 := w) w.heap.size rfl _ _ 22 9 (.string ⟨#[]⟩) 16 rfl Tryz.underlying22 infoS rfl (by decide) (by decide) _ D s [.string s] (fun _ => True) (fun _ => False) rfl rfl ?hp (fun _ h => h.elim) (fun _ _ => trivial) ?hO ?hB ?hS ?hL ?_; (case hp => rfl); (case hO => exact HO1.out); (case hB => exact HB1.out); (case hS => exact HB1.out.size); (case hL => omega); intro v3 w3 ho3 hb3 hg3 hat3; have HO3 := Aside0.mk ho3; have HB3 := Aside0.mk hb3; clear ho3 hb3 hg3 hat3))
        go_roundw
        case rel =>
          refine ⟨i + 1, by omega, by go_num, ⟨?_⟩, HB3⟩
          rw [HN.out]; exact HO3.out
        case measure => simp [intOf]; omega
    · obtain rfl : i = l0.length := by omega
      rw [List.take_length] at HO
      obtain ⟨D, hD⟩ : ∃ D, D = l0.filter (fun x => !Lib.containsS l1 x) := ⟨_, rfl⟩
      have hDL : D.length ≤ 4294967296 := by rw [hD]; exact Nat.le_trans (List.length_filter_le _ _) hl0
      rw [← hD] at HO
      have HE := Lib.hid (show diffS l0 l1 = Ord.sortS (dist D) by rw [hD]; rfl)
      clear hD
      obtain ⟨A5, c5, rfl, hl5, hC5⟩ := Kd.R_reads HO.out
      have HC5 := Aside0.mk hC5
      have HL5 := Aside0.mk hl5
      clear hC5 hl5
      obtain ⟨E, hE⟩ : ∃ E, E = dist D := ⟨_, rfl⟩
      have hEL : E.length ≤ 4294967296 := by rw [hE]; exact Nat.le_trans (dist_len _) hDL
      have hdf := distinct_f D (by omega)
      rw [← hE] at hdf HE
      have HDF := Lib.hid hdf
      clear hE hdf
      go_wp2_with (first
        | (go_at_call 14; refine (spec_Distinct.calls _ A5 c5 D E _ HC5.out HL5.out HDF.out).mono ?_; rintro e w1 ⟨v, rfl, ho, hb⟩; obtain ⟨A6, c6, rfl, hl6, hC6⟩ := Kd.R_reads ho; have HC6 := Aside0.mk hC6; have HL6 := Aside0.mk hl6; have HB6 := Aside0.mk (below_then HB.out HB.out.size hb); clear ho hb hC6 hl6)
        | (go_at_call 76; refine (spec_mapsSorted A6 c6 E _ HC6.out HL6.out (by omega)).mono ?_; rintro e w1 ⟨v, rfl, ho, hb⟩; have HOs := Aside0.mk (Kd.R_lower ho HB6.out.size); have HBs := Aside0.mk (below_then HB6.out HB6.out.size hb); clear ho hb))
      go_ret
      exact ⟨_, rfl, by rw [HE.out]; exact HOs.out, HBs.out⟩
set_option maxHeartbeats 4000000 in
set_option maxRecDepth 100000 in
theorem spec_Union (A0 : Option Addr) (c0 : Nat) (l0 : List ByteArray) (A1 : Option Addr) (c1 : Nat) (l1 : List ByteArray) (w : World) (hr0 : Kd.C Kd.string w A0 l0.length l0) (hl0 : l0.length ≤ 4294967296) (hr1 : Kd.C Kd.string w A1 l1.length l1) (hl1 : l1.length ≤ 4294967296) :
    Calls Tryz.prog 46 #[.slice A0 l0.length c0, .slice A1 l1.length c1] w fun e w' => ∃ v, e = .returned v ∧ Kd.R Kd.string 9 w' w.heap.size (fun _ => True) v (unionS l0 l1) ∧ Below w.heap.size w w' := by
  have HR0 := Aside0.mk hr0
  have HR1 := Aside0.mk hr1
  clear hr0 hr1
  obtain ⟨L, hL⟩ : ∃ L, L = l0 ++ l1 := ⟨_, rfl⟩
  have hLl : L.length ≤ 8589934592 := by rw [hL, List.length_append]; omega
  have HE := Lib.hid (show unionS l0 l1 = Ord.sortS (dist L) by rw [hL]; rfl)
  have HL := Lib.hid hL
  clear hL
  obtain ⟨E, hE⟩ : ∃ E, E = dist L := ⟨_, rfl⟩
  have hEL : E.length ≤ 8589934592 := by rw [hE]; exact Nat.le_trans (dist_len _) hLl
  have hdf := distinct_f L (by omega)
  rw [← hE] at hdf HE
  have HDF := Lib.hid hdf
  clear hE hdf
  go_enter Tryz.func46, Tryz.ntmps46
  go_wp2_with (first
    | (refine Kd.R_lit Kd.string (w0 := w) w.heap.size 9 rfl (N := 5) rfl (xs := []) (inner := []) (ok := fun _ => True) (okp := fun _ => True) ?hr ?hp (fun _ hk => hk) trivial ?hB ?hS (by simp) ?_; (case hr => first | (go_simp; done) | (go_simp; rfl)); (case hp => exact Reps.none _ _); (case hB => exact Below.refl _ _); (case hS => exact Nat.le_refl _); intro v5 w5 ho5 hb5 hg5 hn5; have HO5 := Aside0.mk ho5; have HB5 := Aside0.mk hb5; clear ho5 hb5 hg5 hn5)
    | (at_builtin; refine Kd.R_append_rows Kd.string (Rr := fun x_ cs_ => Kd.string.K w5 x_ cs_) (w0 := w) w.heap.size rfl (.tmp 5) (.tmp 6) 22 9 (.string ⟨#[]⟩) 16 rfl Tryz.underlying22 infoS rfl (by decide) (by decide) v5 [] l0 A0 _ _ (fun _ => True) (fun _ => False) rfl rfl ?hO ?hR (fun x_ cs_ h_ => h_) (fun _ h_ => h_.elim) (fun _ _ => trivial) ?hB ?hS ?hL ?_; (case hO => exact HO5.out); (case hR => exact Kd.C_below HR0.out HB5.out); (case hB => exact HB5.out); (case hS => exact HB5.out.size); (case hL => simp only [List.length_nil]; omega); intro v7 w7 ho7 hb7 hg7 hat7; rw [List.nil_append] at ho7; have HO7 := Aside0.mk ho7; have HB7 := Aside0.mk hb7; clear ho7 hb7 hg7 hat7)
    | (at_builtin; refine Kd.R_append_rows Kd.string (Rr := fun x_ cs_ => Kd.string.K w7 x_ cs_) (w0 := w) w.heap.size rfl (.tmp 7) (.tmp 8) 22 9 (.string ⟨#[]⟩) 16 rfl Tryz.underlying22 infoS rfl (by decide) (by decide) v7 l0 l1 A1 _ _ (fun _ => True) (fun _ => False) rfl rfl ?hO ?hR (fun x_ cs_ h_ => h_) (fun _ h_ => h_.elim) (fun _ _ => trivial) ?hB ?hS ?hL ?_; (case hO => exact HO7.out); (case hR => exact Kd.C_below HR1.out HB7.out); (case hB => exact HB7.out); (case hS => exact HB7.out.size); (case hL => omega); intro v9 w9 ho9 hb9 hg9 hat9; rw [← HL.out] at ho9; obtain ⟨A9, c9, rfl, hl9, hC9⟩ := Kd.R_reads ho9; have HC9 := Aside0.mk hC9; have HL9 := Aside0.mk hl9; have HB9 := Aside0.mk hb9; clear ho9 hb9 hg9 hat9 hC9 hl9)
    | (go_at_call 14; refine (spec_Distinct.calls _ A9 c9 L E _ HC9.out HL9.out HDF.out).mono ?_; rintro e w1 ⟨v, rfl, ho, hb⟩; obtain ⟨A6, c6, rfl, hl6, hC6⟩ := Kd.R_reads ho; have HC6 := Aside0.mk hC6; have HL6 := Aside0.mk hl6; have HB6 := Aside0.mk (below_then HB9.out HB9.out.size hb); clear ho hb hC6 hl6)
    | (go_at_call 76; refine (spec_mapsSorted A6 c6 E _ HC6.out HL6.out (by omega)).mono ?_; rintro e w1 ⟨v, rfl, ho, hb⟩; have HOs := Aside0.mk (Kd.R_lower ho HB6.out.size); have HBs := Aside0.mk (below_then HB6.out HB6.out.size hb); clear ho hb))
  go_ret
  exact ⟨_, rfl, by rw [HE.out]; exact HOs.out, HBs.out⟩
set_option maxHeartbeats 8000000 in
set_option maxRecDepth 100000 in
theorem law_FnSets (A0 : Option Addr) (c0 : Nat) (l0 : List ByteArray) (A1 : Option Addr) (c1 : Nat) (l1 : List ByteArray) (w : World) (hr0 : Kd.C Kd.string w A0 l0.length l0) (hc0 : l0.length ≤ c0) (hr1 : Kd.C Kd.string w A1 l1.length l1) (hc1 : l1.length ≤ c1) (htab : Lib.TabIs Tryz.prog w "strings.asciiSpace" .u8 Lib.asciiSpaceTab) :
    Calls Tryz.prog 9 #[.slice A0 l0.length c0, .slice A1 l1.length c1] w fun e w' => e = .returned (.bool true) ∧ Below w.heap.size w w' := by
  have HT := Lib.hid (Lib.tabBelow_of_tabIs htab)
  have HR0 := Aside0.mk hr0
  have HR1 := Aside0.mk hr1
  have HCC0 := Aside0.mk hc0
  have HCC1 := Aside0.mk hc1
  clear htab hr0 hr1 hc0 hc1
  obtain ⟨r0, hf0, hs0⟩ := fits2 l0
  obtain ⟨r1, hf1, hs1⟩ := fits2 l1
  have HF0 := Lib.hid hf0
  have HF1 := Lib.hid hf1
  have HS0 := Lib.hid hs0
  have HS1 := Lib.hid hs1
  clear hf0 hf1 hs0 hs1
  go_enter Tryz.func9, Tryz.ntmps9
  go_upto_region 1 with (fail)
  cases r0 with
  | false =>
    go_wp2_with (first
      | (go_at_call_has 11 A0; refine (laws_zzFits2.calls _ A0 c0 l0 false _ HR0.out HCC0.out HF0.out).mono ?_; rintro e w1_ ⟨rfl, hd⟩; have hb := hd.below; clear hd; replace HR0 := Aside0.mk (Kd.C_below HR0.out hb); replace HR1 := Aside0.mk (Kd.C_below HR1.out hb); have HBs1 := Aside0.mk hb; clear hb))
    go_ret
    exact ⟨rfl, HBs1.out⟩
  | true =>
    have hL0 := HS0.out rfl
    cases r1 with
    | false =>
      go_wp2_with (first
        | (go_at_call_has 11 A0; refine (laws_zzFits2.calls _ A0 c0 l0 true _ HR0.out HCC0.out HF0.out).mono ?_; rintro e w1_ ⟨rfl, hd⟩; have hb := hd.below; clear hd; replace HR0 := Aside0.mk (Kd.C_below HR0.out hb); replace HR1 := Aside0.mk (Kd.C_below HR1.out hb); have HBs1 := Aside0.mk hb; clear hb)
        | (go_at_call_has 11 A1; have hpre_ := HBs1; clear hpre_; refine (laws_zzFits2.calls _ A1 c1 l1 false _ HR1.out HCC1.out HF1.out).mono ?_; rintro e w2_ ⟨rfl, hd⟩; have hb := hd.below; clear hd; replace HR0 := Aside0.mk (Kd.C_below HR0.out hb); replace HR1 := Aside0.mk (Kd.C_below HR1.out hb); have HBs2 := Aside0.mk (below_then HBs1.out HBs1.out.size hb); clear HBs1 hb))
      go_ret
      exact ⟨rfl, HBs2.out⟩
    | true =>
      have hL1 := HS1.out rfl
      obtain ⟨D, hD⟩ : ∃ D, D = diffS l0 l1 := ⟨_, rfl⟩
      obtain ⟨U, hU⟩ : ∃ U, U = unionS l0 l1 := ⟨_, rfl⟩
      obtain ⟨M, hM⟩ : ∃ M, M = diffS l1 l0 := ⟨_, rfl⟩
      have hDL : D.length ≤ 2147483647 := by rw [hD]; exact Nat.le_trans (diffS_len _ _) hL0
      have hML : M.length ≤ 2147483647 := by rw [hM]; exact Nat.le_trans (diffS_len _ _) hL1
      have hUL : U.length ≤ 4294967294 := by rw [hU]; exact Nat.le_trans (unionS_len _ _) (by omega)
      have HSD := Lib.hid (show Ord.sortS D = D by rw [hD]; exact sort_diff _ _)
      have HSU := Lib.hid (show Ord.sortS U = U by rw [hU]; exact sort_union _ _)
      have HUM := Lib.hid (show unionS l0 M = U by rw [hM, hU]; exact union_diff _ _)
      have HDU := Lib.hid (show diffS l0 U = [] by rw [hU]; exact diff_union _ _)
      have HSTD := Lib.hid (sameT_f D (by omega))
      have HSTU := Lib.hid (sameT_f U (by omega))
      have HD := Lib.hid hD
      have HU := Lib.hid hU
      have HM := Lib.hid hM
      clear hD hU hM
      go_wp2_with (first
        | (go_at_call_has 11 A0; refine (laws_zzFits2.calls _ A0 c0 l0 true _ HR0.out HCC0.out HF0.out).mono ?_; rintro e w1_ ⟨rfl, hd⟩; have hb := hd.below; clear hd; replace HR0 := Aside0.mk (Kd.C_below HR0.out hb); replace HR1 := Aside0.mk (Kd.C_below HR1.out hb); have HBs1 := Aside0.mk hb; clear hb)
        | (go_at_call_has 11 A1; have hpre_ := HBs1; clear hpre_; refine (laws_zzFits2.calls _ A1 c1 l1 true _ HR1.out HCC1.out HF1.out).mono ?_; rintro e w2_ ⟨rfl, hd⟩; have hb := hd.below; clear hd; replace HR0 := Aside0.mk (Kd.C_below HR0.out hb); replace HR1 := Aside0.mk (Kd.C_below HR1.out hb); have HBs2 := Aside0.mk (below_then HBs1.out HBs1.out.size hb); clear HBs1 hb)
        | (go_at_call 43; have hpre_ := HBs2; clear hpre_; refine (impl_SetDiff A0 c0 l0 A1 c1 l1 _ HR0.out (by omega) HR1.out (by omega)).mono ?_; rintro e w3_ ⟨v, rfl, ho, hb⟩; rw [← HD.out] at ho; obtain ⟨A3, c3, rfl, hl3, hC3⟩ := Kd.R_reads ho; clear ho; replace HR0 := Aside0.mk (Kd.C_below HR0.out hb); replace HR1 := Aside0.mk (Kd.C_below HR1.out hb); have HC3 := Aside0.mk hC3; have HL3 := Aside0.mk hl3; clear hC3 hl3; have HBs3 := Aside0.mk (below_then HBs2.out HBs2.out.size hb); clear HBs2 hb)
        | (go_at_call 40; have hpre_ := HBs3; clear hpre_; refine (spec_Sorted A3 c3 D _ HC3.out HL3.out (by omega)).mono ?_; rintro e w4_ ⟨v, rfl, ho, hb⟩; rw [HSD.out] at ho; obtain ⟨A4, c4, rfl, hl4, hC4⟩ := Kd.R_reads ho; clear ho; clear HC3; replace HR0 := Aside0.mk (Kd.C_below HR0.out hb); replace HR1 := Aside0.mk (Kd.C_below HR1.out hb); have HC4 := Aside0.mk hC4; have HL4 := Aside0.mk hl4; clear hC4 hl4; have HBs4 := Aside0.mk (below_then HBs3.out HBs3.out.size hb); clear HBs3 hb)
        | (go_at_call 44; have hpre_ := HBs4; clear hpre_; refine (impl_SetUnion A0 c0 l0 A1 c1 l1 _ HR0.out (by omega) HR1.out (by omega) (by omega)).mono ?_; rintro e w5_ ⟨v, rfl, ho, hb⟩; rw [← HU.out] at ho; obtain ⟨A5, c5, rfl, hl5, hC5⟩ := Kd.R_reads ho; clear ho; replace HR0 := Aside0.mk (Kd.C_below HR0.out hb); replace HR1 := Aside0.mk (Kd.C_below HR1.out hb); replace HC4 := Aside0.mk (Kd.C_below HC4.out hb); have HC5 := Aside0.mk hC5; have HL5 := Aside0.mk hl5; clear hC5 hl5; have HBs5 := Aside0.mk (below_then HBs4.out HBs4.out.size hb); clear HBs4 hb)
        | (go_at_call 40; have hpre_ := HBs5; clear hpre_; refine (spec_Sorted A5 c5 U _ HC5.out HL5.out (by omega)).mono ?_; rintro e w6_ ⟨v, rfl, ho, hb⟩; rw [HSU.out] at ho; obtain ⟨A6, c6, rfl, hl6, hC6⟩ := Kd.R_reads ho; clear ho; clear HC5; replace HR0 := Aside0.mk (Kd.C_below HR0.out hb); replace HR1 := Aside0.mk (Kd.C_below HR1.out hb); replace HC4 := Aside0.mk (Kd.C_below HC4.out hb); have HC6 := Aside0.mk hC6; have HL6 := Aside0.mk hl6; clear hC6 hl6; have HBs6 := Aside0.mk (below_then HBs5.out HBs5.out.size hb); clear HBs5 hb)
        | (go_at_call 43; have hpre_ := HBs6; clear hpre_; refine (impl_SetDiff A1 c1 l1 A0 c0 l0 _ HR1.out (by omega) HR0.out (by omega)).mono ?_; rintro e w7_ ⟨v, rfl, ho, hb⟩; rw [← HM.out] at ho; obtain ⟨A7, c7, rfl, hl7, hC7⟩ := Kd.R_reads ho; clear ho; replace HR0 := Aside0.mk (Kd.C_below HR0.out hb); replace HR1 := Aside0.mk (Kd.C_below HR1.out hb); replace HC4 := Aside0.mk (Kd.C_below HC4.out hb); replace HC6 := Aside0.mk (Kd.C_below HC6.out hb); have HC7 := Aside0.mk hC7; have HL7 := Aside0.mk hl7; clear hC7 hl7; have HBs7 := Aside0.mk (below_then HBs6.out HBs6.out.size hb); clear HBs6 hb)
        | (go_at_call 44; have hpre_ := HBs7; clear hpre_; refine (impl_SetUnion A0 c0 l0 A7 c7 M _ HR0.out (by omega) HC7.out (by omega) (by omega)).mono ?_; rintro e w8_ ⟨v, rfl, ho, hb⟩; rw [HUM.out] at ho; obtain ⟨A8, c8, rfl, hl8, hC8⟩ := Kd.R_reads ho; clear ho; clear HC7; replace HR0 := Aside0.mk (Kd.C_below HR0.out hb); replace HR1 := Aside0.mk (Kd.C_below HR1.out hb); replace HC4 := Aside0.mk (Kd.C_below HC4.out hb); replace HC6 := Aside0.mk (Kd.C_below HC6.out hb); have HC8 := Aside0.mk hC8; have HL8 := Aside0.mk hl8; clear hC8 hl8; have HBs8 := Aside0.mk (below_then HBs7.out HBs7.out.size hb); clear HBs7 hb)
        | (go_at_call 40; have hpre_ := HBs8; clear hpre_; refine (spec_Sorted A8 c8 U _ HC8.out HL8.out (by omega)).mono ?_; rintro e w9_ ⟨v, rfl, ho, hb⟩; rw [HSU.out] at ho; obtain ⟨A9, c9, rfl, hl9, hC9⟩ := Kd.R_reads ho; clear ho; clear HC8; replace HR0 := Aside0.mk (Kd.C_below HR0.out hb); replace HR1 := Aside0.mk (Kd.C_below HR1.out hb); replace HC4 := Aside0.mk (Kd.C_below HC4.out hb); replace HC6 := Aside0.mk (Kd.C_below HC6.out hb); have HC9 := Aside0.mk hC9; have HL9 := Aside0.mk hl9; clear hC9 hl9; have HBs9 := Aside0.mk (below_then HBs8.out HBs8.out.size hb); clear HBs8 hb)
        | (go_at_call 45; have hpre_ := HBs9; clear hpre_; refine (spec_Diff A0 c0 l0 A1 c1 l1 _ HR0.out (by omega) HR1.out HCC1.out (by omega)).mono ?_; rintro e w10_ ⟨v, rfl, ho, hb⟩; rw [← HD.out] at ho; obtain ⟨A10, c10, rfl, hl10, hC10⟩ := Kd.R_reads ho; clear ho; replace HR0 := Aside0.mk (Kd.C_below HR0.out hb); replace HR1 := Aside0.mk (Kd.C_below HR1.out hb); replace HC4 := Aside0.mk (Kd.C_below HC4.out hb); replace HC6 := Aside0.mk (Kd.C_below HC6.out hb); replace HC9 := Aside0.mk (Kd.C_below HC9.out hb); have HC10 := Aside0.mk hC10; have HL10 := Aside0.mk hl10; clear hC10 hl10; have HBs10 := Aside0.mk (below_then HBs9.out HBs9.out.size hb); clear HBs9 hb)
        | (go_at_call 13; have hpre_ := HBs10; clear hpre_; refine (laws_sameTexts.calls _ A4 c4 D A10 c10 D true _ HC4.out HL4.out HC10.out HL10.out HSTD.out).mono ?_; rintro e w11_ ⟨rfl, hd⟩; have hb := hd.below; clear hd; clear HC4; clear HC10; replace HR0 := Aside0.mk (Kd.C_below HR0.out hb); replace HR1 := Aside0.mk (Kd.C_below HR1.out hb); replace HC6 := Aside0.mk (Kd.C_below HC6.out hb); replace HC9 := Aside0.mk (Kd.C_below HC9.out hb); have HBs11 := Aside0.mk (below_then HBs10.out HBs10.out.size hb); clear HBs10 hb)
        | (go_at_call 46; have hpre_ := HBs11; clear hpre_; refine (spec_Union A0 c0 l0 A1 c1 l1 _ HR0.out (by omega) HR1.out (by omega)).mono ?_; rintro e w12_ ⟨v, rfl, ho, hb⟩; rw [← HU.out] at ho; obtain ⟨A11, c11, rfl, hl11, hC11⟩ := Kd.R_reads ho; clear ho; replace HR0 := Aside0.mk (Kd.C_below HR0.out hb); replace HR1 := Aside0.mk (Kd.C_below HR1.out hb); replace HC6 := Aside0.mk (Kd.C_below HC6.out hb); replace HC9 := Aside0.mk (Kd.C_below HC9.out hb); have HC11 := Aside0.mk hC11; have HL11 := Aside0.mk hl11; clear hC11 hl11; have HBs12 := Aside0.mk (below_then HBs11.out HBs11.out.size hb); clear HBs11 hb)
        | (go_at_call 13; have hpre_ := HBs12; clear hpre_; refine (laws_sameTexts.calls _ A6 c6 U A11 c11 U true _ HC6.out HL6.out HC11.out HL11.out HSTU.out).mono ?_; rintro e w13_ ⟨rfl, hd⟩; have hb := hd.below; clear hd; clear HC11; replace HR0 := Aside0.mk (Kd.C_below HR0.out hb); replace HR1 := Aside0.mk (Kd.C_below HR1.out hb); replace HC6 := Aside0.mk (Kd.C_below HC6.out hb); replace HC9 := Aside0.mk (Kd.C_below HC9.out hb); have HBs13 := Aside0.mk (below_then HBs12.out HBs12.out.size hb); clear HBs12 hb)
        | (go_at_call 13; have hpre_ := HBs13; clear hpre_; refine (laws_sameTexts.calls _ A9 c9 U A6 c6 U true _ HC9.out HL9.out HC6.out HL6.out HSTU.out).mono ?_; rintro e w14_ ⟨rfl, hd⟩; have hb := hd.below; clear hd; clear HC9; replace HR0 := Aside0.mk (Kd.C_below HR0.out hb); replace HR1 := Aside0.mk (Kd.C_below HR1.out hb); replace HC6 := Aside0.mk (Kd.C_below HC6.out hb); have HBs14 := Aside0.mk (below_then HBs13.out HBs13.out.size hb); clear HBs13 hb)
        | (go_at_call 43; have hpre_ := HBs14; clear hpre_; refine (impl_SetDiff A0 c0 l0 A6 c6 U _ HR0.out (by omega) HC6.out (by omega)).mono ?_; rintro e w15_ ⟨v, rfl, ho, hb⟩; rw [HDU.out] at ho; obtain ⟨A12, c12, rfl, hl12, hC12⟩ := Kd.R_reads ho; clear ho; clear HR0; clear HR1; clear HC6; have HC12 := Aside0.mk hC12; have HL12 := Aside0.mk hl12; clear hC12 hl12; have HBs15 := Aside0.mk (below_then HBs14.out HBs14.out.size hb); clear HBs14 hb)
        | (go_at_call 16; have hpre_ := HBs15; clear hpre_; refine (laws_mapsAwake _ (HT.out _ HBs15.out)).mono ?_; rintro e w16_ ⟨rfl, hb⟩; replace HC12 := Aside0.mk (Kd.C_below HC12.out hb); have HBs16 := Aside0.mk (below_then HBs15.out HBs15.out.size hb); clear HBs15 hb))
      go_ret
      exact ⟨rfl, HBs16.out⟩
end Go.Proofs.YtcocmdbleicmcaaGreatDoor.M
