/- The walk of laws.FnSubstChain. -/
import Derived.Test.YtlncdacoefoldaaGreatDoorSubK
namespace Go.Proofs.YtlncdacoefoldaaGreatDoor.U
set_option linter.unusedVariables false
set_option linter.unusedSimpArgs false
set_option linter.unusedSectionVars false
open Go.RowKit Go.Proofs.YtlncdacoefoldaaGreatDoorW.PrintWords Go.Proofs.YtlncdacoefoldaaGreatDoorW.PrintLast Go.Proofs.YtlncdacoefoldaaGreatDoor.PX Go.Proofs.YtlncdacoefoldaaGreatDoor.L Go.Proofs.YtlncdacoefoldaaGreatDoor.M

theorem link_len (n x : Bs) : (link n x).length = n.length + x.length + 5 := by simp [link]; omega
theorem chain_len : ∀ (ns : List Bs) (w : Bs) (B : Nat), (∀ n ∈ ns, n.length ≤ B) → (chain ns w).length ≤ ns.length * (B + 5) + w.length
  | [], w, B, _ => by simp [chain]
  | n :: ns, w, B, h => by
    have ih := chain_len ns w B (fun m hm => h m (List.mem_cons_of_mem _ hm))
    have h0 := h n (by simp)
    rw [chain, link_len, List.length_cons, Nat.add_mul]
    omega
set_option maxHeartbeats 4000000 in
set_option maxRecDepth 100000 in
theorem law_chain_main (A0 : Option Addr) (c0 : Nat) (l0 : List ByteArray) (a : ByteArray) (A1 : Option Addr) (c1 : Nat) (l1 : List SP) (w : World) (hr0 : Kd.C Kd.string w A0 l0.length l0) (hc0 : l0.length ≤ c0) (hr1 : Kd.C k59 w A1 l1.length l1) (hc1 : l1.length ≤ c1)
    (hf0 : laws_zzFits2.f (l0.length + 1) l0 = some true) (hl0 : l0.length ≤ 2147483647) (hv0 : ∀ x ∈ l0, x.size ≤ 2147483647) (ha : a.size ≤ 2147483647) (hf1 : laws_zzFits3.f (l1.length + 1) l1 = some true) (hl1 : l1.length ≤ 2147483647) :
    Calls Tryz.prog 4 #[.slice A0 l0.length c0, .string a, .slice A1 l1.length c1] w fun e w' => e = .returned (.bool true) ∧ Below w.heap.size w w' := by
  have HR0 := Aside0.mk hr0
  have HR1 := Aside0.mk hr1
  have HC0 := Aside0.mk hc0
  have HC1 := Aside0.mk hc1
  have HF0 := Lib.hid hf0
  have HF1 := Lib.hid hf1
  have HVV := Lib.hid (fits3_vals l1 hf1)
  have HV0 := Lib.hid hv0
  clear hr0 hr1 hc0 hc1 hf0 hf1 hv0
  have ha' : ¬ (2147483647 : Int) < (a.size : Int) := by omega
  obtain ⟨b, hb⟩ : ∃ b, b = fitP l1 := ⟨_, rfl⟩
  have hbL : b.length ≤ 2147483647 := by rw [hb]; exact Nat.le_trans (Ord.fit_length l1) hl1
  have HBV : Hid (∀ x ∈ b, x.f1.size ≤ 2147483647) := Lib.hid (by rw [hb]; exact fun x hx => HVV.out x (fitP_sub l1 x hx))
  have HBE := Lib.hid hb
  clear hb
  have HPL := Lib.hid (plain_l a (by omega))
  obtain ⟨W0, hW0⟩ : ∃ W0, W0 = a.data.toList.filter plainB := ⟨_, rfl⟩
  rw [← hW0] at HPL
  have HWP : Hid (Plain W0 ∧ W0.length ≤ 2147483647) := Lib.hid (by rw [hW0]; exact ⟨plain_is _, Nat.le_trans (List.length_filter_le _ _) (by rw [Array.length_toList]; exact ha)⟩)
  clear hW0
  obtain ⟨ns, hns⟩ : ∃ ns, ns = (l0.take 200).map (fun s => nameOf s.data.toList) := ⟨_, rfl⟩
  obtain ⟨m, hm⟩ : ∃ m, m = ns.length := ⟨_, rfl⟩
  have hml : m = min l0.length 200 := by rw [hm, hns, List.length_map, List.length_take, Nat.min_comm]
  have HNN : Hid (∀ n ∈ ns, Name n ∧ n.length ≤ 2147483648) := Lib.hid (by
    rw [hns]
    intro n hn
    obtain ⟨s, hs, rfl⟩ := List.mem_map.1 hn
    have h1 := HV0.out s (List.mem_of_mem_take hs)
    have h2 := nameOf_len s.data.toList
    rw [Array.length_toList] at h2
    exact ⟨nameOf_is _, Nat.le_trans h2 (by show s.size + 1 ≤ _; omega)⟩)
  have HNG : Hid (∀ j, j < m → ∃ s, l0[j]? = some s ∧ ns[j]? = some (nameOf s.data.toList)) := Lib.hid (by
    intro j hj
    have hj0 : j < l0.length := by omega
    refine ⟨l0[j], List.getElem?_eq_getElem hj0, ?_⟩
    rw [hns, List.getElem?_map, List.getElem?_take, if_pos (by omega), List.getElem?_eq_getElem hj0]
    rfl)
  have HML := Lib.hid hm
  have hm200 : m ≤ 200 := by omega
  have hmint : ((min l0.length 200 : Nat) : Int) = (m : Int) := by rw [hml]
  clear hns hm
  obtain ⟨E, hE⟩ : ∃ E, E = envP (b.map sI) := ⟨_, rfl⟩
  have HE : Hid (∀ n, E n = (lastP b (mk n)).map (fun x => x.f1.data.toList)) := Lib.hid (fun n => by rw [hE]; exact envP_last b n)
  have HTO := Lib.hid (to_f b (by omega))
  obtain ⟨bi, hbi⟩ : ∃ bi, bi = b.map sI := ⟨_, rfl⟩
  have hmL : bi.length ≤ 2147483647 := by rw [hbi, List.length_map]; exact hbL
  rw [← hbi] at HTO hE
  have HVE : Hid (∀ n v, E n = some v → v.length ≤ 2147483647) := Lib.hid (fun n v hv => by
    rw [HE.out n] at hv
    cases e : lastP b (mk n) with
    | none => rw [e] at hv; cases hv
    | some x =>
      rw [e] at hv
      injection hv with hv
      rw [← hv, Array.length_toList]
      exact HBV.out x (last_mem e))
  have HSC := sub_chain E ns W0 201 (fun n hn => (HNN.out n hn).1) HWP.out.1 (by rw [← HML.out]; omega) (by have := HWP.out.2; unfold LIM; omega) (fun n _ v hv => by have := HVE.out n v hv; unfold LIM; omega)
  have HCL : Hid (∀ j, (mk (chain (ns.drop j) W0)).size ≤ 1099511627776) := Lib.hid (fun j => by
    have h1 := chain_len (ns.drop j) W0 2147483648 (fun n hn => (HNN.out n (List.mem_of_mem_drop hn)).2)
    have h2 : (ns.drop j).length ≤ 200 := by rw [List.length_drop, ← HML.out]; omega
    have h3 := Nat.mul_le_mul_right (2147483648 + 5) h2
    have h4 := HWP.out.2
    rw [mk_size]
    omega)
  have HSU := Lib.hid (fun A0 c0 (W : World) hr0 hc0 => impl_subst A0 c0 bi (chain ns W0) (want E ns W0) 201 W hr0 hc0 (by omega) (by have := HCL.out 0; rw [List.drop_zero, mk_size] at this; omega) (by rw [← hE]; exact HSC.1))
  clear HSC hE hbi
  go_enter Tryz.func4, Tryz.ntmps4
  go_wp2_with (first
    | (go_at_call 20; refine (laws_zzFits2.calls _ A0 c0 l0 true _ HR0.out HC0.out HF0.out).mono ?_; rintro e w' ⟨rfl, ⟨nd, rfl⟩⟩)
    | (go_at_call 11; refine (laws_zzFits3.calls _ A1 c1 l1 true _ (Kd.C_below HR1.out (pw_below_drewN (Below.refl _ _) _)) HC1.out HF1.out).mono ?_; rintro e w1 ⟨rfl, hb1⟩; have HB1 : Aside0 (Below w.heap.size w w1) := Aside0.mk (below_unN hb1); clear hb1)
    | (go_at_call 12; refine (spec_FitPairs A1 c1 l1 _ (Kd.C_below HR1.out HB1.out) HC1.out (by omega)).mono ?_; rw [← HBE.out]; rintro e w3 ⟨v, rfl, ho, hb3⟩; obtain ⟨A3, c3, rfl, hc3, hC3⟩ := Kd.R_reads ho; have HCC3 := Aside0.mk hC3; have HLL3 := Aside0.mk hc3; have HB3 := Aside0.mk (below_then HB1.out HB1.out.size hb3); clear ho hb3 hC3 hc3)
    | (go_at_call 21; refine (spec_SubstPlain.calls _ a _ _ HPL.out).mono ?_; rintro e w4 ⟨rfl, hb4⟩; have HB4 := Aside0.mk (below_then HB3.out HB3.out.size hb4); have HCC4 := Aside0.mk (Kd.C_below HCC3.out hb4); clear hb4))
  go_loopw [7, 8, 9] (fun v7 v8 v9 wr => ∃ j : Nat, j ≤ m ∧ v9 = .int .i64 ((j : Int) - 1) ∧ v7 = .string (mk (want E (ns.drop j) W0)) ∧ v8 = .string (mk (chain (ns.drop j) W0)) ∧ Aside0 (Below w.heap.size w wr) ∧ Aside0 (Kd.C k59 wr A3 b.length b)) (fun _ _ v9 _ => (intOf v9 + 1).toNat)
  case atStart =>
    refine ⟨m, Nat.le_refl _, by congr 1; omega, ?_, ?_, HB4, HCC4⟩
    · rw [HML.out, List.drop_length]; rfl
    · rw [HML.out, List.drop_length]; rfl
  case round =>
    obtain ⟨j, hj, rfl, rfl, rfl, HBj, HCj⟩ := hrel
    by_cases hj0 : 0 < j
    · obtain ⟨jj, rfl⟩ : ∃ jj, j = jj + 1 := ⟨j - 1, by omega⟩
      have e1 : ((jj + 1 : Nat) : Int) - 1 = (jj : Int) := by omega
      simp only [e1]
      have hlt : jj < l0.length := by omega
      obtain ⟨ad0, rfl, hx0⟩ := Kd.at_string HR0.out (jj : Int) (by omega) (by omega)
      replace hx0 := (HBj.out.cell (World.block_lt_of_cell? w _ hx0)).trans hx0
      simp only [Int.toNat_natCast] at hx0
      obtain ⟨x, hx⟩ : ∃ x, x = l0[jj] := ⟨_, rfl⟩
      have hx' : rdOf ByteArray.empty l0 (jj : Int) = x := by rw [hx]; simp [rdOf, List.getD_eq_getElem?_getD, List.getElem?_eq_getElem hlt]
      rw [hx'] at hx0
      obtain ⟨s, hs1, hs2⟩ := HNG.out jj (by omega)
      have hsx : s = x := by rw [List.getElem?_eq_getElem hlt, ← hx] at hs1; injection hs1 with h; exact h.symm
      rw [hsx] at hs2
      have hxs := HV0.out x (by rw [hx]; exact List.getElem_mem _)
      have HNM := Lib.hid (subname_l x (by omega))
      obtain ⟨n, hn⟩ : ∃ n, n = nameOf x.data.toList := ⟨_, rfl⟩
      rw [← hn] at hs2 HNM
      have hdrop : ns.drop jj = n :: ns.drop (jj + 1) := by
        obtain ⟨h1, h2⟩ := List.getElem?_eq_some_iff.1 hs2
        rw [List.drop_eq_getElem_cons h1, h2]
      have hnl := (HNN.out n (List.mem_of_mem_drop (i := jj) (by rw [hdrop]; simp))).2
      have HTT : Hid (mk (chain (ns.drop jj) W0) = ⟨#[36, 123]⟩ ++ mk n ++ ⟨#[58, 45]⟩ ++ mk (chain (ns.drop (jj + 1)) W0) ++ ⟨#[125]⟩) := Lib.hid (by
        rw [hdrop]; apply data_inj; simp [chain, link, mk_data])
      have hTl := HCL.out (jj + 1)
      have HWW : Hid (mk (want E (ns.drop jj) W0) = if (lookAns (lastP b (mk n))).2 = true ∧ (lookAns (lastP b (mk n))).1.toList ≠ [] then (lookAns (lastP b (mk n))).1 else mk (want E (ns.drop (jj + 1)) W0)) := Lib.hid (by
        rw [hdrop, want, HE.out n]
        cases e : lastP b (mk n) with
        | none => simp [lookAns]
        | some y =>
          have hyl : y.f1.toList = y.f1.data.toList := Lib.toList_data _
          by_cases hy : y.f1.data.toList = []
          · simp [lookAns, hyl, hy]
          · simp only [Option.map_some, lookAns, hyl, if_neg hy]
            rw [if_pos ⟨trivial, hy⟩, mk_of])
      have HLK := Lib.hid (look_l b (mk n) (by omega))
      have hnz : (mk n).size = n.length := mk_size n
      generalize mk (chain (ns.drop (jj + 1)) W0) = T at *
      generalize mk (want E (ns.drop (jj + 1)) W0) = V at *
      generalize mk n = xn at *
      clear hdrop hs1 hs2 hsx hx hx' hn hml hmint
      obtain ⟨y, ok, hyo⟩ : ∃ y ok, lookAns (lastP b xn) = (y, ok) := ⟨_, _, rfl⟩
      rw [hyo] at HLK HWW
      clear hyo
      have s1 : ¬ 9223372036854775807 < 2 + xn.size := by omega
      have s2 : ¬ 9223372036854775807 < 2 + xn.size + 2 := by omega
      have s3 : ¬ 9223372036854775807 < 2 + xn.size + 2 + T.size := by omega
      have s4 : ¬ 9223372036854775807 < 2 + xn.size + 2 + T.size + 1 := by omega
      cases ok with
      | false =>
        have HV2 : Hid (mk (want E (ns.drop jj) W0) = V) := Lib.hid (by rw [HWW.out]; simp)
        clear HWW
        go_wp2_with (first
          | (go_at_call 13; refine (spec_SubstName.calls _ x _ _ HNM.out).mono ?_; rintro e w5 ⟨rfl, hb5⟩; have HB5 := Aside0.mk (below_then HBj.out HBj.out.size hb5); have HC5 := Aside0.mk (Kd.C_below HCj.out hb5); clear hb5)
          | (go_at_call 22; refine (spec_Look.calls _ A3 c3 b xn y false _ HC5.out HLL3.out HLK.out).mono ?_; rintro e w6 ⟨rfl, hd⟩; have HB6 := Aside0.mk (below_then HB5.out HB5.out.size hd.below); have HC6 := Aside0.mk (Kd.C_below HC5.out hd.below); clear hd))
        go_roundw
        case rel => exact ⟨jj, by omega, by go_num, by rw [HV2.out], by rw [HTT.out], HB6, HC6⟩
        case measure => first | (simp [intOf]; done) | (simp [intOf]; omega)
      | true =>
        by_cases hy : y.toList = []
        · have HV2 : Hid (mk (want E (ns.drop jj) W0) = V) := Lib.hid (by rw [HWW.out]; simp [hy])
          clear HWW
          have hye : y = ⟨#[]⟩ := by
            apply data_inj
            rw [← Lib.toList_data, hy]
          subst hye
          clear hy
          go_wp2_with (first
            | (go_at_call 13; refine (spec_SubstName.calls _ x _ _ HNM.out).mono ?_; rintro e w5 ⟨rfl, hb5⟩; have HB5 := Aside0.mk (below_then HBj.out HBj.out.size hb5); have HC5 := Aside0.mk (Kd.C_below HCj.out hb5); clear hb5)
            | (go_at_call 22; refine (spec_Look.calls _ A3 c3 b xn _ true _ HC5.out HLL3.out HLK.out).mono ?_; rintro e w6 ⟨rfl, hd⟩; have HB6 := Aside0.mk (below_then HB5.out HB5.out.size hd.below); have HC6 := Aside0.mk (Kd.C_below HC5.out hd.below); clear hd))
          go_roundw
          case rel => exact ⟨jj, by omega, by go_num, by rw [HV2.out], by rw [HTT.out], HB6, HC6⟩
          case measure => first | (simp [intOf]; done) | (simp [intOf]; omega)
        · have HV2 : Hid (mk (want E (ns.drop jj) W0) = y) := Lib.hid (by rw [HWW.out, if_pos ⟨rfl, hy⟩])
          clear HWW
          have hy2 : (y.toList == []) = false := by simpa using hy
          have hy3 : y.toList.isEmpty = false := by simpa using hy
          go_wp2_with (first
            | (go_at_call 13; refine (spec_SubstName.calls _ x _ _ HNM.out).mono ?_; rintro e w5 ⟨rfl, hb5⟩; have HB5 := Aside0.mk (below_then HBj.out HBj.out.size hb5); have HC5 := Aside0.mk (Kd.C_below HCj.out hb5); clear hb5)
            | (go_at_call 22; refine (spec_Look.calls _ A3 c3 b xn y true _ HC5.out HLL3.out HLK.out).mono ?_; rintro e w6 ⟨rfl, hd⟩; have HB6 := Aside0.mk (below_then HB5.out HB5.out.size hd.below); have HC6 := Aside0.mk (Kd.C_below HC5.out hd.below); clear hd))
          go_roundw
          case rel => exact ⟨jj, by omega, by go_num, by rw [HV2.out], by rw [HTT.out], HB6, HC6⟩
          case measure => first | (simp [intOf]; done) | (simp [intOf]; omega)
    · obtain rfl : j = 0 := by omega
      rw [List.drop_zero]
      go_wp2_with (first
        | (go_at_call 23; refine (laws_pairsTo.calls _ A3 c3 b bi _ HCj.out HLL3.out HTO.out).mono ?_; rintro e w5 ⟨v, rfl, ho, hb5⟩; obtain ⟨A4, c4, rfl, hc4, hC4⟩ := Kd.R_reads ho; have HCC5 := Aside0.mk hC4; have HLL5 := Aside0.mk hc4; have HB5 := Aside0.mk (below_then HBj.out HBj.out.size hb5); clear ho hb5 hC4 hc4)
        | (go_at_call 18; refine (HSU.out A4 c4 _ HCC5.out HLL5.out).mono ?_; rintro e w6 ⟨rfl, hb6⟩; have HB6 := Aside0.mk (below_then HB5.out HB5.out.size hb6); clear hb6)
        | (go_at_call 16; refine (laws_lives _).mono ?_; rintro e w7 ⟨rfl, hb7⟩; have HB7 := Aside0.mk (below_then HB6.out HB6.out.size hb7); clear hb7))
      go_ret
      exact ⟨rfl, HB7.out⟩
theorem law_FnSubstChain (A0 : Option Addr) (c0 : Nat) (l0 : List ByteArray) (a : ByteArray) (A1 : Option Addr) (c1 : Nat) (l1 : List SP) (w : World) (hr0 : Kd.C Kd.string w A0 l0.length l0) (hc0 : l0.length ≤ c0) (hr1 : Kd.C k59 w A1 l1.length l1) (hc1 : l1.length ≤ c1) :
    Calls Tryz.prog 4 #[.slice A0 l0.length c0, .string a, .slice A1 l1.length c1] w fun e w' => e = .returned (.bool true) ∧ Below w.heap.size w w' := by
  obtain ⟨r0, hf0, hs0⟩ := fits2 l0
  obtain ⟨r1, hf1, hs1⟩ := fits3 l1
  cases r0 with
  | false =>
    have HF0 := Lib.hid hf0
    have HR0 := Aside0.mk hr0
    have HC0 := Aside0.mk hc0
    clear hf0 hs0 hf1 hs1 hr0 hc0 hr1 hc1
    go_enter Tryz.func4, Tryz.ntmps4
    go_wp2_with (go_at_call 20; refine (laws_zzFits2.calls _ A0 c0 l0 false _ HR0.out HC0.out HF0.out).mono ?_; rintro e w' ⟨rfl, ⟨nd, rfl⟩⟩)
    go_ret
    exact ⟨rfl, pw_below_drewN (Below.refl _ _) _⟩
  | true =>
    by_cases ha : (2147483647 : Int) < (a.size : Int)
    · have HF0 := Lib.hid hf0
      have HR0 := Aside0.mk hr0
      have HC0 := Aside0.mk hc0
      clear hf0 hs0 hf1 hs1 hr0 hc0 hr1 hc1
      go_enter Tryz.func4, Tryz.ntmps4
      go_wp2_with (go_at_call 20; refine (laws_zzFits2.calls _ A0 c0 l0 true _ HR0.out HC0.out HF0.out).mono ?_; rintro e w' ⟨rfl, ⟨nd, rfl⟩⟩)
      go_ret
      exact ⟨rfl, pw_below_drewN (Below.refl _ _) _⟩
    · cases r1 with
      | false =>
        have HF0 := Lib.hid hf0
        have HF1 := Lib.hid hf1
        have HR0 := Aside0.mk hr0
        have HR1 := Aside0.mk hr1
        have HC0 := Aside0.mk hc0
        have HC1 := Aside0.mk hc1
        clear hf0 hs0 hf1 hs1 hr0 hc0 hr1 hc1
        go_enter Tryz.func4, Tryz.ntmps4
        go_wp2_with (first
          | (go_at_call 20; refine (laws_zzFits2.calls _ A0 c0 l0 true _ HR0.out HC0.out HF0.out).mono ?_; rintro e w' ⟨rfl, ⟨nd, rfl⟩⟩)
          | (go_at_call 11; refine (laws_zzFits3.calls _ A1 c1 l1 false _ (Kd.C_below HR1.out (pw_below_drewN (Below.refl _ _) _)) HC1.out HF1.out).mono ?_; rintro e w1 ⟨rfl, hb1⟩; have HB1 : Aside0 (Below w.heap.size w w1) := Aside0.mk (below_unN hb1); clear hb1))
        go_ret
        exact ⟨rfl, HB1.out⟩
      | true => exact law_chain_main A0 c0 l0 a A1 c1 l1 w hr0 hc0 hr1 hc1 hf0 (hs0 rfl).1 (hs0 rfl).2 (by omega) hf1 (hs1 rfl)
end Go.Proofs.YtlncdacoefoldaaGreatDoor.U
