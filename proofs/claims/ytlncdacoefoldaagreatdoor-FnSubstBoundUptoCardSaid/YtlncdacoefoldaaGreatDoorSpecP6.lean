/- The walk of spec.substOne where a brace stands behind the dollar (printed by gen_speco.py). -/
import Derived.Test.YtlncdacoefoldaaGreatDoorMrg4
namespace Go.Proofs.YtlncdacoefoldaaGreatDoor.U
set_option linter.unusedVariables false
set_option linter.unusedSimpArgs false
set_option linter.unusedSectionVars false
open Go.RowKit Go.Proofs.YtlncdacoefoldaaGreatDoorW.PrintWords Go.Proofs.YtlncdacoefoldaaGreatDoorW.PrintLast Go.Proofs.YtlncdacoefoldaaGreatDoor.PX Go.Proofs.YtlncdacoefoldaaGreatDoor.L Go.Proofs.YtlncdacoefoldaaGreatDoor.M

set_option maxHeartbeats 40000000 in
set_option maxRecDepth 100000 in
theorem word_t_63 (E : Env) (m : Nat) (A1 : Option Addr) (c1 : Nat) (b : List SP) (s : ByteArray) (x a y : Nat) (w : World) (hr1 : Kd.C k59 w A1 b.length b) (hc1 : b.length ≤ c1) (hb : b.length ≤ 2147483647) (hE : ∀ n, E n = (lastP b (mk n)).map (fun x => x.f1.data.toList))
    (ha : a = x + 1) (hx : a < s.size) (hsz : s.size ≤ 17592186044416) (hm : s.size ≤ m) (hy : y = x + 2) (d : UInt8) (hd : d = 123) (r : Bs) (hq : D s a = d :: r)
    (hf2 : far r = false) (hf3 : far (r.drop (subE r)) = false) (hz : ¬ (subE r = 0 ∨ r.length = subE r)) (q : UInt8) (qs : Bs) (hqq : r.drop (subE r) = q :: qs) (hc2 : q = 58) (g : UInt8) (ws : Bs) (hqs : qs = g :: ws) (hsg : g = 63)
    (hsub : ∀ (t : ByteArray) (W : World), t.size < m → t.size < s.size → Below w.heap.size w W → Calls Tryz.prog 14 #[.string t, .slice A1 b.length c1] W fun e w' => ∃ out cls said, e = .returned (.tuple #[.string out, .int .i64 cls, .bool said]) ∧ SaidS (subS E m t.data.toList) out cls said ∧ Below W.heap.size W w') :
    Calls Tryz.prog 33 #[.string s, .int .i64 x, .slice A1 b.length c1] w fun e w' => ∃ val en cls said, e = .returned (.tuple #[.string val, .int .i64 en, .int .i64 cls, .bool said]) ∧ SaidO x (oneS (subS E m) E (d :: r)) val en cls said ∧ Below w.heap.size w w' := by
  have HSUB := Lib.hid hsub
  have HC1 := Aside0.mk hc1
  have HR1 := Aside0.mk hr1
  have HE := Lib.hid hE
  have HSIZ := Lib.hid hsz
  have HM := Lib.hid hm
  have HBL := Lib.hid hb
  have w1 : wrap64 ((x : Int) + 1) = (a : Int) := by rw [ha]; exact (wrB x (by omega)).1
  have HAE : Hid ((a : Int) = ((x + 1 + 0 : Nat) : Int)) := Lib.hid (by rw [ha])
  have HAE2 : Hid (wrap64 ((x : Int) + 1) = ((x + 1 + 0 : Nat) : Int)) := Lib.hid (by rw [w1, ha])
  have w2 : wrap64 ((x : Int) + 2) = (y : Int) := by rw [hy]; exact (wrB x (by omega)).2.1
  have hyD : D s y = r := by rw [hy, show x + 2 = a + 1 from congrArg (· + 1) ha.symm]; exact (D_cons hq).2.2
  have hne : ¬ (a : Int) = (s.size : Int) := by omega
  have hcd : (d.toNat : Int) = 123 := by rw [hd]; rfl
  have hg : s[a]'hx = d := by
    have := (D_cons hq).2.1
    unfold bt at this
    rw [dif_pos (by simpa using hx)] at this
    exact (u8 _ _).2 (Int.natCast_inj.1 this)
  have i0 : (0 : Int) ≤ (a : Int) := by omega
  have i1 : (a : Int) < (s.size : Int) := by omega
  have hse : subE (d :: r) = 0 := by rw [hd]; simp [subE, show isL 123 = false by decide]
  have HEND := Lib.hid (end_s s hsz a)
  have HFAR := Lib.hid (fun y : Nat => far_s s y)
  have HF1 : Hid (spec_substFar.f s (a : Int) = some false) := Lib.hid (by rw [HFAR.out, hq, hd]; rfl)
  have HF2 : Hid (spec_substFar.f s (y : Int) = some false) := Lib.hid (by rw [HFAR.out, hyD, hf2])
  have HEND2 := Lib.hid (end_s s hsz y)
  rw [hq, hse] at HEND
  rw [Nat.add_zero] at HEND
  rw [hyD] at HEND2
  have HYL : Hid (r.length = s.size - y) := Lib.hid (by rw [← hyD]; exact D_len s y)
  have hyl := HYL.out
  have hk2 := subE_le r
  obtain ⟨k2, hk2e⟩ : ∃ k2, k2 = subE r := ⟨_, rfl⟩
  rw [← hk2e] at HEND2 hk2
  have HONE : Hid (oneS (subS E m) E (d :: r) = if far r = true then none else (bracedS (subS E m) E r).map (fun p => (p.1, (if p.2.1 = 0 then 0 else p.2.1 + 1), p.2.2))) := Lib.hid (by
    rw [hd] at hse ⊢
    rw [oneS, if_neg (show ¬ (123 : UInt8) = 36 by decide), hse]
    cases far r <;> simp [far])
  obtain ⟨e2, he2⟩ : ∃ e2, e2 = y + k2 := ⟨_, rfl⟩
  rw [← he2] at HEND2
  have hD2 : D s e2 = r.drop k2 := by rw [he2, D_add, hyD]
  rw [← hk2e] at hf3 hz hqq
  have HF3 : Hid (spec_substFar.f s (e2 : Int) = some false) := Lib.hid (by rw [HFAR.out, hD2, hf3])
  have HFF := Lib.hid hf3
  have HQQ := Lib.hid hqq
  have HZ := Lib.hid hz
  have HFZ := Lib.hid hf2
  have HSG := Lib.hid hsg
  have HC58 := Lib.hid hc2
  have HQS := Lib.hid hqs
  have hyx : y ≤ s.size := by omega
  have HHE2 : Hid (e2 = y + k2 ∧ k2 ≤ r.length ∧ y ≤ s.size ∧ y = x + 2 ∧ a = x + 1 ∧ a < s.size) := Lib.hid ⟨he2, hk2, hyx, hy, ha, hx⟩
  have HK2 := Lib.hid hk2e
  have HD2 := Lib.hid hD2
  have HYD := Lib.hid hyD
  clear hf2 hf3 hz hqq hsg hc2 hqs
  clear hsub hc1 hr1 hE hsz hm hb ha hy hq hd hyD hse hyl hk2 hk2e he2 hD2 hyx
  replace HONE : Hid (oneS (subS E m) E (d :: r) = (bracedS (subS E m) E r).map (fun p => (p.1, (if p.2.1 = 0 then 0 else p.2.1 + 1), p.2.2))) := Lib.hid (by rw [HONE.out, HFZ.out]; rfl)
  have hz1 : ¬ (e2 : Int) = (y : Int) := by have := HHE2.out; have := HZ.out; omega
  have hz2 : ¬ (e2 : Int) = (s.size : Int) := by have := HHE2.out; have := HYL.out; have := HZ.out; omega
  have hz1b : ((e2 : Int) == (y : Int)) = false := by simpa using hz1
  have hz2b : ((e2 : Int) == (s.size : Int)) = false := by simpa using hz2
  have h2 := D_cons (HD2.out.trans HQQ.out)
  have hl2 : e2 < s.size := h2.1
  have hg2 : s[e2]'hl2 = q := by
    have := h2.2.1
    unfold bt at this
    rw [dif_pos (by simpa using hl2)] at this
    exact (u8 _ _).2 (Int.natCast_inj.1 this)
  have HDQ := Lib.hid h2.2.2
  have j0 : (0 : Int) ≤ (e2 : Int) := by omega
  have j1 : (e2 : Int) < (s.size : Int) := by omega
  have j2 : (y : Int) ≤ (e2 : Int) := by have := HHE2.out; omega
  obtain ⟨e3, he3⟩ : ∃ e3, e3 = e2 + 1 := ⟨_, rfl⟩
  have w3 : wrap64 ((e2 : Int) + 1) = (e3 : Int) := by rw [he3]; have := HSIZ.out; exact (wrB e2 (by omega)).1
  have hex : s.extract y e2 = mk (r.take k2) := by
    rw [ext_D, HYD.out, HHE2.out.1, Nat.add_sub_cancel_left]
  have HLK := Lib.hid (look_l b (s.extract y e2) HBL.out)
  have HEV : Hid (E (r.take k2) = (lastP b (s.extract y e2)).map (fun x => x.f1.data.toList)) := Lib.hid (by rw [hex]; exact HE.out _)
  obtain ⟨lk, hlk⟩ : ∃ lk, lk = lastP b (s.extract y e2) := ⟨_, rfl⟩
  rw [← hlk] at HLK HEV
  have HE3 := Lib.hid he3
  clear h2 he3 hlk hex
  rcases hyy : lookAns lk with ⟨yv, yb⟩
  rw [hyy] at HLK
  have HYY := Lib.hid hyy
  clear hyy
  have hc58 : (q.toNat : Int) = 58 := (q58 q).2 HC58.out
  have HDR : Hid (D s (e2 + 1) = g :: ws) := Lib.hid (HDQ.out.trans HQS.out)
  have h3 := D_cons HDR.out
  rw [← HE3.out] at h3
  have hl3 : e3 < s.size := h3.1
  have hg3 : s[e3]'hl3 = g := by
    have := h3.2.1
    unfold bt at this
    rw [dif_pos (by simpa using hl3)] at this
    exact (u8 _ _).2 (Int.natCast_inj.1 this)
  have HDW := Lib.hid h3.2.2
  have l0 : (0 : Int) ≤ (e3 : Int) := by omega
  have l1 : (e3 : Int) < (s.size : Int) := by omega
  have l2 : ¬ (e3 : Int) = (s.size : Int) := by omega
  have l2b : ((e3 : Int) == (s.size : Int)) = false := by simpa using l2
  clear h3
  have HWD : Hid (oneS (subS E m) E (d :: r) = (wordS (subS E m) (E (r.take k2)) true g ws).map (fun p => (p.1, (if p.2.1 = 0 then 0 else k2 + 2 + p.2.1 + 1), p.2.2))) := Lib.hid (by
    rw [HONE.out, bracedS, ← HK2.out, if_neg (by rw [HFF.out]; decide), if_neg HZ.out, HQQ.out]
    simp only []
    rw [if_neg (by rw [HC58.out]; decide), if_pos HC58.out, HQS.out]
    simp only []
    rw [if_pos (show isS g = true by rw [HSG.out]; decide)]
    cases wordS (subS E m) (E (r.take k2)) true g ws with
    | none => rfl
    | some p => by_cases hp : p.2.1 = 0 <;> simp [hp])
  have hsg := HSG.out
  go_enter Tryz.func33, Tryz.ntmps33
  go_wp2_with fail
  refine (spec_substEnd.calls _ s _ _ _ HEND.out).mono ?_
  rintro e W1 ⟨rfl, hd⟩
  have HB1 : Aside0 (Below w.heap.size w W1) := Aside0.mk hd.below
  clear hd
  go_wp2_with fail
  refine (spec_substFar.calls s _ _ _ HF1.out).mono ?_
  rintro e W2 ⟨rfl, hd⟩
  have HB2 : Aside0 (Below w.heap.size w W2) := Aside0.mk (below_then HB1.out HB1.out.size hd.below)
  clear hd HB1
  go_wp2_with fail
  refine (spec_substFar.calls s _ _ _ HF2.out).mono ?_
  rintro e W3 ⟨rfl, hd⟩
  have HB3 : Aside0 (Below w.heap.size w W3) := Aside0.mk (below_then HB2.out HB2.out.size hd.below)
  clear hd HB2
  go_wp2_with fail
  refine (spec_substEnd.calls _ s _ _ _ HEND2.out).mono ?_
  rintro e W4 ⟨rfl, hd⟩
  have HB4 : Aside0 (Below w.heap.size w W4) := Aside0.mk (below_then HB3.out HB3.out.size hd.below)
  clear hd HB3
  go_wp2_with fail
  refine (spec_substFar.calls s _ _ _ HF3.out).mono ?_
  rintro e W5 ⟨rfl, hd⟩
  have HB5 : Aside0 (Below w.heap.size w W5) := Aside0.mk (below_then HB4.out HB4.out.size hd.below)
  clear hd HB4
  go_wp2_with fail
  refine (spec_Look.calls _ A1 c1 b (s.extract y e2) _ _ _ (Kd.C_below HR1.out HB5.out) HC1.out HLK.out).mono ?_
  rintro e W6 ⟨rfl, hd⟩
  have HB6 : Aside0 (Below w.heap.size w W6) := Aside0.mk (below_then HB5.out HB5.out.size hd.below)
  clear hd HB5
  have hcg : (g.toNat : Int) = 63 := (q63 g).2 hsg
  have HG0 := Lib.hid hsg
  clear hsg
  obtain ⟨e4, he4⟩ : ∃ e4, e4 = e3 + 1 := ⟨_, rfl⟩
  have w4 : wrap64 ((e3 : Int) + 1) = (e4 : Int) := by rw [he4]; have := HSIZ.out; exact (wrB e3 (by omega)).1
  have hw4 : D s e4 = ws := by rw [he4]; exact HDW.out
  have hle4 : e4 ≤ s.size := by rw [he4]; exact hl3
  obtain ⟨cv, hcv, hic⟩ := close_s s HSIZ.out e4 hle4
  clear hle4
  rw [hw4] at hic
  have HCL := Lib.hid hcv
  have HIC := Lib.hid hic
  have HD4 := Lib.hid (D_len s e4)
  rw [hw4] at HD4
  have HW4 := Lib.hid hw4
  have HE4 := Lib.hid he4
  clear hcv hic he4 hw4
  obtain ⟨cz, cb⟩ := cv
  go_wp2_with fail
  refine (spec_substClose.calls _ s _ _ _ _ HCL.out).mono ?_
  rintro e W7 ⟨rfl, hd⟩
  have HB7 : Aside0 (Below w.heap.size w W7) := Aside0.mk (below_then HB6.out HB6.out.size hd.below)
  clear hd HB6
  cases hcl : closeS ws 0 false with
  | none =>
    have hic := HIC.out
    rw [hcl] at hic
    have HS : Hid (oneS (subS E m) E (d :: r) = none) := Lib.hid (by rw [HWD.out, wordS, hcl]; rfl)
    obtain rfl : cb = false := hic
    clear hcl
    go_wp2
    refine bodyPost_ret (by simp [results, Tryz.results33, go_sem]; try rfl) rfl ?_
    exact ⟨_, _, _, _, rfl, by rw [HS.out]; exact rfl, HB7.out⟩
  | some oj =>
    cases oj with
    | none =>
      have hic := HIC.out
      rw [hcl] at hic
      have HS : Hid (oneS (subS E m) E (d :: r) = some ([], 0, some .invalid)) := Lib.hid (by rw [HWD.out, wordS, hcl]; rfl)
      obtain ⟨rfl, rfl⟩ : cz = -1 ∧ cb = true := by injection hic with h1 h2; exact ⟨h1, h2⟩
      clear hcl hic
      go_wp2
      refine bodyPost_ret (by simp [results, Tryz.results33, go_sem]; try rfl) rfl ?_
      exact ⟨_, _, _, _, rfl, by rw [HS.out]; exact (by first | exact ⟨rfl, HAE.out, rfl, rfl⟩ | exact ⟨rfl, HAE2.out, rfl, rfl⟩), HB7.out⟩
    | some j =>
      have hic := HIC.out
      rw [hcl] at hic
      have HCS := Lib.hid hcl
      obtain ⟨tp, htp⟩ : ∃ tp, tp = e4 + j := ⟨_, rfl⟩
      have hjl := closeS_lt ws 0 false j hcl
      obtain ⟨rfl, rfl⟩ : cz = (tp : Int) ∧ cb = true := by rw [htp]; injection hic with h1 h2; exact ⟨h1, h2⟩
      clear hic hcl
      have HJ : Hid (tp = e4 + j ∧ j < ws.length ∧ tp < s.size ∧ j < s.size ∧ j < m) := Lib.hid (spo1 HD4.out htp hjl HM.out)
      clear htp hjl
      obtain ⟨t1, t2, t3, t4, t5⟩ := spo2 HJ.out.1 HJ.out.2.2.1 HSIZ.out
      have HEX : Hid (s.extract e4 tp = mk (ws.take j)) := Lib.hid (by rw [ext_D, HW4.out, HJ.out.1, Nat.add_sub_cancel_left])
      have HSZ : Hid ((s.extract e4 tp).size = j) := Lib.hid (by
        rw [HEX.out]
        exact spo4 HJ.out.2.1)
      have HEN : Hid (((tp + 1 : Nat) : Int) = ((x + 1 + (k2 + 2 + (j + 1) + 1) : Nat) : Int)) := Lib.hid (spo3t HJ.out.1 HHE2.out.1 HHE2.out.2.2.2.1 HE3.out HE4.out)
      go_wp2_with fail
      refine (HSUB.out (s.extract e4 tp) W7 (by rw [HSZ.out]; exact HJ.out.2.2.2.2) (by rw [HSZ.out]; exact HJ.out.2.2.2.1) HB7.out).mono ?_
      rintro e W8 ⟨out, cls, said, rfl, hs, hb⟩
      have HB8 : Aside0 (Below w.heap.size w W8) := Aside0.mk (below_then HB7.out HB7.out.size hb)
      have HSD := Lib.hid hs
      rw [HEX.out, mk_data] at HSD
      clear hb hs HB7
      cases lk with
      | none =>
        obtain ⟨rfl, rfl⟩ : yv = (⟨#[]⟩ : ByteArray) ∧ yb = false := by have h := HYY.out; injection h with h1 h2; exact ⟨h1.symm, h2.symm⟩
        cases hsb : subS E m (ws.take j) with
        | none =>
          have HS : Hid (oneS (subS E m) E (d :: r) = none) := Lib.hid (by rw [HWD.out]; simp [wordS, HCS.out, hsb, show E (r.take k2) = none from HEV.out, setS, HG0.out])
          have hs := HSD.out
          rw [hsb] at hs
          obtain rfl : said = false := hs
          clear hsb
          go_wp2
          refine bodyPost_ret (by simp [results, Tryz.results33, go_sem]; try rfl) rfl ?_
          exact ⟨_, _, _, _, rfl, by rw [HS.out]; exact rfl, HB8.out⟩
        | some rc =>
          obtain ⟨wr, wc⟩ := rc
          rcases wc with _ | (_ | _)
          · have hs := HSD.out
            rw [hsb] at hs
            have HS : Hid (oneS (subS E m) E (d :: r) = some ([], k2 + 2 + (j + 1) + 1, some .missing)) := Lib.hid (by rw [HWD.out]; simp [wordS, HCS.out, hsb, show E (r.take k2) = none from HEV.out, setS, HG0.out])
            obtain ⟨rfl, rfl, rfl⟩ := hs
            clear hsb
            go_wp2
            refine bodyPost_ret (by simp [results, Tryz.results33, go_sem]; try rfl) rfl ?_
            exact ⟨_, _, _, _, rfl, by rw [HS.out]; exact (by first | exact ⟨rfl, HEN.out, rfl, rfl⟩ | exact ⟨rfl, t4.trans HEN.out, rfl, rfl⟩), HB8.out⟩
          · have hs := HSD.out
            rw [hsb] at hs
            have HS : Hid (oneS (subS E m) E (d :: r) = none) := Lib.hid (by rw [HWD.out]; simp [wordS, HCS.out, hsb, show E (r.take k2) = none from HEV.out, setS, HG0.out])
            obtain ⟨rfl, hcls, rfl⟩ := hs
            obtain rfl : cls = 1 := hcls
            clear hsb
            go_wp2
            refine bodyPost_ret (by simp [results, Tryz.results33, go_sem]; try rfl) rfl ?_
            exact ⟨_, _, _, _, rfl, by rw [HS.out]; exact rfl, HB8.out⟩
          · have hs := HSD.out
            rw [hsb] at hs
            have HS : Hid (oneS (subS E m) E (d :: r) = none) := Lib.hid (by rw [HWD.out]; simp [wordS, HCS.out, hsb, show E (r.take k2) = none from HEV.out, setS, HG0.out])
            obtain ⟨rfl, hcls, rfl⟩ := hs
            obtain rfl : cls = 2 := hcls
            clear hsb
            go_wp2
            refine bodyPost_ret (by simp [results, Tryz.results33, go_sem]; try rfl) rfl ?_
            exact ⟨_, _, _, _, rfl, by rw [HS.out]; exact rfl, HB8.out⟩
      | some p =>
        obtain ⟨pv, hpv⟩ : ∃ pv, pv = p.f1 := ⟨_, rfl⟩
        obtain ⟨rfl, rfl⟩ : yv = pv ∧ yb = true := by have h := HYY.out; injection h with h1 h2; exact ⟨h1.symm.trans hpv.symm, h2.symm⟩
        have HPV : Hid (yv = mk yv.data.toList) := Lib.hid (by apply data_inj; simp [mk_data])
        replace HEV : Hid (E (r.take k2) = some yv.data.toList) := Lib.hid (by rw [HEV.out, Option.map_some, hpv])
        clear hpv
        by_cases hpe : yv.data.toList = []
        · rw [hpe] at HEV
          obtain rfl : yv = ⟨#[]⟩ := by apply data_inj; rw [hpe]
          clear hpe
          cases hsb : subS E m (ws.take j) with
          | none =>
            have HS : Hid (oneS (subS E m) E (d :: r) = none) := Lib.hid (by rw [HWD.out]; simp [wordS, HCS.out, hsb, HEV.out, setS, HG0.out])
            have hs := HSD.out
            rw [hsb] at hs
            obtain rfl : said = false := hs
            clear hsb
            go_wp2
            refine bodyPost_ret (by simp [results, Tryz.results33, go_sem]; try rfl) rfl ?_
            exact ⟨_, _, _, _, rfl, by rw [HS.out]; exact rfl, HB8.out⟩
          | some rc =>
            obtain ⟨wr, wc⟩ := rc
            rcases wc with _ | (_ | _)
            · have hs := HSD.out
              rw [hsb] at hs
              have HS : Hid (oneS (subS E m) E (d :: r) = some ([], k2 + 2 + (j + 1) + 1, some .missing)) := Lib.hid (by rw [HWD.out]; simp [wordS, HCS.out, hsb, HEV.out, setS, HG0.out])
              obtain ⟨rfl, rfl, rfl⟩ := hs
              clear hsb
              go_wp2
              refine bodyPost_ret (by simp [results, Tryz.results33, go_sem]; try rfl) rfl ?_
              exact ⟨_, _, _, _, rfl, by rw [HS.out]; exact (by first | exact ⟨rfl, HEN.out, rfl, rfl⟩ | exact ⟨rfl, t4.trans HEN.out, rfl, rfl⟩), HB8.out⟩
            · have hs := HSD.out
              rw [hsb] at hs
              have HS : Hid (oneS (subS E m) E (d :: r) = none) := Lib.hid (by rw [HWD.out]; simp [wordS, HCS.out, hsb, HEV.out, setS, HG0.out])
              obtain ⟨rfl, hcls, rfl⟩ := hs
              obtain rfl : cls = 1 := hcls
              clear hsb
              go_wp2
              refine bodyPost_ret (by simp [results, Tryz.results33, go_sem]; try rfl) rfl ?_
              exact ⟨_, _, _, _, rfl, by rw [HS.out]; exact rfl, HB8.out⟩
            · have hs := HSD.out
              rw [hsb] at hs
              have HS : Hid (oneS (subS E m) E (d :: r) = none) := Lib.hid (by rw [HWD.out]; simp [wordS, HCS.out, hsb, HEV.out, setS, HG0.out])
              obtain ⟨rfl, hcls, rfl⟩ := hs
              obtain rfl : cls = 2 := hcls
              clear hsb
              go_wp2
              refine bodyPost_ret (by simp [results, Tryz.results33, go_sem]; try rfl) rfl ?_
              exact ⟨_, _, _, _, rfl, by rw [HS.out]; exact rfl, HB8.out⟩
        · have hpe2 : (yv.toList == []) = false := by rw [Lib.toList_data]; simpa using hpe
          have hpe3 : yv.toList.isEmpty = false := by rw [Lib.toList_data]; simpa using hpe
          have HPE := Lib.hid hpe
          clear hpe
          cases hsb : subS E m (ws.take j) with
          | none =>
            have HS : Hid (oneS (subS E m) E (d :: r) = none) := Lib.hid (by rw [HWD.out]; simp [wordS, HCS.out, hsb, HEV.out, setS, HG0.out, HPE.out])
            have hs := HSD.out
            rw [hsb] at hs
            obtain rfl : said = false := hs
            clear hsb
            go_wp2
            refine bodyPost_ret (by simp [results, Tryz.results33, go_sem]; try rfl) rfl ?_
            exact ⟨_, _, _, _, rfl, by rw [HS.out]; exact rfl, HB8.out⟩
          | some rc =>
            obtain ⟨wr, wc⟩ := rc
            rcases wc with _ | (_ | _)
            · have hs := HSD.out
              rw [hsb] at hs
              have HS : Hid (oneS (subS E m) E (d :: r) = some (yv.data.toList, k2 + 2 + (j + 1) + 1, none)) := Lib.hid (by rw [HWD.out]; simp [wordS, HCS.out, hsb, HEV.out, setS, HG0.out, HPE.out])
              obtain ⟨rfl, rfl, rfl⟩ := hs
              clear hsb
              go_wp2
              refine bodyPost_ret (by simp [results, Tryz.results33, go_sem]; try rfl) rfl ?_
              exact ⟨_, _, _, _, rfl, by rw [HS.out]; exact (by first | exact ⟨HPV.out, HEN.out, rfl, rfl⟩ | exact ⟨HPV.out, t4.trans HEN.out, rfl, rfl⟩), HB8.out⟩
            · have hs := HSD.out
              rw [hsb] at hs
              have HS : Hid (oneS (subS E m) E (d :: r) = none) := Lib.hid (by rw [HWD.out]; simp [wordS, HCS.out, hsb, HEV.out, setS, HG0.out, HPE.out])
              obtain ⟨rfl, hcls, rfl⟩ := hs
              obtain rfl : cls = 1 := hcls
              clear hsb
              go_wp2
              refine bodyPost_ret (by simp [results, Tryz.results33, go_sem]; try rfl) rfl ?_
              exact ⟨_, _, _, _, rfl, by rw [HS.out]; exact rfl, HB8.out⟩
            · have hs := HSD.out
              rw [hsb] at hs
              have HS : Hid (oneS (subS E m) E (d :: r) = none) := Lib.hid (by rw [HWD.out]; simp [wordS, HCS.out, hsb, HEV.out, setS, HG0.out, HPE.out])
              obtain ⟨rfl, hcls, rfl⟩ := hs
              obtain rfl : cls = 2 := hcls
              clear hsb
              go_wp2
              refine bodyPost_ret (by simp [results, Tryz.results33, go_sem]; try rfl) rfl ?_
              exact ⟨_, _, _, _, rfl, by rw [HS.out]; exact rfl, HB8.out⟩
end Go.Proofs.YtlncdacoefoldaaGreatDoor.U
