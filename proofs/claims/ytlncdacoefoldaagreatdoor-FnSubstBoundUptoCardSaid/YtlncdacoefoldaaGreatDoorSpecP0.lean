/- The walk of spec.substOne where a brace stands behind the dollar (printed by gen_speco.py). -/
import Derived.Test.YtlncdacoefoldaaGreatDoorMrg4
namespace Go.Proofs.YtlncdacoefoldaaGreatDoor.U
set_option linter.unusedVariables false
set_option linter.unusedSimpArgs false
set_option linter.unusedSectionVars false
open Go.RowKit Go.Proofs.YtlncdacoefoldaaGreatDoorW.PrintWords Go.Proofs.YtlncdacoefoldaaGreatDoorW.PrintLast Go.Proofs.YtlncdacoefoldaaGreatDoor.PX Go.Proofs.YtlncdacoefoldaaGreatDoor.L Go.Proofs.YtlncdacoefoldaaGreatDoor.M

set_option maxHeartbeats 40000000 in
set_option maxRecDepth 100000 in
theorem brace_base (E : Env) (m : Nat) (A1 : Option Addr) (c1 : Nat) (b : List SP) (s : ByteArray) (x a y : Nat) (w : World) (hr1 : Kd.C k59 w A1 b.length b) (hc1 : b.length ≤ c1) (hb : b.length ≤ 2147483647) (hE : ∀ n, E n = (lastP b (mk n)).map (fun x => x.f1.data.toList))
    (ha : a = x + 1) (hx : a < s.size) (hsz : s.size ≤ 17592186044416) (hm : s.size ≤ m) (hy : y = x + 2) (d : UInt8) (hd : d = 123) (r : Bs) (hq : D s a = d :: r)
    (hshort : ¬ ((far r = false ∧ far (r.drop (subE r)) = false ∧ ¬ (subE r = 0 ∨ r.length = subE r)) ∧ ∃ q qs, r.drop (subE r) = q :: qs ∧ ((q = 58 ∧ ∃ g ws, qs = g :: ws ∧ isS g = true) ∨ (q ≠ 125 ∧ q ≠ 58 ∧ isS q = true))))
    (hsub : ∀ (t : ByteArray) (W : World), t.size < m → t.size < s.size → Below w.heap.size w W → Calls Tryz.prog 14 #[.string t, .slice A1 b.length c1] W fun e w' => ∃ out cls said, e = .returned (.tuple #[.string out, .int .i64 cls, .bool said]) ∧ SaidS (subS E m t.data.toList) out cls said ∧ Below W.heap.size W w') :
    Calls Tryz.prog 33 #[.string s, .int .i64 x, .slice A1 b.length c1] w fun e w' => ∃ val en cls said, e = .returned (.tuple #[.string val, .int .i64 en, .int .i64 cls, .bool said]) ∧ SaidO x (oneS (subS E m) E (d :: r)) val en cls said ∧ Below w.heap.size w w' := by
  have HSUB := Lib.hid hsub
  have HNO := Lib.hid hshort
  clear hshort
  have HC1 := Aside0.mk hc1
  have HR1 := Aside0.mk hr1
  have HE := Lib.hid hE
  have HSIZ := Lib.hid hsz
  have HM := Lib.hid hm
  have HBL := Lib.hid hb
  have w1 : wrap64 ((x : Int) + 1) = (a : Int) := by rw [ha]; exact (wrB x (by omega)).1
  have HAE : Hid ((a : Int) = ((x + 1 + 0 : Nat) : Int)) := Lib.hid (by rw [ha])
  have HAE2 : Hid (wrap64 ((x : Int) + 1) = ((x + 1 + 0 : Nat) : Int)) := Lib.hid (by rw [w1, ha])
  have w2 : wrap64 ((x : Int) + 2) = (y : Int) := by rw [hy]; exact (wrB x (by omega)).2.1
  have hyD : D s y = r := by rw [hy, show x + 2 = a + 1 from congrArg (· + 1) ha.symm]; exact (D_cons hq).2.2
  have hne : ¬ (a : Int) = (s.size : Int) := by omega
  have hcd : (d.toNat : Int) = 123 := by rw [hd]; rfl
  have hg : s[a]'hx = d := by
    have := (D_cons hq).2.1
    unfold bt at this
    rw [dif_pos (by simpa using hx)] at this
    exact (u8 _ _).2 (Int.natCast_inj.1 this)
  have i0 : (0 : Int) ≤ (a : Int) := by omega
  have i1 : (a : Int) < (s.size : Int) := by omega
  have hse : subE (d :: r) = 0 := by rw [hd]; simp [subE, show isL 123 = false by decide]
  have HEND := Lib.hid (end_s s hsz a)
  have HFAR := Lib.hid (fun y : Nat => far_s s y)
  have HF1 : Hid (spec_substFar.f s (a : Int) = some false) := Lib.hid (by rw [HFAR.out, hq, hd]; rfl)
  have HF2 : Hid (spec_substFar.f s (y : Int) = some (far r)) := Lib.hid (by rw [HFAR.out, hyD])
  have HEND2 := Lib.hid (end_s s hsz y)
  rw [hq, hse] at HEND
  rw [Nat.add_zero] at HEND
  rw [hyD] at HEND2
  have HYL : Hid (r.length = s.size - y) := Lib.hid (by rw [← hyD]; exact D_len s y)
  have hyl := HYL.out
  have hk2 := subE_le r
  obtain ⟨k2, hk2e⟩ : ∃ k2, k2 = subE r := ⟨_, rfl⟩
  rw [← hk2e] at HEND2 hk2
  have HONE : Hid (oneS (subS E m) E (d :: r) = if far r = true then none else (bracedS (subS E m) E r).map (fun p => (p.1, (if p.2.1 = 0 then 0 else p.2.1 + 1), p.2.2))) := Lib.hid (by
    rw [hd] at hse ⊢
    rw [oneS, if_neg (show ¬ (123 : UInt8) = 36 by decide), hse]
    cases far r <;> simp [far])
  obtain ⟨e2, he2⟩ : ∃ e2, e2 = y + k2 := ⟨_, rfl⟩
  rw [← he2] at HEND2
  have hD2 : D s e2 = r.drop k2 := by rw [he2, D_add, hyD]
  have HF3 : Hid (spec_substFar.f s (e2 : Int) = some (far (r.drop k2))) := Lib.hid (by rw [HFAR.out, hD2])
  have hyx : y ≤ s.size := by omega
  have HHE2 : Hid (e2 = y + k2 ∧ k2 ≤ r.length ∧ y ≤ s.size ∧ y = x + 2 ∧ a = x + 1 ∧ a < s.size) := Lib.hid ⟨he2, hk2, hyx, hy, ha, hx⟩
  have HK2 := Lib.hid hk2e
  have HD2 := Lib.hid hD2
  have HYD := Lib.hid hyD
  clear hsub hc1 hr1 hE hsz hm hb ha hy hq hd hyD hse hyl hk2 hk2e he2 hD2 hyx
  go_enter Tryz.func33, Tryz.ntmps33
  go_wp2_with fail
  refine (spec_substEnd.calls _ s _ _ _ HEND.out).mono ?_
  rintro e W1 ⟨rfl, hd⟩
  have HB1 : Aside0 (Below w.heap.size w W1) := Aside0.mk hd.below
  clear hd
  go_wp2_with fail
  refine (spec_substFar.calls s _ _ _ HF1.out).mono ?_
  rintro e W2 ⟨rfl, hd⟩
  have HB2 : Aside0 (Below w.heap.size w W2) := Aside0.mk (below_then HB1.out HB1.out.size hd.below)
  clear hd HB1
  go_wp2_with fail
  refine (spec_substFar.calls s _ _ _ HF2.out).mono ?_
  rintro e W3 ⟨rfl, hd⟩
  have HB3 : Aside0 (Below w.heap.size w W3) := Aside0.mk (below_then HB2.out HB2.out.size hd.below)
  clear hd HB2
  cases hf2 : far r with
  | true =>
    have HS : Hid (oneS (subS E m) E (d :: r) = none) := Lib.hid (by rw [HONE.out, hf2]; rfl)
    clear hf2
    go_wp2
    refine bodyPost_ret (by simp [results, Tryz.results33, go_sem]; try rfl) rfl ?_
    exact ⟨_, _, _, _, rfl, by rw [HS.out]; exact rfl, HB3.out⟩
  | false =>
    have HFZ := Lib.hid hf2
    replace HONE : Hid (oneS (subS E m) E (d :: r) = (bracedS (subS E m) E r).map (fun p => (p.1, (if p.2.1 = 0 then 0 else p.2.1 + 1), p.2.2))) := Lib.hid (by rw [HONE.out, hf2]; rfl)
    clear hf2
    go_wp2_with fail
    refine (spec_substEnd.calls _ s _ _ _ HEND2.out).mono ?_
    rintro e W4 ⟨rfl, hd⟩
    have HB4 : Aside0 (Below w.heap.size w W4) := Aside0.mk (below_then HB3.out HB3.out.size hd.below)
    clear hd HB3
    go_wp2_with fail
    refine (spec_substFar.calls s _ _ _ HF3.out).mono ?_
    rintro e W5 ⟨rfl, hd⟩
    have HB5 : Aside0 (Below w.heap.size w W5) := Aside0.mk (below_then HB4.out HB4.out.size hd.below)
    clear hd HB4
    cases hf3 : far (r.drop k2) with
    | true =>
      have HS : Hid (oneS (subS E m) E (d :: r) = none) := Lib.hid (by rw [HONE.out, bracedS, ← HK2.out, if_pos hf3]; rfl)
      clear hf3
      go_wp2
      refine bodyPost_ret (by simp [results, Tryz.results33, go_sem]; try rfl) rfl ?_
      exact ⟨_, _, _, _, rfl, by rw [HS.out]; exact rfl, HB5.out⟩
    | false =>
      have HFF := Lib.hid hf3
      clear hf3
      by_cases hz : k2 = 0 ∨ r.length = k2
      · have HS : Hid (oneS (subS E m) E (d :: r) = some ([], 0, some .invalid)) := Lib.hid (by rw [HONE.out, bracedS, ← HK2.out, if_neg (by rw [HFF.out]; decide), if_pos hz]; rfl)
        have hz3 : (e2 : Int) = (y : Int) ∨ (¬ (e2 : Int) = (y : Int) ∧ (e2 : Int) = (s.size : Int)) := by
          have := HHE2.out; have := HYL.out; omega
        clear hz
        rcases hz3 with hz3 | ⟨hz3, hz4⟩
        · skip
          go_wp2
          refine bodyPost_ret (by simp [results, Tryz.results33, go_sem]; try rfl) rfl ?_
          exact ⟨_, _, _, _, rfl, by rw [HS.out]; exact (by first | exact ⟨rfl, HAE.out, rfl, rfl⟩ | exact ⟨rfl, HAE2.out, rfl, rfl⟩), HB5.out⟩
        · skip
          go_wp2
          refine bodyPost_ret (by simp [results, Tryz.results33, go_sem]; try rfl) rfl ?_
          exact ⟨_, _, _, _, rfl, by rw [HS.out]; exact (by first | exact ⟨rfl, HAE.out, rfl, rfl⟩ | exact ⟨rfl, HAE2.out, rfl, rfl⟩), HB5.out⟩
      · have hz1 : ¬ (e2 : Int) = (y : Int) := by have := HHE2.out; omega
        have hz2 : ¬ (e2 : Int) = (s.size : Int) := by have := HHE2.out; have := HYL.out; omega
        have hz1b : ((e2 : Int) == (y : Int)) = false := by simpa using hz1
        have hz2b : ((e2 : Int) == (s.size : Int)) = false := by simpa using hz2
        have HZ := Lib.hid hz
        obtain ⟨q, qs, hqq⟩ : ∃ q qs, r.drop k2 = q :: qs := by
          cases e : r.drop k2 with
          | nil => have := congrArg List.length e; have := HHE2.out; rw [List.length_drop] at *; simp at *; omega
          | cons q qs => exact ⟨q, qs, rfl⟩
        have HQQ := Lib.hid hqq
        have h2 := D_cons (HD2.out.trans hqq)
        have hl2 : e2 < s.size := h2.1
        have hg2 : s[e2]'hl2 = q := by
          have := h2.2.1
          unfold bt at this
          rw [dif_pos (by simpa using hl2)] at this
          exact (u8 _ _).2 (Int.natCast_inj.1 this)
        have HDQ := Lib.hid h2.2.2
        have j0 : (0 : Int) ≤ (e2 : Int) := by omega
        have j1 : (e2 : Int) < (s.size : Int) := by omega
        have j2 : (y : Int) ≤ (e2 : Int) := by have := HHE2.out; omega
        obtain ⟨e3, he3⟩ : ∃ e3, e3 = e2 + 1 := ⟨_, rfl⟩
        have w3 : wrap64 ((e2 : Int) + 1) = (e3 : Int) := by rw [he3]; have := HSIZ.out; exact (wrB e2 (by omega)).1
        have hex : s.extract y e2 = mk (r.take k2) := by
          rw [ext_D, HYD.out, HHE2.out.1, Nat.add_sub_cancel_left]
        have HLK := Lib.hid (look_l b (s.extract y e2) HBL.out)
        have HEV : Hid (E (r.take k2) = (lastP b (s.extract y e2)).map (fun x => x.f1.data.toList)) := Lib.hid (by rw [hex]; exact HE.out _)
        obtain ⟨lk, hlk⟩ : ∃ lk, lk = lastP b (s.extract y e2) := ⟨_, rfl⟩
        rw [← hlk] at HLK HEV
        have HE3 := Lib.hid he3
        clear hz hqq h2 he3 hlk hex
        rcases hyy : lookAns lk with ⟨yv, yb⟩
        rw [hyy] at HLK
        have HYY := Lib.hid hyy
        clear hyy
        have HBR : Hid (oneS (subS E m) E (d :: r) = (if q = 125 then some ((E (r.take k2)).getD [], k2 + 1, none)
            else if q = 58 then (match qs with
              | [] => some ([], 0, some .invalid)
              | g :: w => if isS g = true then (wordS (subS E m) (E (r.take k2)) true g w).map (fun p => (p.1, (if p.2.1 = 0 then 0 else k2 + 2 + p.2.1), p.2.2)) else some ([], 0, some .invalid))
            else if isS q = true then (wordS (subS E m) (E (r.take k2)) false q qs).map (fun p => (p.1, (if p.2.1 = 0 then 0 else k2 + 1 + p.2.1), p.2.2))
            else some ([], 0, some .invalid)).map (fun p : Bs × Nat × Option Cls => (p.1, (if p.2.1 = 0 then 0 else p.2.1 + 1), p.2.2))) := Lib.hid (by rw [HONE.out, bracedS, ← HK2.out, if_neg (by rw [HFF.out]; decide), if_neg HZ.out, HQQ.out]; rfl)
        go_wp2_with fail
        refine (spec_Look.calls _ A1 c1 b (s.extract y e2) _ _ _ (Kd.C_below HR1.out HB5.out) HC1.out HLK.out).mono ?_
        rintro e W6 ⟨rfl, hd⟩
        have HB6 : Aside0 (Below w.heap.size w W6) := Aside0.mk (below_then HB5.out HB5.out.size hd.below)
        clear hd HB5
        by_cases hc1 : q = 125
        · have hc : (q.toNat : Int) = 125 := (q125 q).2 hc1
          have HS : Hid (oneS (subS E m) E (d :: r) = some ((E (r.take k2)).getD [], k2 + 2, none)) := Lib.hid (by rw [HBR.out, if_pos hc1]; rfl)
          have HE2 : Hid ((e3 : Int) = ((x + 1 + (k2 + 2) : Nat) : Int)) := Lib.hid (by have := HHE2.out; have := HE3.out; omega)
          have HVL : Hid (yv = mk ((E (r.take k2)).getD [])) := Lib.hid (by
            have h := HYY.out
            rw [HEV.out]
            cases lk with
            | none => injection h with h1 h2; rw [← h1]; rfl
            | some p => injection h with h1 h2; rw [← h1]; apply data_inj; simp [mk_data])
          clear hc1
          go_wp2
          refine bodyPost_ret (by simp [results, Tryz.results33, go_sem]; try rfl) rfl ?_
          exact ⟨_, _, _, _, rfl, by rw [HS.out]; exact (by first | exact ⟨HVL.out, HE2.out, rfl, rfl⟩ | exact ⟨HVL.out, w3.trans HE2.out, rfl, rfl⟩), HB6.out⟩
        have hc125 : ¬ (q.toNat : Int) = 125 := fun a => hc1 ((q125 q).1 a)
        have hc125b : ((q.toNat : Int) == 125) = false := by simpa using hc125
        have HN125 := Lib.hid hc1
        clear hc1
        by_cases hc2 : q = 58
        · have hc58 : (q.toNat : Int) = 58 := (q58 q).2 hc2
          have HC58 := Lib.hid hc2
          clear hc2
          cases qs with
          | nil =>
            have HS : Hid (oneS (subS E m) E (d :: r) = some ([], 0, some .invalid)) := Lib.hid (by rw [HBR.out, if_neg HN125.out, if_pos HC58.out]; rfl)
            have hend : (e3 : Int) = (s.size : Int) := by have := D_nil HDQ.out; have := HE3.out; omega
            go_wp2
            refine bodyPost_ret (by simp [results, Tryz.results33, go_sem]; try rfl) rfl ?_
            exact ⟨_, _, _, _, rfl, by rw [HS.out]; exact (by first | exact ⟨rfl, HAE.out, rfl, rfl⟩ | exact ⟨rfl, HAE2.out, rfl, rfl⟩), HB6.out⟩
          | cons g ws =>
            have h3 := D_cons HDQ.out
            rw [← HE3.out] at h3
            have hl3 : e3 < s.size := h3.1
            have hg3 : s[e3]'hl3 = g := by
              have := h3.2.1
              unfold bt at this
              rw [dif_pos (by simpa using hl3)] at this
              exact (u8 _ _).2 (Int.natCast_inj.1 this)
            have HDW := Lib.hid h3.2.2
            have l0 : (0 : Int) ≤ (e3 : Int) := by omega
            have l1 : (e3 : Int) < (s.size : Int) := by omega
            have l2 : ¬ (e3 : Int) = (s.size : Int) := by omega
            have l2b : ((e3 : Int) == (s.size : Int)) = false := by simpa using l2
            clear h3
            have HWD : Hid (isS g = true → oneS (subS E m) E (d :: r) = (wordS (subS E m) (E (r.take k2)) true g ws).map (fun p => (p.1, (if p.2.1 = 0 then 0 else k2 + 2 + p.2.1 + 1), p.2.2))) := Lib.hid (fun hsg => by
              rw [HBR.out, if_neg HN125.out, if_pos HC58.out]
              simp only []
              rw [if_pos hsg]
              cases wordS (subS E m) (E (r.take k2)) true g ws with
              | none => rfl
              | some p => by_cases hp : p.2.1 = 0 <;> simp [hp])
            by_cases hns : isS g = true
            · skip
              exact absurd ⟨⟨HFZ.out, by rw [← HK2.out]; exact HFF.out, by rw [← HK2.out]; exact HZ.out⟩, q, _, by rw [← HK2.out]; exact HQQ.out, .inl ⟨HC58.out, g, ws, rfl, hns⟩⟩ HNO.out
            · replace hns : isS g = false := by simpa using hns
              have HS : Hid (oneS (subS E m) E (d :: r) = some ([], 0, some .invalid)) := Lib.hid (by rw [HBR.out, if_neg HN125.out, if_pos HC58.out]; simp [hns])
              have g1 : ¬ (g.toNat : Int) = 45 := fun a => by rw [(q45 g).1 a] at hns; cases hns
              have g2 : ¬ (g.toNat : Int) = 43 := fun a => by rw [(q43 g).1 a] at hns; cases hns
              have g3 : ¬ (g.toNat : Int) = 63 := fun a => by rw [(q63 g).1 a] at hns; cases hns
              have g1b : ((g.toNat : Int) != 45) = true := by simpa using g1
              have g2b : ((g.toNat : Int) != 43) = true := by simpa using g2
              have g3b : ((g.toNat : Int) != 63) = true := by simpa using g3
              clear hns
              go_wp2
              refine bodyPost_ret (by simp [results, Tryz.results33, go_sem]; try rfl) rfl ?_
              exact ⟨_, _, _, _, rfl, by rw [HS.out]; exact (by first | exact ⟨rfl, HAE.out, rfl, rfl⟩ | exact ⟨rfl, HAE2.out, rfl, rfl⟩), HB6.out⟩
        · have hc58 : ¬ (q.toNat : Int) = 58 := fun a => hc2 ((q58 q).1 a)
          have HC58 := Lib.hid hc2
          clear hc2
          have HDW := HDQ
          have HWD : Hid (isS q = true → oneS (subS E m) E (d :: r) = (wordS (subS E m) (E (r.take k2)) false q qs).map (fun p => (p.1, (if p.2.1 = 0 then 0 else k2 + 1 + p.2.1 + 1), p.2.2))) := Lib.hid (fun hsg => by
            rw [HBR.out, if_neg HN125.out, if_neg HC58.out, if_pos hsg]
            cases wordS (subS E m) (E (r.take k2)) false q qs with
            | none => rfl
            | some p => by_cases hp : p.2.1 = 0 <;> simp [hp])
          by_cases hns : isS q = true
          · skip
            exact absurd ⟨⟨HFZ.out, by rw [← HK2.out]; exact HFF.out, by rw [← HK2.out]; exact HZ.out⟩, q, _, by rw [← HK2.out]; exact HQQ.out, .inr ⟨HN125.out, HC58.out, hns⟩⟩ HNO.out
          · replace hns : isS q = false := by simpa using hns
            have HS : Hid (oneS (subS E m) E (d :: r) = some ([], 0, some .invalid)) := Lib.hid (by rw [HBR.out, if_neg HN125.out, if_neg HC58.out, hns]; rfl)
            have g1 : ¬ (q.toNat : Int) = 45 := fun a => by rw [(q45 q).1 a] at hns; cases hns
            have g2 : ¬ (q.toNat : Int) = 43 := fun a => by rw [(q43 q).1 a] at hns; cases hns
            have g3 : ¬ (q.toNat : Int) = 63 := fun a => by rw [(q63 q).1 a] at hns; cases hns
            have g1b : ((q.toNat : Int) != 45) = true := by simpa using g1
            have g2b : ((q.toNat : Int) != 43) = true := by simpa using g2
            have g3b : ((q.toNat : Int) != 63) = true := by simpa using g3
            clear hns
            go_wp2
            refine bodyPost_ret (by simp [results, Tryz.results33, go_sem]; try rfl) rfl ?_
            exact ⟨_, _, _, _, rfl, by rw [HS.out]; exact (by first | exact ⟨rfl, HAE.out, rfl, rfl⟩ | exact ⟨rfl, HAE2.out, rfl, rfl⟩), HB6.out⟩
end Go.Proofs.YtlncdacoefoldaaGreatDoor.U
