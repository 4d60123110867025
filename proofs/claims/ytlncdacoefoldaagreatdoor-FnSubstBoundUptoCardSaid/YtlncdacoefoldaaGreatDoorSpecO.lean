/- The walk of spec.substOne, spec.Subst given of shorter texts; and both, by induction. -/
import Derived.Test.YtlncdacoefoldaaGreatDoorSpecP
namespace Go.Proofs.YtlncdacoefoldaaGreatDoor.U
set_option linter.unusedVariables false
set_option linter.unusedSimpArgs false
set_option linter.unusedSectionVars false
open Go.RowKit Go.Proofs.YtlncdacoefoldaaGreatDoorW.PrintWords Go.Proofs.YtlncdacoefoldaaGreatDoorW.PrintLast Go.Proofs.YtlncdacoefoldaaGreatDoor.PX Go.Proofs.YtlncdacoefoldaaGreatDoor.L Go.Proofs.YtlncdacoefoldaaGreatDoor.M

set_option maxHeartbeats 4000000 in
set_option maxRecDepth 100000 in
theorem spec_substOne_step (E : Env) (m : Nat) (A1 : Option Addr) (c1 : Nat) (b : List SP) (s : ByteArray) (x : Nat) (w : World) (hr1 : Kd.C k59 w A1 b.length b) (hc1 : b.length ≤ c1) (hb : b.length ≤ 2147483647) (hE : ∀ n, E n = (lastP b (mk n)).map (fun x => x.f1.data.toList))
    (hx : x < s.size) (hsz : s.size ≤ 17592186044416) (hm : s.size ≤ m)
    (hsub : ∀ (t : ByteArray) (W : World), t.size < m → t.size < s.size → Below w.heap.size w W → Calls Tryz.prog 14 #[.string t, .slice A1 b.length c1] W fun e w' => ∃ out cls said, e = .returned (.tuple #[.string out, .int .i64 cls, .bool said]) ∧ SaidS (subS E m t.data.toList) out cls said ∧ Below W.heap.size W w') :
    Calls Tryz.prog 33 #[.string s, .int .i64 x, .slice A1 b.length c1] w fun e w' => ∃ val en cls said, e = .returned (.tuple #[.string val, .int .i64 en, .int .i64 cls, .bool said]) ∧ SaidO x (oneS (subS E m) E (D s (x + 1))) val en cls said ∧ Below w.heap.size w w' := by
  have HSUB := Lib.hid hsub
  have HC1 := Aside0.mk hc1
  have HR1 := Aside0.mk hr1
  have HE := Lib.hid hE
  clear hsub hc1 hr1 hE
  have w1 : wrap64 ((x : Int) + 1) = ((x + 1 : Nat) : Int) := (wrB x (by omega)).1
  cases hq : D s (x + 1) with
  | nil =>
    have h1 := D_nil hq
    have h2 : ((x + 1 : Nat) : Int) = (s.size : Int) := by omega
    clear hq
    go_enter Tryz.func33, Tryz.ntmps33
    go_wp2
    refine bodyPost_ret (by simp [results, Tryz.results33, go_sem]; try rfl) rfl ?_
    exact ⟨_, _, _, _, rfl, rfl, Below.refl _ _⟩
  | cons d r =>
    have h1 := D_cons hq
    have hl : x + 1 < s.size := h1.1
    have hne : ¬ ((x + 1 : Nat) : Int) = (s.size : Int) := by omega
    have hg : s[x + 1]'hl = d := by
      have := h1.2.1
      unfold bt at this
      rw [dif_pos (by simpa using hl)] at this
      exact (u8 _ _).2 (Int.natCast_inj.1 this)
    have i0 : (0 : Int) ≤ ((x + 1 : Nat) : Int) := by omega
    have i1 : ((x + 1 : Nat) : Int) < (s.size : Int) := by omega
    by_cases e : d = 36
    · have hc : (d.toNat : Int) = 36 := (q36 d).2 e
      have HS : Hid (oneS (subS E m) E (d :: r) = some ([36], 1, none)) := Lib.hid (by rw [oneS, if_pos e])
      have w2 : wrap64 ((x : Int) + 2) = ((x + 2 : Nat) : Int) := (wrB x (by omega)).2.1
      clear hq h1
      go_enter Tryz.func33, Tryz.ntmps33
      go_wp2
      refine bodyPost_ret (by simp [results, Tryz.results33, go_sem]; try rfl) rfl ?_
      exact ⟨_, _, _, _, rfl, by rw [HS.out]; exact ⟨rfl, rfl, rfl, rfl⟩, Below.refl _ _⟩
    · have hc : ¬ (d.toNat : Int) = 36 := fun q => e ((q36 d).1 q)
      have HEND := Lib.hid (end_s s hsz (x + 1))
      have HFAR := Lib.hid (fun y : Nat => far_s s y)
      obtain ⟨k, hk⟩ : ∃ k, k = subE (d :: r) := ⟨_, rfl⟩
      have hkl : k ≤ (d :: r).length := by rw [hk]; exact subE_le _
      have hDl := D_len s (x + 1)
      rw [hq] at HEND hDl
      rw [← hk] at HEND
      have HF1 : Hid (spec_substFar.f s ((x + 1 + k : Nat) : Int) = some (far ((d :: r).drop k))) := Lib.hid (by rw [HFAR.out, D_add, hq])
      cases hf : far ((d :: r).drop k) with
      | true =>
        rw [hf] at HF1
        have HS : Hid (oneS (subS E m) E (d :: r) = none) := Lib.hid (by rw [oneS, if_neg e, if_pos (Or.inl (by rw [← hk]; exact hf))])
        clear hq h1 hk hf
        go_enter Tryz.func33, Tryz.ntmps33
        go_wp2_with (first
          | (go_at_call 47; refine (spec_substEnd.calls _ s _ _ _ HEND.out).mono ?_; rintro e w1 ⟨rfl, hd1⟩; have HB1 := Aside0.mk hd1.below; clear hd1)
          | (go_at_call 48; refine (spec_substFar.calls s _ _ _ HF1.out).mono ?_; rintro e w2 ⟨rfl, hd2⟩; have HB2 := Aside0.mk (below_then HB1.out HB1.out.size hd2.below); clear hd2))
        refine bodyPost_ret (by simp [results, Tryz.results33, go_sem]; try rfl) rfl ?_
        exact ⟨_, _, _, _, rfl, by rw [HS.out]; exact rfl, HB2.out⟩
      | false =>
        rw [hf] at HF1
        by_cases hk0 : k = 0
        · by_cases h123 : d = 123
          · subst hk0
            exact spec_substOne_brace E m A1 c1 b s x (x + 1) (x + 2) w HR1.out HC1.out hb HE.out rfl hl hsz hm rfl d h123 r hq HSUB.out
          · have hc123 : ¬ (d.toNat : Int) = 123 := fun q => h123 ((q123 d).1 q)
            have HS : Hid (oneS (subS E m) E (d :: r) = none) := Lib.hid (by
              rw [oneS, if_neg e, ← hk, if_neg (by rw [hf]; simp [h123]), if_neg (by rw [hk0]; simp), if_pos h123])
            obtain ⟨en, hen⟩ : ∃ en, en = x + 1 + k := ⟨_, rfl⟩
            rw [← hen] at HEND HF1
            have hen1 : ¬ ((x + 1 : Nat) : Int) < (en : Int) := by omega
            clear hq h1 hk hf hen h123 hkl hDl hk0
            go_enter Tryz.func33, Tryz.ntmps33
            go_wp2_with (first
              | (go_at_call 47; refine (spec_substEnd.calls _ s _ _ _ HEND.out).mono ?_; rintro e w1 ⟨rfl, hd1⟩; have HB1 := Aside0.mk hd1.below; clear hd1)
              | (go_at_call 48; refine (spec_substFar.calls s _ _ _ HF1.out).mono ?_; rintro e w2 ⟨rfl, hd2⟩; have HB2 := Aside0.mk (below_then HB1.out HB1.out.size hd2.below); clear hd2))
            refine bodyPost_ret (by simp [results, Tryz.results33, go_sem]; try rfl) rfl ?_
            exact ⟨_, _, _, _, rfl, by rw [HS.out]; exact rfl, HB2.out⟩
        · -- a name
          have h123 : d ≠ 123 := by
            rintro rfl
            apply hk0
            rw [hk]; simp [subE, show isL 123 = false by decide]
          have hc123 : ¬ (d.toNat : Int) = 123 := fun q => h123 ((q123 d).1 q)
          have hHS : oneS (subS E m) E (d :: r) = some ((E ((d :: r).take k)).getD [], k, none) := by
            rw [oneS, if_neg e, ← hk, if_neg (by rw [hf]; simp [h123]), if_pos hk0]
          obtain ⟨en, hen⟩ : ∃ en, en = x + 1 + k := ⟨_, rfl⟩
          rw [← hen] at HEND HF1
          have hex : s.extract (x + 1) en = mk ((d :: r).take k) := by
            rw [ext_D, hq, hen, Nat.add_sub_cancel_left]
          have hen1 : ((x + 1 : Nat) : Int) < (en : Int) := by omega
          have hen2 : en ≤ s.size := by omega
          have HLK := Lib.hid (look_l b (s.extract (x + 1) en) hb)
          have HVL : Hid ((lookAns (lastP b (s.extract (x + 1) en))).1 = mk ((E ((d :: r).take k)).getD [])) := Lib.hid (by
            rw [hex, HE.out]
            cases lastP b (mk ((d :: r).take k)) <;> rfl)
          have HS := Lib.hid hHS
          rcases hyy : lookAns (lastP b (s.extract (x + 1) en)) with ⟨y, yb⟩
          rw [hyy] at HLK HVL
          have HEN := Lib.hid hen
          clear hq h1 hk hf hHS hen hex hyy h123 hkl hDl
          go_enter Tryz.func33, Tryz.ntmps33
          go_wp2_with (first
            | (go_at_call 47; refine (spec_substEnd.calls _ s _ _ _ HEND.out).mono ?_; rintro e w1 ⟨rfl, hd1⟩; have HB1 := Aside0.mk hd1.below; clear hd1)
            | (go_at_call 48; refine (spec_substFar.calls s _ _ _ HF1.out).mono ?_; rintro e w2 ⟨rfl, hd2⟩; have HB2 := Aside0.mk (below_then HB1.out HB1.out.size hd2.below); clear hd2)
            | (go_at_call 22; refine (spec_Look.calls _ A1 c1 b (s.extract (x + 1) en) y yb _ (Kd.C_below HR1.out HB2.out) HC1.out HLK.out).mono ?_; rintro e w3 ⟨rfl, hd⟩; have HB3 := Aside0.mk (below_then HB2.out HB2.out.size hd.below); clear hd))
          refine bodyPost_ret (by simp [results, Tryz.results33, go_sem]; try rfl) rfl ?_
          exact ⟨_, _, _, _, rfl, by rw [HS.out]; exact ⟨HVL.out, by rw [HEN.out], rfl, rfl⟩, HB3.out⟩

/-- what spec.Subst says is what the plain law says -/
theorem spec_Subst (E : Env) (B : Nat) (hB : 1 ≤ B) (hEB : ∀ u y, E u = some y → y.length ≤ B) (A1 : Option Addr) (c1 : Nat) (b : List SP) (hc1 : b.length ≤ c1) (hb : b.length ≤ 2147483647) (hE : ∀ n, E n = (lastP b (mk n)).map (fun x => x.f1.data.toList)) :
    ∀ (m : Nat) (s : ByteArray) (w : World), Kd.C k59 w A1 b.length b → s.size < m → s.size ≤ 17592186044416 → s.size * B ≤ 17592186044416 →
      Calls Tryz.prog 14 #[.string s, .slice A1 b.length c1] w fun e w' => ∃ out cls said, e = .returned (.tuple #[.string out, .int .i64 cls, .bool said]) ∧ SaidS (subS E m s.data.toList) out cls said ∧ Below w.heap.size w w'
  | 0, _, _, _, h, _, _ => absurd h (Nat.not_lt_zero _)
  | m + 1, s, w, hr1, hm, hsz, hbd => by
    refine spec_Subst_step E m B hB hEB A1 c1 b s w hr1 hc1 hsz hbd fun x W hx hW => ?_
    refine spec_substOne_step E m A1 c1 b s x W (Kd.C_below hr1 hW) hc1 hb hE hx hsz (by omega) fun t V ht hts hV => ?_
    exact spec_Subst E B hB hEB A1 c1 b hc1 hb hE m t V (Kd.C_below (Kd.C_below hr1 hW) hV) ht (by omega) (Nat.le_trans (Nat.mul_le_mul_right B (Nat.le_of_lt hts)) hbd)
end Go.Proofs.YtlncdacoefoldaaGreatDoor.U
