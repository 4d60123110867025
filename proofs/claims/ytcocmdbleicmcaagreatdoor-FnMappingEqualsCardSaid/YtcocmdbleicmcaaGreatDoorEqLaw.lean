/- The walks of impl.NewEquals, spec.Equals and laws.FnMappingEquals. -/
import Derived.Test.YtcocmdbleicmcaaGreatDoorNewEq
namespace Go.Proofs.YtcocmdbleicmcaaGreatDoor.M
set_option linter.unusedVariables false
set_option linter.unusedSimpArgs false
set_option linter.unusedSectionVars false
open Go.RowKit Go.Proofs.YtcocmdbleicmcaaGreatDoorW.PrintWords Go.Proofs.YtcocmdbleicmcaaGreatDoorW.PrintLast Go.Proofs.YtcocmdbleicmcaaGreatDoor.PX Go.Proofs.YtcocmdbleicmcaaGreatDoor.SM
open Go.Proofs.YtcocmdbleicmcaaGreatDoor.Ord (lastOf)

def optE (s : ByteArray) : SO := ⟨(trip (spE s)).1, (trip (spE s)).2.1, (trip (spE s)).2.2⟩
theorem optE_norm (s : ByteArray) : normO (optE s) = optE s := by
  unfold optE trip normO
  cases (spE s).2 <;> rfl
theorem valS_optE (s : ByteArray) : valS (optE s) = (spE s).2 := by
  unfold optE trip valS
  cases (spE s).2 <;> rfl
theorem putsN_E (l : List ByteArray) : putsN l = putsE ((l.map optE).map sIo) := by
  induction l using Ord.snocRec with
  | nil => rfl
  | snoc l s ih =>
    rw [putsN_snoc, List.map_append, List.map_append, List.map_singleton, List.map_singleton, putsE_snoc, ← ih, valO_sIo, valS_optE]
    rfl
theorem lastOf_map (L : List SO) (k : ByteArray) : lastOf S76.f0 (L.map sIo) k = (lastOf S75.f0 L k).map sIo := by
  induction L using Ord.snocRec with
  | nil => rfl
  | snoc L x ih =>
    rw [List.map_append, List.map_singleton, Ord.lastOf_snoc, Ord.lastOf_snoc, ih]
    by_cases h : x.f0 = k
    · rw [if_pos h, if_pos (show S76.f0 (sIo x) = k from h)]; rfl
    · rw [if_neg h, if_neg (show ¬ S76.f0 (sIo x) = k from h)]
theorem fitO_of (l : List ByteArray) : fitO (l.map optE) = Ord.fit S75.f0 (l.map optE) := by
  rw [fitO, map_normO (fun x hx => by obtain ⟨s, _, rfl⟩ := List.mem_map.1 hx; exact optE_norm s)]
theorem putsN_mem (l : List ByteArray) (q : ByteArray × Option ByteArray) : q ∈ putsN l ↔ ∃ x, x ∈ fitO (l.map optE) ∧ x.f0 = q.1 ∧ valS x = q.2 := by
  rw [putsN_E, putsE_mem, lastOf_map, fitO_of]
  constructor
  · intro h
    obtain ⟨y, hy, hv⟩ := Option.map_eq_some_iff.1 h
    obtain ⟨x, hx, rfl⟩ := Option.map_eq_some_iff.1 hy
    have hk := Ord.lastOf_key hx
    exact ⟨x, (Ord.fit_mem _ _).2 (by rw [hk]; exact hx), hk, hv⟩
  · rintro ⟨x, hx, hk, hv⟩
    have := (Ord.fit_mem _ _).1 hx
    rw [hk] at this
    rw [this]
    exact congrArg some hv
theorem in_img2 {a : List SO} {m : List (ByteArray × PO)} (na : ∀ x, x ∈ a → normO x = x) (h : ∀ q, q ∈ img m ↔ ∃ x, x ∈ a ∧ x.f0 = q.1 ∧ valS x = q.2) (p : SO) : (∃ q, q ∈ m ∧ opO q = sIo p) ↔ p ∈ a := by
  constructor
  · rintro ⟨q, hq, e⟩
    have h1 : (q.1, q.2.map (·.2)) ∈ img m := List.mem_map_of_mem (f := fun p : ByteArray × PO => (p.1, p.2.map (·.2))) hq
    obtain ⟨x, hx, hk, hv⟩ := (h _).1 h1
    simp only at hk hv
    rw [opO_eO, ← hk, ← hv, eO_norm (na x hx)] at e
    exact sIo_inj e ▸ hx
  · intro hp
    obtain ⟨q, hq, e⟩ := List.mem_map.1 ((h (p.f0, valS p)).2 ⟨p, hp, rfl, rfl⟩)
    exact ⟨q, hq, by rw [opO_eO]; rw [e]; exact eO_norm (na p hp)⟩
/-- What NewEquals tells is what the specification has. -/
theorem equalled {l : List ByteArray} {g : List IO} {m : List (ByteArray × PO)} (hg : Ord.Asc S76.f0 g) (hp : g.Perm (m.map opO)) (h : img m = putsN l) : g.map iSo = fitO (l.map optE) := by
  refine Ord.asc_ext (asc_iSo hg) (fitO_asc _) (fun p => ?_)
  rw [← in_img2 (a := fitO (l.map optE)) (m := m) (fun x hx => fitO_norm hx) (fun q => by rw [h]; exact putsN_mem l q), List.mem_map]
  constructor
  · rintro ⟨x, hx, rfl⟩
    obtain ⟨q, hq, e⟩ := List.mem_map.1 (hp.mem_iff.1 hx)
    exact ⟨q, hq, e⟩
  · rintro ⟨q, hq, e⟩
    exact ⟨sIo p, hp.mem_iff.2 (e ▸ List.mem_map_of_mem hq), rfl⟩
theorem putsN_len (l : List ByteArray) : (putsN l).length ≤ l.length := by
  rw [putsN_E]; refine Nat.le_trans (putsE_len _) ?_; simp
theorem fits2s_l0 (l : List ByteArray) (hl : l.length ≤ 2147483647) : ∀ n i, n = l.length - i → i ≤ l.length → ∃ r, laws_zzFits2.l0 (n + 1) l (l.length : Int) (i : Int) = some r ∧ (r = true → ∀ j (h : j < l.length), i ≤ j → l[j].size ≤ 2147483647)
  | 0, i, h, hi => by
    obtain rfl : i = l.length := by omega
    rw [laws_zzFits2.l0, if_neg (by omega)]; exact ⟨_, rfl, fun _ j h h' => by omega⟩
  | n + 1, i, h, hi => by
    have hlt : i < l.length := by omega
    have hr : rdOf ByteArray.empty l (i : Int) = l[i] := by simp [rdOf, List.getD_eq_getElem?_getD, List.getElem?_eq_getElem hlt]
    rw [laws_zzFits2.l0, if_pos (by omega), if_pos (by omega), if_pos (by omega), wrapS i (by omega), hr]
    split
    · exact ⟨_, rfl, fun h => by cases h⟩
    · rename_i hle
      obtain ⟨r, h1, h2⟩ := fits2s_l0 l hl n (i + 1) (by omega) (by omega)
      refine ⟨r, h1, fun hr j h h' => ?_⟩
      rcases Nat.lt_or_ge i j with hj | hj
      · exact h2 hr j h hj
      · obtain rfl : i = j := by omega
        omega
theorem fits2s (l : List ByteArray) : ∃ r, laws_zzFits2.f (l.length + 1) l = some r ∧ (r = true → l.length ≤ 2147483647 ∧ ∀ s ∈ l, s.size < 4611686018427387903) := by
  unfold laws_zzFits2.f
  split
  · exact ⟨_, rfl, fun h => by cases h⟩
  · obtain ⟨r, hr, hs⟩ := fits2s_l0 l (by omega) l.length 0 (by omega) (by omega)
    refine ⟨r, hr, fun h => ⟨by omega, fun s hm => ?_⟩⟩
    obtain ⟨j, hj, rfl⟩ := List.getElem_of_mem hm
    have := hs h j hj (by omega)
    omega
set_option maxHeartbeats 4000000 in
theorem impl_NewEquals (A0 : Option Addr) (c0 : Nat) (l0 : List ByteArray) (w : World) (hr0 : Kd.C Kd.string w A0 l0.length l0) (hc0 : l0.length ≤ c0) (hl : l0.length ≤ 2147483647) (hsz : ∀ s ∈ l0, s.size < 4611686018427387903) :
    Calls Tryz.prog 19 #[.slice A0 l0.length c0] w fun e w' => ∃ v l, ∃ m : List (ByteArray × PO), e = .returned v ∧ Kd.R k76 76 w' w.heap.size (fun _ => True) v l ∧ Ord.Asc S76.f0 l ∧ l.Perm (m.map opO) ∧ img m = putsN l0 ∧ l.length ≤ 2147483647 ∧ Below w.heap.size w w' := by
  have HR0 := Aside0.mk hr0
  have HC0 := Aside0.mk hc0
  have HSZ := Lib.hid hsz
  have HTX := Lib.hid (show impl_texts.f l0 = some l0 by unfold impl_texts.f; simp only [Option.bind_some, List.length_nil, List.nil_append]; rw [if_pos (by omega)])
  clear hr0 hc0 hsz
  go_enter Tryz.func19, Tryz.ntmps19
  go_upto_region 1 with (fail)
  go_wp2_with (first
    | (go_at_call 62; refine (impl_texts.calls A0 c0 l0 l0 _ HR0.out HC0.out HTX.out).mono ?_; rintro e w1 ⟨v1, rfl, ho1, hb1⟩; obtain ⟨A1, c1, rfl, hl1, hC1⟩ := Kd.R_reads ho1; have HC1 := Aside0.mk hC1; have HL1 := Aside0.mk hl1; have HB1 := Aside0.mk hb1; clear ho1 hC1 hl1 hb1)
    | (go_at_call 61; refine (types_NewMappingWithEquals A1 c1 l0 _ HC1.out HL1.out (by omega) HSZ.out).mono ?_; rintro e w2 ⟨b, m, rfl, ht, hh, hi, hbb, hb⟩; have HT := Aside0.mk ht; have HH := Aside0.mk hh; have HI := Aside0.mk hi; have HLm := Aside0.mk (show m.length ≤ 2147483647 from by (have h1 := putsN_len l0; rw [← hi, img_len] at h1; omega)); have HB2 := Aside0.mk (below_then HB1.out HB1.out.size hb); clear ht hh hi hb hbb)
    | (go_at_call 60; refine (impl_opts b m _ HT.out HH.out (Nat.le_trans HLm.out (by decide))).mono ?_; rintro e w4 ⟨v, l, rfl, ho, ha, hp, hb⟩; have HO := Aside0.mk (Kd.R_lower ho HB2.out.size); have HA := Aside0.mk ha; have HP := Aside0.mk hp; have HB4 := Aside0.mk (below_then HB2.out HB2.out.size hb); clear ho ha hp hb))
  go_ret
  exact ⟨_, _, m, rfl, HO.out, HA.out, HP.out, HI.out, by have := HP.out.length_eq; rw [List.length_map] at this; rw [this]; exact HLm.out, HB4.out⟩
set_option maxHeartbeats 4000000 in
set_option maxRecDepth 100000 in
theorem spec_Equals (A0 : Option Addr) (c0 : Nat) (l0 : List ByteArray) (w : World) (hr0 : Kd.C Kd.string w A0 l0.length l0) (hc0 : l0.length ≤ c0) (hl : l0.length ≤ 2147483647) (hsz : ∀ s ∈ l0, s.size < 4611686018427387903) :
    Calls Tryz.prog 20 #[.slice A0 l0.length c0] w fun e w' => ∃ v, e = .returned v ∧ Kd.R k75 75 w' w.heap.size (fun _ => True) v (fitO (l0.map optE)) ∧ Below w.heap.size w w' := by
  have HR0 := Aside0.mk hr0
  have HSZ := Lib.hid hsz
  clear hr0 hc0 hsz
  go_enter Tryz.func20, Tryz.ntmps20
  go_wp2
  go_loopw [3, 4] (fun v3 v4 wr => ∃ i : Nat, i ≤ l0.length ∧ v4 = .int .i64 i ∧ Aside0 (Kd.R k75 75 wr w.heap.size (fun _ => True) v3 ((l0.take i).map optE)) ∧ Aside0 (Below w.heap.size w wr)) (fun _ v4 _ => l0.length - (intOf v4).toNat)
  case atStart => exact ⟨0, Nat.zero_le _, rfl, ⟨Kd.R_nil _ _ _ _ _⟩, ⟨Below.refl _ _⟩⟩
  case round =>
    obtain ⟨i, hi, rfl, HO, HB⟩ := hrel
    by_cases hlt : i < l0.length
    · obtain ⟨Ao, co, rfl⟩ := Kd.R_slice HO.out
      obtain ⟨ad0, rfl, hx0⟩ := Kd.at_string HR0.out (i : Int) (by omega) (by omega)
      replace hx0 := (HB.out.cell (World.block_lt_of_cell? w _ hx0)).trans hx0
      simp only [Int.toNat_natCast] at hx0
      obtain ⟨s, hs⟩ : ∃ s, s = l0[i] := ⟨_, rfl⟩
      have hs' : rdOf ByteArray.empty l0 (i : Int) = s := by rw [hs]; simp [rdOf, List.getD_eq_getElem?_getD, List.getElem?_eq_getElem hlt]
      rw [hs'] at hx0
      have HK := Aside0.mk (cut_f s (HSZ.out s (by rw [hs]; exact List.getElem_mem hlt)))
      obtain ⟨D, hD⟩ : ∃ D, D = (l0.take i).map optE := ⟨_, rfl⟩
      have hDl : D.length ≤ i := by rw [hD, List.length_map, List.length_take]; omega
      have HN := Lib.hid (show (l0.take (i + 1)).map optE = D ++ [optE s] by rw [List.take_succ_eq_append_getElem hlt, List.map_append, hD, hs]; rfl)
      rw [← hD] at HO ⊢
      clear hs hs' hD
      obtain ⟨r1, r2, r3, hrr⟩ : ∃ r1 r2 r3, trip (spE s) = (r1, r2, r3) := ⟨_, _, _, rfl⟩
      have HOE := Lib.hid (show optE s = ⟨r1, r2, r3⟩ by unfold optE; rw [hrr])
      rw [hrr] at HK
      clear hrr
      go_wp2_with (first
        | (go_at_call 63; refine (spec_mapsCut.calls _ s r1 r2 r3 _ HK.out).mono ?_; rintro e w1 ⟨rfl, hd⟩; have HO1 := Aside0.mk (Kd.R_below HO.out hd.below); have HB1 := Aside0.mk (below_then HB.out HB.out.size hd.below); clear hd)
        | (at_builtin; refine Kd.R_append k75 (w0 := w) w.heap.size rfl _ _ 28 75 (.agg #[.string ⟨#[]⟩, .string ⟨#[]⟩, .bool false]) 40 rfl Tryz.underlying28 infoO rfl (by decide) (by decide) _ D ⟨r1, r2, r3⟩ [.string r1, .string r2, .bool r3] (fun _ => True) (fun _ => False) rfl rfl ?hp (fun _ h => h.elim) (fun _ _ => trivial) ?hO ?hB ?hS ?hL ?_; (case hp => exact k75_mkM _ _ _ _); (case hO => exact HO1.out); (case hB => exact HB1.out); (case hS => exact HB1.out.size); (case hL => omega); intro v2 w2 ho2 hb2 hg2 hat2; have HO2 := Aside0.mk ho2; have HB2 := Aside0.mk hb2; clear ho2 hb2 hg2 hat2))
      go_roundw
      case rel =>
        refine ⟨i + 1, by omega, by go_num, ⟨?_⟩, HB2⟩
        rw [HN.out, HOE.out]; exact HO2.out
      case measure => simp [intOf]; omega
    · obtain rfl : i = l0.length := by omega
      rw [List.take_length] at HO
      obtain ⟨A1, c1, rfl, hl1, hC1⟩ := Kd.R_reads HO.out
      obtain ⟨D, hD⟩ : ∃ D, D = l0.map optE := ⟨_, rfl⟩
      have hDl : D.length ≤ 2147483647 := by rw [hD, List.length_map]; exact hl
      rw [← hD] at hl1 hC1 HO ⊢
      have HD := Lib.hid hD
      have HC1 := Aside0.mk hC1
      have HL1 := Aside0.mk hl1
      clear hC1 hl1 hD
      go_wp2_with (go_at_call 29; refine (spec_FitOpts A1 c1 D _ HC1.out HL1.out (by omega)).mono ?_; rintro e w10 ⟨v10, rfl, ho10, hb10⟩; have HO10 := Aside0.mk (Kd.R_lower ho10 HB.out.size); have HB10 := Aside0.mk (below_then HB.out HB.out.size hb10); clear ho10 hb10)
      go_ret
      have hdd := HD.out
      subst hdd
      exact ⟨v10, rfl, HO10.out, HB10.out⟩
set_option maxHeartbeats 4000000 in
set_option maxRecDepth 100000 in
theorem law_FnMappingEquals (A0 : Option Addr) (c0 : Nat) (l0 : List ByteArray) (w : World) (hr0 : Kd.C Kd.string w A0 l0.length l0) (hc0 : l0.length ≤ c0) (htab : Lib.TabIs Tryz.prog w "strings.asciiSpace" .u8 Lib.asciiSpaceTab) :
    Calls Tryz.prog 4 #[.slice A0 l0.length c0] w fun e w' => e = .returned (.bool true) ∧ Below w.heap.size w w' := by
  have HT := Lib.hid (Lib.tabBelow_of_tabIs htab)
  have HR0 := Aside0.mk hr0
  have HC0 := Aside0.mk hc0
  clear htab hr0 hc0
  obtain ⟨r0, hf0, hs0⟩ := fits2s l0
  have HF0 := Lib.hid hf0
  have HS0 := Lib.hid hs0
  clear hf0 hs0
  go_enter Tryz.func4, Tryz.ntmps4
  go_upto_region 1 with (fail)
  cases r0 with
  | false =>
    go_wp2_with (first
      | (go_at_call 11; refine (laws_zzFits2.calls _ A0 c0 l0 false _ HR0.out HC0.out HF0.out).mono ?_; rintro e w1 ⟨rfl, hd1⟩; have HB1 := Aside0.mk (show Below w.heap.size w w1 from hd1.below); clear hd1))
    go_ret
    exact ⟨rfl, HB1.out⟩
  | true =>
    have hL0 := (HS0.out rfl).1
    have HSZ := Lib.hid (HS0.out rfl).2
    obtain ⟨L, hL⟩ : ∃ L, L = fitO (l0.map optE) := ⟨_, rfl⟩
    have hLL : L.length ≤ 2147483647 := by rw [hL]; refine Nat.le_trans (fitO_len _) ?_; rw [List.length_map]; exact hL0
    have HL := Lib.hid hL
    clear hL
    have HSA := Lib.hid (sameO_f L (by omega))
    go_wp2_with (first
      | (go_at_call 11; refine (laws_zzFits2.calls _ A0 c0 l0 true _ HR0.out HC0.out HF0.out).mono ?_; rintro e w1 ⟨rfl, hd1⟩; have HB1 := Aside0.mk (show Below w.heap.size w w1 from hd1.below); clear hd1)
      | (go_at_call 19; refine (impl_NewEquals A0 c0 l0 _ (Kd.C_below HR0.out HB1.out) HC0.out hL0 HSZ.out).mono ?_; rintro e w7 ⟨v7, g, m, rfl, ho7, ha7, hp7, hi7, hg7, hb7⟩; obtain ⟨A7, c7, rfl, hl7, hC7⟩ := Kd.R_reads ho7; have hmm := equalled ha7 hp7 hi7; rw [← HL.out] at hmm; have hff := fromO_f g (by omega); rw [hmm] at hff; have HFF := Lib.hid hff; have HC7 := Aside0.mk hC7; have HL7 := Aside0.mk hl7; have HB7 := Aside0.mk (below_then HB1.out HB1.out.size hb7); clear ho7 hC7 hl7 hb7 hmm hff ha7 hp7 hi7)
      | (go_at_call 18; refine (laws_optsFrom.calls _ A7 c7 g _ _ HC7.out HL7.out HFF.out).mono ?_; rintro e w8 ⟨v8, rfl, ho8, hb8⟩; obtain ⟨A8, c8, rfl, hl8, hC8⟩ := Kd.R_reads ho8; have HC8 := Aside0.mk hC8; have HL8 := Aside0.mk hl8; have HB8 := Aside0.mk (below_then HB7.out HB7.out.size hb8); clear ho8 hC8 hl8 hb8)
      | (go_at_call 20; refine (spec_Equals A0 c0 l0 _ (Kd.C_below HR0.out HB8.out) HC0.out hL0 HSZ.out).mono ?_; rintro e w9 ⟨v9, rfl, ho9, hb9⟩; rw [← HL.out] at ho9; obtain ⟨A9, c9, rfl, hl9, hC9⟩ := Kd.R_reads ho9; have HC9 := Aside0.mk hC9; have HL9 := Aside0.mk hl9; have HC8b := Aside0.mk (Kd.C_below HC8.out hb9); have HB9 := Aside0.mk (below_then HB8.out HB8.out.size hb9); clear ho9 hC9 hl9 hb9)
      | (go_at_call 17; refine (laws_sameOpts.calls _ A8 c8 L A9 c9 L true _ HC8b.out HL8.out HC9.out HL9.out HSA.out).mono ?_; rintro e wa ⟨rfl, hda⟩; have HBa := Aside0.mk (below_then HB9.out HB9.out.size hda.below); clear hda)
      | (go_at_call 16; refine (laws_mapsAwake _ (HT.out _ HBa.out)).mono ?_; rintro e wb ⟨rfl, hbb⟩; have HBb := Aside0.mk (below_then HBa.out HBa.out.size hbb); clear hbb))
    go_ret
    exact ⟨rfl, HBb.out⟩
end Go.Proofs.YtcocmdbleicmcaaGreatDoor.M
