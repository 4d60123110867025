/- The walks of spec.Listed, spec.Sorted, impl.StringList, impl.EqualsMap and laws.FnEqualsMap. -/
import Derived.Test.YtcocmdbleicmcaaGreatDoorStrList
import Derived.Test.YtcocmdbleicmcaaGreatDoorAwake
import Derived.Test.YtcocmdbleicmcaaGreatDoorDistinct
namespace Go.Proofs.YtcocmdbleicmcaaGreatDoor.M
set_option linter.unusedVariables false
set_option linter.unusedSimpArgs false
set_option linter.unusedSectionVars false
open Go.RowKit Go.Proofs.YtcocmdbleicmcaaGreatDoorW.PrintWords Go.Proofs.YtcocmdbleicmcaaGreatDoorW.PrintLast Go.Proofs.YtcocmdbleicmcaaGreatDoor.PX Go.Proofs.YtcocmdbleicmcaaGreatDoor.SM

set_option maxHeartbeats 4000000 in
set_option maxRecDepth 100000 in
theorem spec_Sorted (A0 : Option Addr) (c0 : Nat) (l0 : List ByteArray) (w : World) (hr0 : Kd.C Kd.string w A0 l0.length l0) (hc0 : l0.length ≤ c0) (hl : l0.length ≤ 1099511627776) :
    Calls Tryz.prog 40 #[.slice A0 l0.length c0] w fun e w' => ∃ v, e = .returned v ∧ Kd.R Kd.string 9 w' w.heap.size (fun _ => True) v (Ord.sortS l0) ∧ Below w.heap.size w w' := by
  have HR0 := Aside0.mk hr0
  have HC0 := Aside0.mk hc0
  clear hr0 hc0
  go_enter Tryz.func40, Tryz.ntmps40
  go_wp2_with (go_at_call 76; refine (spec_mapsSorted A0 c0 l0 _ HR0.out HC0.out hl).mono ?_; rintro e w1 ⟨v, rfl, ho, hb⟩; have HO := Aside0.mk ho; have HB := Aside0.mk hb; clear ho hb)
  go_ret
  exact ⟨v, rfl, HO.out, HB.out⟩
theorem rd_getP {l : List SP} {i : Nat} (h : i < l.length) : rd_T52 l (i : Int) = l[i] := by
  simp [rd_T52, List.getD_eq_getElem?_getD, List.getElem?_eq_getElem h]
set_option maxHeartbeats 4000000 in
set_option maxRecDepth 100000 in
theorem spec_Listed (A0 : Option Addr) (c0 : Nat) (l0 : List SP) (w : World) (hr0 : Kd.C k52 w A0 l0.length l0) (hc0 : l0.length ≤ c0) (hl : l0.length ≤ 4294967296) (hsz : ∀ x ∈ l0, x.f0.size ≤ 2147483647 ∧ x.f1.size ≤ 2147483647) :
    Calls Tryz.prog 41 #[.slice A0 l0.length c0, .string ⟨#[61]⟩] w fun e w' => ∃ v, e = .returned v ∧ Kd.R Kd.string 9 w' w.heap.size (fun _ => True) v (Ord.sortS (l0.map kvS)) ∧ Below w.heap.size w w' := by
  have HR0 := Aside0.mk hr0
  have HSZ := Lib.hid hsz
  clear hr0 hc0 hsz
  go_enter Tryz.func41, Tryz.ntmps41
  go_wp2
  go_loopw [5, 6] (fun v5 v6 wr => ∃ i : Nat, i ≤ l0.length ∧ v6 = .int .i64 i ∧ Aside0 (Kd.R Kd.string 9 wr w.heap.size (fun _ => True) v5 ((l0.take i).map kvS)) ∧ Aside0 (Below w.heap.size w wr)) (fun _ v6 _ => l0.length - (intOf v6).toNat)
  case atStart => exact ⟨0, Nat.zero_le _, rfl, ⟨Kd.R_nil _ _ _ _ _⟩, ⟨Below.refl _ _⟩⟩
  case round =>
    obtain ⟨i, hi, rfl, HO, HB⟩ := hrel
    by_cases hlt : i < l0.length
    · obtain ⟨ad0, rfl, hx0, hx1⟩ := at_T52 HR0.out (i : Int) (by omega) (by omega)
      have hz0 := hx0
      have hz1 := hx1
      replace hx0 := (HB.out.cell (World.block_lt_of_cell? w _ hx0)).trans hx0
      replace hx1 := (HB.out.cell (World.block_lt_of_cell? w _ hx1)).trans hx1
      have hbk : (ad0.add (i * 2)).block < wr.heap.size := World.block_lt_of_cell? wr _ hx0
      simp only [Int.toNat_natCast] at hx0 hx1 hz0 hz1
      rw [rd_getP hlt] at hx0 hx1 hz0 hz1
      obtain ⟨D, hD⟩ : ∃ D, D = (l0.take i).map kvS := ⟨_, rfl⟩
      have hDL : D.length ≤ i := by rw [hD, List.length_map]; exact List.length_take_le _ _
      have HN := Lib.hid (show (l0.take (i + 1)).map kvS = D ++ [kvE l0[i].f0 l0[i].f1] by rw [List.take_succ_eq_append_getElem hlt, List.map_append, hD]; rfl)
      rw [← hD] at HO
      clear hD
      have hqs := HSZ.out _ (List.getElem_mem hlt)
      generalize hgx : l0[i] = x at hx0 hx1 hz0 hz1 HN hqs
      clear hgx
      obtain ⟨xk, xv⟩ := x
      simp only at hx0 hx1 hz0 hz1 HN hqs
      have HZ0 := Lib.hid hz0
      have HZ1 := Lib.hid hz1
      clear hz0 hz1
      have hs1 : ¬ 9223372036854775807 < xk.size + 1 := by have := hqs.1; omega
      have hs2 : ¬ 9223372036854775807 < xk.size + 1 + xv.size := by have := hqs.1; have := hqs.2; omega
      clear hqs
      obtain ⟨A5, c5, rfl⟩ := Kd.R_slice HO.out
      have hkv : xk ++ (⟨#[61]⟩ : ByteArray) ++ xv = kvE xk xv := rfl
      go_wp2
      refine start_ (n := 17) (S := fun w' => w'.cell? (ad0.add (i * 2)) = some (.string xk) ∧ w'.cell? ⟨(ad0.add (i * 2)).block, (ad0.add (i * 2)).off + 1, none⟩ = some (.string xv)) (ds := [15]) #[false, false, false, false, false, false, false, false, false, false, false, false, false, false, false, false, false] (by kernel_rfl) rfl rfl ⟨hx0, hx1⟩ (fun hHeld => ?_)
      refine pure_ (i := 0) (N := some 13) (v := ?_) (a' := ?_) #[true, false, false, false, false, false, false, false, false, false, false, false, false, false, false, false, false] rfl rfl (by kernel_rfl) (fun _ _ _ h => h) (Or.inl ⟨by rfl, ?_⟩) ?_ ?_
      rotate_left
      · intro w'
        go_simp
        with_reducible rfl
      rotate_left
      · simp only [Act.put, List.setIfInBounds_toArray, List.set_cons_zero, List.set_cons_succ, i64_w, i32_w]
        rfl
      refine pure_ (i := 1) (N := some 14) (v := ?_) (a' := ?_) #[true, true, false, false, false, false, false, false, false, false, false, false, false, false, false, false, false] rfl rfl (by kernel_rfl) (fun _ _ _ h => h) (Or.inl ⟨by rfl, ?_⟩) ?_ ?_
      rotate_left
      · intro w'
        go_simp
        with_reducible rfl
      rotate_left
      · simp only [Act.put, List.setIfInBounds_toArray, List.set_cons_zero, List.set_cons_succ, i64_w, i32_w]
        rfl
      refine pure_ (i := 2) (N := some 15) (v := ?_) (a' := ?_) #[true, true, true, false, false, false, false, false, false, false, false, false, false, false, false, false, false] rfl rfl (by kernel_rfl) (fun _ _ _ h => h) (Or.inl ⟨by rfl, ?_⟩) ?_ ?_
      rotate_left
      · intro w'
        go_simp
        with_reducible rfl
      rotate_left
      · simp only [Act.put, List.setIfInBounds_toArray, List.set_cons_zero, List.set_cons_succ, i64_w, i32_w]
        rfl
      refine pure_ (i := 3) (N := some 16) (v := ?_) (a' := ?_) #[true, true, true, true, false, false, false, false, false, false, false, false, false, false, false, false, false] rfl rfl (by kernel_rfl) (fun _ _ _ h => h) (Or.inl ⟨by rfl, ?_⟩) ?_ ?_
      rotate_left
      · intro w'
        go_simp
        with_reducible rfl
      rotate_left
      · simp only [Act.put, List.setIfInBounds_toArray, List.set_cons_zero, List.set_cons_succ, i64_w, i32_w]
        rfl
      refine pure_ (i := 4) (N := some 17) (v := ?_) (a' := ?_) #[true, true, true, true, true, false, false, false, false, false, false, false, false, false, false, false, false] rfl rfl (by kernel_rfl) (fun _ _ _ h => h) (Or.inl ⟨by rfl, ?_⟩) ?_ ?_
      rotate_left
      · intro w'
        go_simp
        with_reducible rfl
      rotate_left
      · simp only [Act.put, List.setIfInBounds_toArray, List.set_cons_zero, List.set_cons_succ, i64_w, i32_w]
        rfl
      refine pure_ (i := 6) (N := some 19) (v := ?_) (a' := ?_) #[true, true, true, true, true, false, true, false, false, false, false, false, false, false, false, false, false] rfl rfl (by kernel_rfl) (fun _ _ _ h => h) (Or.inl ⟨by rfl, ?_⟩) ?_ ?_
      rotate_left
      · intro w'
        go_simp
        with_reducible rfl
      rotate_left
      · simp only [Act.put, List.setIfInBounds_toArray, List.set_cons_zero, List.set_cons_succ, i64_w, i32_w]
        rfl
      refine pure_ (i := 8) (N := some 21) (v := ?_) (a' := ?_) #[true, true, true, true, true, false, true, false, true, false, false, false, false, false, false, false, false] rfl rfl (by kernel_rfl) (fun _ _ _ h => h) (Or.inl ⟨by rfl, ?_⟩) ?_ ?_
      rotate_left
      · intro w'
        go_simp
        with_reducible rfl
      rotate_left
      · simp only [Act.put, List.setIfInBounds_toArray, List.set_cons_zero, List.set_cons_succ, i64_w, i32_w]
        rfl
      refine pure_ (i := 9) (N := some 22) (v := ?_) (a' := ?_) #[true, true, true, true, true, false, true, false, true, true, false, false, false, false, false, false, false] rfl rfl (by kernel_rfl) (fun _ _ _ h => h) (Or.inl ⟨by rfl, ?_⟩) ?_ ?_
      rotate_left
      · intro w'
        go_simp
        with_reducible rfl
      rotate_left
      · simp only [Act.put, List.setIfInBounds_toArray, List.set_cons_zero, List.set_cons_succ, i64_w, i32_w]
        rfl
      refine pure_ (i := 10) (N := some 23) (v := ?_) (a' := ?_) #[true, true, true, true, true, false, true, false, true, true, true, false, false, false, false, false, false] rfl rfl (by kernel_rfl) (fun _ _ _ h => h) (Or.inl ⟨by rfl, ?_⟩) ?_ ?_
      rotate_left
      · intro w'
        go_simp
        with_reducible rfl
      rotate_left
      · simp only [Act.put, List.setIfInBounds_toArray, List.set_cons_zero, List.set_cons_succ, i64_w, i32_w]
        rfl
      refine pure_ (i := 11) (N := some 24) (v := ?_) (a' := ?_) #[true, true, true, true, true, false, true, false, true, true, true, true, false, false, false, false, false] rfl rfl (by kernel_rfl) (fun _ _ _ h => h) (Or.inl ⟨by rfl, ?_⟩) ?_ ?_
      rotate_left
      · intro w'
        go_simp
        with_reducible rfl
      rotate_left
      · simp only [Act.put, List.setIfInBounds_toArray, List.set_cons_zero, List.set_cons_succ, i64_w, i32_w]
        rfl
      refine take_ (i := 5) (N := some 18) (v := ?_) (a' := ?_) #[true, true, true, true, true, true, true, false, true, true, true, true, false, false, false, false, false] rfl rfl (by kernel_rfl) (fun _ _ _ h => h) (Or.inl ⟨by rfl, ?_⟩) hHeld ?_ ?_
      rotate_left
      · rintro w' ⟨s0, s1⟩
        go_simp
        with_reducible rfl
      rotate_left
      · simp only [Act.put, List.setIfInBounds_toArray, List.set_cons_zero, List.set_cons_succ, i64_w, i32_w]
        rfl
      refine pure_ (i := 7) (N := some 20) (v := ?_) (a' := ?_) #[true, true, true, true, true, true, true, true, true, true, true, true, false, false, false, false, false] rfl rfl (by kernel_rfl) (fun _ _ _ h => h) (Or.inl ⟨by rfl, ?_⟩) ?_ ?_
      rotate_left
      · intro w'
        go_simp
        with_reducible rfl
      rotate_left
      · simp only [Act.put, List.setIfInBounds_toArray, List.set_cons_zero, List.set_cons_succ, i64_w, i32_w]
        rfl
      refine take_ (i := 12) (N := some 25) (v := ?_) (a' := ?_) #[true, true, true, true, true, true, true, true, true, true, true, true, true, false, false, false, false] rfl rfl (by kernel_rfl) (fun _ _ _ h => h) (Or.inl ⟨by rfl, ?_⟩) hHeld ?_ ?_
      rotate_left
      · rintro w' ⟨s0, s1⟩
        go_simp
        with_reducible rfl
      rotate_left
      · simp only [Act.put, List.setIfInBounds_toArray, List.set_cons_zero, List.set_cons_succ, i64_w, i32_w]
        rfl
      refine pure_ (i := 13) (N := some 26) (v := ?_) (a' := ?_) #[true, true, true, true, true, true, true, true, true, true, true, true, true, true, false, false, false] rfl rfl (by kernel_rfl) (fun _ _ _ h => h) (Or.inl ⟨by rfl, ?_⟩) ?_ ?_
      rotate_left
      · intro w'
        go_simp
        with_reducible rfl
      rotate_left
      · simp only [Act.put, List.setIfInBounds_toArray, List.set_cons_zero, List.set_cons_succ, i64_w, i32_w]
        rfl
      refine one_ (i := 14) (N := some 27) #[true, true, true, true, true, true, true, true, true, true, true, true, true, true, true, false, false] rfl rfl (by kernel_rfl) (by decide) (fun K hK => ?_)
      refine Kd.R_lit_step Kd.string (w0 := w) w.heap.size 9 ?hg (N := 27) ?hd (xs := [kvE xk xv]) (inner := [.string (kvE xk xv)]) (ok := fun _ => True) (okp := fun _ => True) ?hr ?hp (fun _ hk => hk) trivial ?hB ?hS (by simp) ?_; (case hd => rfl); (case hg => rfl); (case hr => first | (go_simp; done) | (go_simp; rfl)); (case hp => exact Reps.snoc (ps := []) (cs := []) (Reps.none _ _) rfl rfl); (case hB => repeat (first | (with_reducible first | exact HB.out | apply below_alloc | apply pw_below_drewN | apply below_drew1) | exact HB.out)); (case hS => exact below_size (by repeat (first | (with_reducible first | exact HB.out | apply below_alloc | apply pw_below_drewN | apply below_drew1) | exact HB.out)))
      intro v27 w7 ho7 hb7 hg7 hn7
      have HB7 := Aside0.mk hb7
      have HO7 := Aside0.mk (Kd.R_grown (by (with_reducible repeat (first | apply Kd.R_drewN | apply Kd.R_drew)); exact HO.out) hg7 (fun _ _ h => by cases h))
      obtain ⟨A27, c27, rfl, hl27, hC27⟩ := Kd.R_reads ho7
      have HC27 := Aside0.mk hC27
      clear ho7 hb7 hg7 hn7 hC27 hl27
      refine hK.out _ _ ⟨(HB7.out.cell (World.block_lt_of_cell? w _ HZ0.out)).trans HZ0.out, (HB7.out.cell (World.block_lt_of_cell? w _ HZ1.out)).trans HZ1.out⟩ (fun hHeld => ?_)
      clear hK K
      refine norm_ (a' := ?_) ?_ ?_
      rotate_left
      · show Act.put _ (some 27) _ = _
        simp only [Act.put, List.setIfInBounds_toArray, List.set_cons_zero, List.set_cons_succ, i64_w, i32_w]
        rfl
      refine last_ (i := 15) (N := some 28) #[true, true, true, true, true, true, true, true, true, true, true, true, true, true, true, true, false] rfl rfl (by kernel_rfl) (by decide) (fun K hK => ?_)
      refine Kd.R_append_rows_step Kd.string (Rr := fun x_ cs_ => Kd.string.K w7 x_ cs_) (w0 := w) w.heap.size (by rfl) (.tmp 13) (.tmp 27) 22 9 (.string ⟨#[]⟩) 16 rfl Tryz.underlying22 infoS rfl (by decide) (by decide) _ D [kvE xk xv] A27 _ c27 (fun _ => True) (fun _ => False) rfl rfl ?hO ?hR (fun x_ cs_ h_ => h_) (fun _ h_ => h_.elim) (fun _ _ => trivial) ?hB ?hS ?hL ?_; (case hO => exact HO7.out); (case hR => exact HC27.out); (case hB => exact HB7.out); (case hS => exact HB7.out.size); (case hL => simp only [List.length_singleton]; omega)
      intro v28 w8 ho8 hb8 hg8 hat8
      have HO8 := Aside0.mk ho8
      have HB8 := Aside0.mk hb8
      clear ho8 hb8 hg8 hat8
      refine hK.out _ _ ?_
      clear hK K
      refine norm_ (a' := ?_) ?_ ?_
      rotate_left
      · show Act.put _ (some 28) _ = _
        simp only [Act.put, List.setIfInBounds_toArray, List.set_cons_zero, List.set_cons_succ, i64_w, i32_w]
        rfl
      refine pure_ (i := 16) (N := some 5) (v := ?_) (a' := ?_) #[true, true, true, true, true, true, true, true, true, true, true, true, true, true, true, true, true] rfl rfl (by kernel_rfl) (fun _ _ _ h => h) (Or.inl ⟨by rfl, ?_⟩) ?_ ?_
      rotate_left
      · intro w'
        go_simp
        with_reducible rfl
      rotate_left
      · simp only [Act.put, List.setIfInBounds_toArray, List.set_cons_zero, List.set_cons_succ, i64_w, i32_w]
        rfl
      refine done_ (by kernel_rfl) ?_
      
      go_wp2
      go_roundw
      case rel =>
        refine ⟨i + 1, by omega, by go_num, ⟨?_⟩, HB8⟩
        rw [HN.out]; exact HO8.out
      case measure => simp [intOf]; omega
    · obtain rfl : i = l0.length := by omega
      rw [List.take_length] at HO
      obtain ⟨D, hD⟩ : ∃ D, D = l0.map kvS := ⟨_, rfl⟩
      have hDL : D.length ≤ 4294967296 := by rw [hD, List.length_map]; exact hl
      rw [← hD] at HO
      have HD := Lib.hid hD
      clear hD
      obtain ⟨A5, c5, rfl, hl5, hC5⟩ := Kd.R_reads HO.out
      have HC5 := Aside0.mk hC5
      have HL5 := Aside0.mk hl5
      clear hC5 hl5
      go_wp2_with (go_at_call 76; refine (spec_mapsSorted A5 c5 D _ HC5.out HL5.out (by omega)).mono ?_; rintro e w1 ⟨v, rfl, ho, hb⟩; have HOs := Aside0.mk (Kd.R_lower ho HB.out.size); have HBs := Aside0.mk (below_then HB.out HB.out.size hb); clear ho hb)
      go_ret
      have hdd := HD.out
      subst hdd
      exact ⟨v, rfl, HOs.out, HBs.out⟩
set_option maxHeartbeats 4000000 in
theorem impl_StringList (A0 : Option Addr) (c0 : Nat) (l0 : List IP) (w : World) (hr0 : Kd.C k89 w A0 l0.length l0) (hc0 : l0.length ≤ c0) (hl0 : l0.length ≤ 4294967296) (hsz : ∀ p ∈ putsP l0, p.1.size ≤ 2147483647 ∧ p.2.size ≤ 2147483647) :
    Calls Tryz.prog 39 #[.slice A0 l0.length c0] w fun e w' => ∃ v, e = .returned v ∧ Kd.R Kd.string 9 w' w.heap.size (fun _ => True) v (Ord.sortS ((putsP l0).map kvP)) ∧ Below w.heap.size w w' := by
  have HR0 := Aside0.mk hr0
  have HC0 := Aside0.mk hc0
  clear hr0 hc0
  obtain ⟨M, hM⟩ : ∃ M, M = putsP l0 := ⟨_, rfl⟩
  have hML : M.length ≤ 4294967296 := by rw [hM]; exact Nat.le_trans (putsP_len _) hl0
  rw [← hM] at hsz ⊢
  have HMM := Lib.hid hM
  have HSZ := Lib.hid hsz
  clear hM hsz
  go_enter Tryz.func39, Tryz.ntmps39
  go_upto_region 1 with (fail)
  go_wp2_with (first
    | (go_at_call 66; refine (impl_pairs A0 c0 l0 _ HR0.out HC0.out (by omega)).mono ?_; rintro e w1 ⟨b1, rfl, ht1, hb1, hB1⟩; rw [← HMM.out] at ht1; have HT1 := Aside0.mk ht1; have HB1 := Aside0.mk hB1; clear ht1 hB1 hb1)
    | (go_at_call 75; refine (utils_GetAsStringList b1 M _ HT1.out (by omega) HSZ.out).mono ?_; rintro e w2 ⟨v2, l2, rfl, ho, hp, hb⟩; have HO2 := Aside0.mk (Kd.R_lower ho HB1.out.size); have HP2 := Aside0.mk hp; have HB2 := Aside0.mk (below_then HB1.out HB1.out.size hb); have HL2 := Aside0.mk (show l2.length ≤ 1099511627776 from by (rw [hp.length_eq, List.length_map]; omega)); clear ho hp hb)
    | (go_at_call 74; refine (impl_rising v2 l2 _ _ HO2.out HL2.out).mono ?_; rintro e w3 ⟨rfl, ho, hg⟩; have HO3 := Aside0.mk ho; have HB3 := Aside0.mk (HB2.out.grown hg HB2.out.size (fun k hk => Kd.R_base HO2.out k hk)); clear ho hg))
  go_ret
  have e : Ord.sortS l2 = Ord.sortS (M.map kvP) := Ord.sortS_of_perm HP2.out
  exact ⟨_, rfl, by rw [← e]; exact HO3.out, HB3.out⟩
set_option maxHeartbeats 4000000 in
theorem impl_EqualsMap (A0 : Option Addr) (c0 : Nat) (l0 : List ByteArray) (w : World) (hr0 : Kd.C Kd.string w A0 l0.length l0) (hc0 : l0.length ≤ c0) (hl0 : l0.length ≤ 4294967296) (hsz : ∀ s ∈ l0, s.size < 4611686018427387903) (hpl : (putsQ l0).length ≤ 4294967296) :
    Calls Tryz.prog 42 #[.slice A0 l0.length c0] w fun e w' => ∃ v l, e = .returned v ∧ Kd.R k89 89 w' w.heap.size (fun _ => True) v l ∧ Ord.Asc S89.f0 l ∧ (l.map tpI).Perm (putsQ l0) ∧ l.length ≤ 4294967296 ∧ Below w.heap.size w w' := by
  have HR0 := Aside0.mk hr0
  have HC0 := Aside0.mk hc0
  have HSZ := Lib.hid hsz
  obtain ⟨M, hM⟩ : ∃ M, M = putsQ l0 := ⟨_, rfl⟩
  rw [← hM] at hpl ⊢
  have HMM := Lib.hid hM
  clear hr0 hc0 hsz hM
  go_enter Tryz.func42, Tryz.ntmps42
  go_upto_region 1 with (fail)
  go_wp2_with (first
    | (go_at_call 77; refine (utils_GetAsEqualsMap A0 c0 l0 _ HR0.out (by omega) HSZ.out).mono ?_; rintro e w1 ⟨b1, rfl, ht1, hb1, hB1⟩; rw [← HMM.out] at ht1; have HT1 := Aside0.mk ht1; have HB1 := Aside0.mk hB1; clear ht1 hB1 hb1)
    | (go_at_call 65; refine (impl_told b1 M _ HT1.out (by omega)).mono ?_; rintro e w4 ⟨v, l, rfl, ho, ha, hp, hb⟩; have HO := Aside0.mk (Kd.R_lower ho HB1.out.size); have HA := Aside0.mk ha; have HP := Aside0.mk hp; have HB4 := Aside0.mk (below_then HB1.out HB1.out.size hb); clear ho ha hp hb))
  go_ret
  exact ⟨_, _, rfl, HO.out, HA.out, HP.out, by have := HP.out.length_eq; rw [List.length_map] at this; rw [this]; exact hpl, HB4.out⟩
def okS (x : SP) : Bool := keyOk x.f0
set_option maxHeartbeats 8000000 in
set_option maxRecDepth 100000 in
theorem law_FnEqualsMap (A0 : Option Addr) (c0 : Nat) (l0 : List SP) (w : World) (hr0 : Kd.C k52 w A0 l0.length l0) (hc0 : l0.length ≤ c0) (htab : Lib.TabIs Tryz.prog w "strings.asciiSpace" .u8 Lib.asciiSpaceTab) :
    Calls Tryz.prog 8 #[.slice A0 l0.length c0] w fun e w' => e = .returned (.bool true) ∧ Below w.heap.size w w' := by
  have HT := Lib.hid (Lib.tabBelow_of_tabIs htab)
  have HR0 := Aside0.mk hr0
  have HC0 := Aside0.mk hc0
  clear htab hr0 hc0
  obtain ⟨r0, hf0, hs0⟩ := fits3z l0
  have HF0 := Lib.hid hf0
  have HS0 := Lib.hid hs0
  clear hf0 hs0
  go_enter Tryz.func8, Tryz.ntmps8
  go_upto_region 1 with (fail)
  cases r0 with
  | false =>
    go_wp2_with (first
      | (go_at_call 21; refine (laws_zzFits3.calls _ A0 c0 l0 false _ HR0.out HC0.out HF0.out).mono ?_; rintro e w1_ ⟨rfl, hb⟩; replace HR0 := Aside0.mk (Kd.C_below HR0.out hb); have HBs1 := Aside0.mk hb; clear hb))
    go_ret
    exact ⟨rfl, HBs1.out⟩
  | true =>
    have hL0 := (HS0.out rfl).1
    have HSZ := Lib.hid (HS0.out rfl).2
    go_wp2_with (go_at_call 21; refine (laws_zzFits3.calls _ A0 c0 l0 true _ HR0.out HC0.out HF0.out).mono ?_; rintro e w1 ⟨rfl, hb1⟩; have HB1 := Aside0.mk hb1; clear hb1)
    go_loopw [3, 4] (fun v3 v4 wr => ∃ i : Nat, i ≤ l0.length ∧ v4 = .int .i64 i ∧ Aside0 (Kd.R k52 52 wr w.heap.size (fun _ => True) v3 ((l0.take i).filter okS)) ∧ Aside0 (Below w.heap.size w wr)) (fun _ v4 _ => l0.length - (intOf v4).toNat)
    case atStart => exact ⟨0, Nat.zero_le _, rfl, ⟨Kd.R_nil _ _ _ _ _⟩, HB1⟩
    case round =>
      obtain ⟨i, hi, rfl, HO, HB⟩ := hrel
      by_cases hlt : i < l0.length
      · obtain ⟨ad0, rfl, hx0, hx1⟩ := at_T52 HR0.out (i : Int) (by omega) (by omega)
        replace hx0 := (HB.out.cell (World.block_lt_of_cell? w _ hx0)).trans hx0
        replace hx1 := (HB.out.cell (World.block_lt_of_cell? w _ hx1)).trans hx1
        simp only [Int.toNat_natCast] at hx0 hx1
        rw [rd_getP hlt] at hx0 hx1
        obtain ⟨D, hD⟩ : ∃ D, D = (l0.take i).filter okS := ⟨_, rfl⟩
        have hDL : D.length ≤ i := by rw [hD]; exact Nat.le_trans (List.length_filter_le _ _) (List.length_take_le _ _)
        have hkf := key_f l0[i].f0 (HSZ.out _ (List.getElem_mem hlt)).1
        have hN : (l0.take (i + 1)).filter okS = if keyOk l0[i].f0 = true then D ++ [l0[i]] else D := by
          rw [List.take_succ_eq_append_getElem hlt, List.filter_append, hD]
          cases e : keyOk l0[i].f0 <;> simp [okS, e]
        rw [← hD] at HO
        clear hD
        generalize hgx : l0[i] = x at hx0 hx1 hN hkf
        clear hgx
        obtain ⟨xk, xv⟩ := x
        simp only at hx0 hx1 hN hkf
        have HKF := Aside0.mk hkf.1
        clear hkf
        obtain ⟨A5, c5, rfl⟩ := Kd.R_slice HO.out
        cases hok : keyOk xk with
        | false =>
          rw [hok] at hN HKF
          have HN := Lib.hid hN
          clear hN hok
          go_wp2_with (go_at_call 38; refine (spec_MapsKey.calls _ xk false _ HKF.out).mono ?_; rintro e w2 ⟨rfl, hd⟩; have HO2 := Aside0.mk (Kd.R_below HO.out hd.below); have HB2 := Aside0.mk (below_then HB.out HB.out.size hd.below); clear hd)
          go_roundw
          case rel =>
            refine ⟨i + 1, by omega, by go_num, ⟨?_⟩, HB2⟩
            rw [HN.out]; exact HO2.out
          case measure => simp [intOf]; omega
        | true =>
          rw [hok] at hN HKF
          have HN := Lib.hid hN
          clear hN hok
          go_wp2_with (first
            | (go_at_call 38; refine (spec_MapsKey.calls _ xk true _ HKF.out).mono ?_; rintro e w2 ⟨rfl, hd⟩; have HO2 := Aside0.mk (Kd.R_below HO.out hd.below); have HB2 := Aside0.mk (below_then HB.out HB.out.size hd.below); replace hx0 := (hd.below.cell (World.block_lt_of_cell? _ _ hx0)).trans hx0; replace hx1 := (hd.below.cell (World.block_lt_of_cell? _ _ hx1)).trans hx1; clear hd)
            | (at_builtin; refine Kd.R_append k52 (w0 := w) w.heap.size rfl _ _ 33 52 (.agg #[.string ⟨#[]⟩, .string ⟨#[]⟩]) 32 rfl Tryz.underlying33 infoP rfl (by decide) (by decide) _ D ⟨xk, xv⟩ [.string xk, .string xv] (fun _ => True) (fun _ => False) rfl rfl ?hp (fun _ h => h.elim) (fun _ _ => trivial) ?hO ?hB ?hS ?hL ?_; (case hp => exact k52_mkM _ _ _ _); (case hO => exact HO2.out); (case hB => exact HB2.out); (case hS => exact HB2.out.size); (case hL => omega); intro v3 w3 ho3 hb3 hg3 hat3; have HO3 := Aside0.mk ho3; have HB3 := Aside0.mk hb3; clear ho3 hb3 hg3 hat3))
          go_roundw
          case rel =>
            refine ⟨i + 1, by omega, by go_num, ⟨?_⟩, HB3⟩
            rw [HN.out]; exact HO3.out
          case measure => simp [intOf]; omega
      · obtain rfl : i = l0.length := by omega
        rw [List.take_length] at HO
        obtain ⟨D, hD⟩ : ∃ D, D = l0.filter okS := ⟨_, rfl⟩
        have hDL : D.length ≤ 2147483647 := by rw [hD]; exact Nat.le_trans (List.length_filter_le _ _) hL0
        have hDk : ∀ x ∈ D, (61 : UInt8) ∉ x.f0.data.toList ∧ x.f0.size ≤ 2147483647 ∧ x.f1.size ≤ 2147483647 := by
          intro x hx
          rw [hD] at hx
          obtain ⟨h1, h2⟩ := List.mem_filter.1 hx
          have h3 := HSZ.out x h1
          exact ⟨(key_f x.f0 h3.1).2 h2, h3.2⟩
        rw [← hD] at HO
        clear hD
        obtain ⟨A3, c3, rfl, hl3, hC3⟩ := Kd.R_reads HO.out
        have HC3 := Aside0.mk hC3
        have HL3 := Aside0.mk hl3
        clear hC3 hl3
        obtain ⟨L, hL⟩ : ∃ L, L = fitP D := ⟨_, rfl⟩
        have hLL : L.length ≤ 2147483647 := by rw [hL]; exact Nat.le_trans (fitP_len _) hDL
        have hAA : Ord.Asc S52.f0 L := by rw [hL]; exact fitP_asc _
        have hLD : ∀ x ∈ L, x ∈ D := by
          intro x hx
          rw [hL] at hx
          exact lastOf_mem ((Ord.fit_mem _ _).1 hx)
        have HLL := Lib.hid hL
        clear hL
        obtain ⟨I, hI⟩ : ∃ I, I = L.map sI := ⟨_, rfl⟩
        have hIL : I.length ≤ 2147483647 := by rw [hI, List.length_map]; exact hLL
        have hto := to_f L (by omega)
        rw [← hI] at hto
        have HTO := Lib.hid hto
        obtain ⟨T, hTT⟩ : ∃ T, T = Ord.sortS ((putsP I).map kvP) := ⟨_, rfl⟩
        have hkk : (putsP I).map kvP = L.map kvS := by rw [hI, putsP_S hAA, List.map_map]; rfl
        have hTL : T = Ord.sortS (L.map kvS) := by rw [hTT, hkk]
        have hTP : T.Perm (L.map kvS) := by rw [hTL]; exact Ord.sortS_perm _
        have hTn : T.length ≤ 2147483647 := by rw [hTP.length_eq, List.length_map]; exact hLL
        have HTS := Lib.hid (show Ord.sortS T = T by rw [hTL]; exact Ord.sortS_of_perm (Ord.sortS_perm _))
        have HTZ := Lib.hid (show ∀ s ∈ T, s.size < 4611686018427387903 by
          intro s hs
          obtain ⟨x, hx, rfl⟩ := List.mem_map.1 (hTP.mem_iff.1 hs)
          have := hDk x (hLD x hx)
          rw [kvS, kvE_size]; omega)
        have HLZ := Lib.hid (show ∀ x ∈ L, x.f0.size ≤ 2147483647 ∧ x.f1.size ≤ 2147483647 from fun x hx => (hDk x (hLD x hx)).2)
        have HPZ := Lib.hid (show ∀ p ∈ putsP I, p.1.size ≤ 2147483647 ∧ p.2.size ≤ 2147483647 by
          intro p hp
          rw [hI, putsP_S hAA] at hp
          obtain ⟨x, hx, rfl⟩ := List.mem_map.1 hp
          exact (hDk x (hLD x hx)).2)
        have hsp := split_again hAA (fun x hx => (hDk x (hLD x hx)).1) hTP
        have HPC := Lib.hid (show (putsQ T).length ≤ 4294967296 by rw [hsp.length_eq, List.length_map]; omega)
        have HSP := Lib.hid hsp
        have HTT := Lib.hid hTT
        have HTL := Lib.hid hTL
        have HAA := Lib.hid hAA
        have HST := Lib.hid (sameT_f T (by omega))
        have HSM := Lib.hid (same_f L (by omega))
        clear hto hI hTT hkk hTL hTP hsp hAA hDk hLD
        go_wp2_with (first
          | (go_at_call 22; refine (spec_FitPairs A3 c3 D _ HC3.out HL3.out (by omega)).mono ?_; rintro e w1_ ⟨v, rfl, ho, hb⟩; rw [← HLL.out] at ho; obtain ⟨A4, c4, rfl, hl4, hC4⟩ := Kd.R_reads ho; clear ho; clear HC3; have HC4 := Aside0.mk hC4; have HL4 := Aside0.mk hl4; clear hC4 hl4; have HBs1 := Aside0.mk (below_then HB.out HB.out.size hb); clear HB hb)
          | (go_at_call 24; refine (laws_pairsTo.calls _ A4 c4 L I _ HC4.out HL4.out HTO.out).mono ?_; rintro e w2_ ⟨v, rfl, ho, hb⟩; obtain ⟨A5, c5, rfl, hl5, hC5⟩ := Kd.R_reads ho; clear ho; replace HC4 := Aside0.mk (Kd.C_below HC4.out hb); have HC5 := Aside0.mk hC5; have HL5 := Aside0.mk hl5; clear hC5 hl5; have HBs2 := Aside0.mk (below_then HBs1.out HBs1.out.size hb); clear HBs1 hb)
          | (go_at_call 39; refine (impl_StringList A5 c5 I _ HC5.out HL5.out (by omega) HPZ.out).mono ?_; rintro e w3_ ⟨v, rfl, ho, hb⟩; rw [← HTT.out] at ho; obtain ⟨A6, c6, rfl, hl6, hC6⟩ := Kd.R_reads ho; clear ho; clear HC5; replace HC4 := Aside0.mk (Kd.C_below HC4.out hb); have HC6 := Aside0.mk hC6; have HL6 := Aside0.mk hl6; clear hC6 hl6; have HBs3 := Aside0.mk (below_then HBs2.out HBs2.out.size hb); clear HBs2 hb)
          | (go_at_call 40; refine (spec_Sorted A6 c6 T _ HC6.out HL6.out (by omega)).mono ?_; rintro e w4_ ⟨v, rfl, ho, hb⟩; rw [HTS.out] at ho; obtain ⟨A7, c7, rfl, hl7, hC7⟩ := Kd.R_reads ho; clear ho; replace HC4 := Aside0.mk (Kd.C_below HC4.out hb); replace HC6 := Aside0.mk (Kd.C_below HC6.out hb); have HC7 := Aside0.mk hC7; have HL7 := Aside0.mk hl7; clear hC7 hl7; have HBs4 := Aside0.mk (below_then HBs3.out HBs3.out.size hb); clear HBs3 hb)
          | (go_at_call 41; refine (spec_Listed A4 c4 L _ HC4.out HL4.out (by omega) HLZ.out).mono ?_; rintro e w5_ ⟨v, rfl, ho, hb⟩; rw [← HTL.out] at ho; obtain ⟨A8, c8, rfl, hl8, hC8⟩ := Kd.R_reads ho; clear ho; replace HC4 := Aside0.mk (Kd.C_below HC4.out hb); replace HC6 := Aside0.mk (Kd.C_below HC6.out hb); replace HC7 := Aside0.mk (Kd.C_below HC7.out hb); have HC8 := Aside0.mk hC8; have HL8 := Aside0.mk hl8; clear hC8 hl8; have HBs5 := Aside0.mk (below_then HBs4.out HBs4.out.size hb); clear HBs4 hb)
          | (go_at_call 13; refine (laws_sameTexts.calls _ A7 c7 T A8 c8 T true _ HC7.out HL7.out HC8.out HL8.out HST.out).mono ?_; rintro e w6_ ⟨rfl, hd⟩; have hb := hd.below; clear hd; clear HC7; clear HC8; replace HC4 := Aside0.mk (Kd.C_below HC4.out hb); replace HC6 := Aside0.mk (Kd.C_below HC6.out hb); have HBs6 := Aside0.mk (below_then HBs5.out HBs5.out.size hb); clear HBs5 hb)
          | (go_at_call 42; refine (impl_EqualsMap A6 c6 T _ HC6.out HL6.out (by omega) HTZ.out HPC.out).mono ?_; rintro e w7_ ⟨v, g, rfl, ho, ha, hp, hg, hb⟩; have hmm := told_same HAA.out HSP.out ha hp; have hff := from_f g (by omega); rw [hmm] at hff; have HFF := Lib.hid hff; clear hff hmm ha hp; obtain ⟨A9, c9, rfl, hl9, hC9⟩ := Kd.R_reads ho; clear ho; clear HC6; replace HC4 := Aside0.mk (Kd.C_below HC4.out hb); have HC9 := Aside0.mk hC9; have HL9 := Aside0.mk hl9; clear hC9 hl9; have HBs7 := Aside0.mk (below_then HBs6.out HBs6.out.size hb); clear HBs6 hb)
          | (go_at_call 26; refine (laws_pairsFrom.calls _ A9 c9 g L _ HC9.out HL9.out HFF.out).mono ?_; rintro e w8_ ⟨v, rfl, ho, hb⟩; obtain ⟨A10, c10, rfl, hl10, hC10⟩ := Kd.R_reads ho; clear ho; clear HC9; replace HC4 := Aside0.mk (Kd.C_below HC4.out hb); have HC10 := Aside0.mk hC10; have HL10 := Aside0.mk hl10; clear hC10 hl10; have HBs8 := Aside0.mk (below_then HBs7.out HBs7.out.size hb); clear HBs7 hb)
          | (go_at_call 25; refine (laws_samePairs.calls _ A10 c10 L A4 c4 L true _ HC10.out HL10.out HC4.out HL4.out HSM.out).mono ?_; rintro e w9_ ⟨rfl, hd⟩; have hb := hd.below; clear hd; clear HC10; clear HC4; have HBs9 := Aside0.mk (below_then HBs8.out HBs8.out.size hb); clear HBs8 hb)
          | (go_at_call 16; refine (laws_mapsAwake _ (HT.out _ HBs9.out)).mono ?_; rintro e w10_ ⟨rfl, hb⟩; have HBs10 := Aside0.mk (below_then HBs9.out HBs9.out.size hb); clear HBs9 hb))
        go_ret
        exact ⟨rfl, HBs10.out⟩
end Go.Proofs.YtcocmdbleicmcaaGreatDoor.M
