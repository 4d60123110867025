/- The walk of spec.mapsSorted, and of spec.Sorted. -/
import Derived.Test.YtcocmdbleicmcaaGreatDoorFitP
namespace Go.Proofs.YtcocmdbleicmcaaGreatDoor.M
set_option linter.unusedVariables false
set_option linter.unusedSimpArgs false
set_option linter.unusedSectionVars false
open Go.RowKit Go.Proofs.YtcocmdbleicmcaaGreatDoorW.PrintWords Go.Proofs.YtcocmdbleicmcaaGreatDoorW.PrintLast Go.Proofs.YtcocmdbleicmcaaGreatDoor.PX

theorem infoS : (Tryz.prog.info? 9).map (fun i => (i.zero, i.size, i.bytes)) = some (some (.string ⟨#[]⟩), 1, 16) := by kernel_rfl
theorem gtr_true {p x : ByteArray} (h : Ord.lt x p = true) : binOp .gtr 9 (.string p) (.string x) = pure (.bool true) := by
  have h1 : Op.bytesLess p.toList x.toList = false := Ord.lt_asymm h
  have h2 : (p.toList == x.toList) = false := by
    cases e : (p.toList == x.toList)
    · rfl
    · have := Ord.toList_inj (by simpa using e)
      rw [this, Ord.lt_irrefl] at h
      cases h
  simp only [binOp, Op.stringOp, h1, h2]
  rfl
theorem gtr_false {p x : ByteArray} (h : Ord.lt x p = false) : binOp .gtr 9 (.string p) (.string x) = pure (.bool false) := by
  cases e : Ord.lt p x
  · have := Ord.lt_tri h e
    subst this
    simp [binOp, Op.stringOp]
  · have h1 : Op.bytesLess p.toList x.toList = true := e
    simp [binOp, Op.stringOp, h1]
theorem sort_next {l : List ByteArray} {ol : List ByteArray} {x : ByteArray} {i k : Nat} (h : i < l.length) (hx : x = rdOf ByteArray.empty l (i : Int)) (ho : ol = Ord.sortS (l.take i)) (hk : k ≤ ol.length) (hhi : ∀ j (h : j < ol.length), k ≤ j → Ord.lt x ol[j] = true) (hlo : ∀ (h : k - 1 < ol.length), 0 < k → Ord.lt x ol[k - 1] = false) : Ord.sortS (l.take (i + 1)) = ol.take k ++ x :: ol.drop k := by
  have e : x = l[i] := by rw [hx]; simp [rdOf, List.getD_eq_getElem?_getD, List.getElem?_eq_getElem h]
  rw [take_next h, ← e]
  exact Ord.sort_ins ho hk hhi hlo
set_option maxHeartbeats 4000000 in
set_option maxRecDepth 100000 in
theorem spec_mapsSorted (A0 : Option Addr) (c0 : Nat) (l0 : List ByteArray) (w : World) (hr0 : Kd.C Kd.string w A0 l0.length l0) (hc0 : l0.length ≤ c0) (hl : l0.length ≤ 1099511627776) :
    Calls Tryz.prog 76 #[.slice A0 l0.length c0] w fun e w' => ∃ v, e = .returned v ∧ Kd.R Kd.string 9 w' w.heap.size (fun _ => True) v (Ord.sortS l0) ∧ Below w.heap.size w w' := by
  have HR0 := Aside0.mk hr0
  clear hr0 hc0
  obtain ⟨i0, hii, _, hi1, _⟩ := info_parts infoS
  go_enter Tryz.func76, Tryz.ntmps76
  go_wp2
  go_loopw [3, 4] (fun v3 v4 wr => ∃ i : Nat, i ≤ l0.length ∧ v4 = .int .i64 i ∧ Aside0 (Kd.R Kd.string 9 wr w.heap.size (fun _ => True) v3 (Ord.sortS (l0.take i))) ∧ Aside0 (Below w.heap.size w wr)) (fun _ v4 _ => l0.length - (intOf v4).toNat)
  case atStart =>
    have e : Ord.sortS (l0.take 0) = [] := by simp [Ord.sortS]
    exact ⟨0, Nat.zero_le _, rfl, ⟨by rw [e]; exact Kd.R_nil _ _ _ _ _⟩, ⟨Below.refl _ _⟩⟩
  case round =>
    obtain ⟨i, hi, rfl, HO, HB⟩ := hrel
    by_cases hlt : i < l0.length
    · obtain ⟨ol, hol⟩ : ∃ ol, ol = Ord.sortS (l0.take i) := ⟨_, rfl⟩
      have hoL : ol.length ≤ i := by rw [hol, Ord.sortS_length]; exact List.length_take_le _ _
      obtain ⟨ad0, rfl, hx0⟩ := Kd.at_string HR0.out (i : Int) (by omega) (by omega)
      have hz0 := hx0
      replace hx0 := (HB.out.cell (World.block_lt_of_cell? w _ hx0)).trans hx0
      rw [← hol] at HO
      obtain ⟨A3, c3, rfl, hl3, hC3⟩ := Kd.R_reads HO.out
      obtain ⟨x, hx⟩ : ∃ x, x = rdOf ByteArray.empty l0 (i : Int) := ⟨_, rfl⟩
      rw [← hx] at hx0 hz0
      have HX := Lib.hid hx
      have HOL := Lib.hid hol
      have HC3 := Lib.hid hC3
      clear hx hol hC3
      simp only [Int.toNat_natCast] at hx0 hz0
      have HZ0 := Lib.hid hz0
      clear hz0
      go_wp2
      go_loopw [5] (fun v5 wi => ∃ k : Nat, k ≤ ol.length ∧ v5 = .int .i64 k ∧ Aside0 (∀ j (h : j < ol.length), k ≤ j → Ord.lt x ol[j] = true) ∧ ∃ m, wi = wr.drewN m) (fun v5 _ => (intOf v5).toNat)
      case atStart => exact ⟨_, Nat.le_refl _, rfl, ⟨fun j h h' => by omega⟩, 0, rfl⟩
      case round =>
        obtain ⟨k, hk, rfl, HH, m, rfl⟩ := hrel
        cases k with
        | zero =>
          obtain ⟨k, hk0⟩ : ∃ k : Nat, k = 0 := ⟨_, rfl⟩
          have HI := Lib.hid (show Ord.sortS (l0.take (i + 1)) = ol.take k ++ x :: ol.drop k from sort_next hlt HX.out HOL.out (by omega) (by rw [hk0]; exact HH.out) (fun _ h => by omega))
          go_wp2
          go_quiet (fail)
          go_wp2
          rw [show ((0 : Nat) : Int) = (k : Int) by rw [hk0]]
          replace hk : k ≤ ol.length := by omega
          clear hk0
          obtain ⟨A4, hA4⟩ : ∃ A4 : Option Addr, A4 = (if c3 = k then A3 else A3.map (·.add (k * 1))) := ⟨_, rfl⟩
          have HC4 : Aside0 (∀ W : World, Kd.C Kd.string W A3 ol.length ol → Kd.C Kd.string W A4 (ol.drop k).length (ol.drop k)) := ⟨fun W h => by rw [hA4]; exact Kd.C_drop h (by omega) hl3⟩
          have hcut1 := cut_from (P := Tryz.prog) 22 9 .i64 Tryz.underlying22 hii 1 hi1 A3 ol.length c3 (k : Int) (by omega) (by omega)
          have hcut2 := cut_to (P := Tryz.prog) 22 9 .i64 Tryz.underlying22 hii A3 ol.length c3 (k : Int) (by omega) (by omega) hl3
          simp only [Int.toNat_natCast] at hcut1 hcut2
          rw [← hA4] at hcut1
          clear hA4
          refine start_ (n := 14) (S := fun w' => w'.cell? (ad0.add i) = some (.string x)) (ds := [12]) #[false, false, false, false, false, false, false, false, false, false, false, false, false, false] (by kernel_rfl) rfl rfl (hx0) (fun hHeld => ?_)
          refine pure_ (i := 0) (N := some 30) (v := ?_) (a' := ?_) #[true, false, false, false, false, false, false, false, false, false, false, false, false, false] rfl rfl (by kernel_rfl) (fun _ _ _ h => h) (Or.inl ⟨by rfl, ?_⟩) ?_ ?_
          rotate_left
          · intro w'
            go_simp
            with_reducible rfl
          rotate_left
          · simp only [Act.put, List.setIfInBounds_toArray, List.set_cons_zero, List.set_cons_succ, i64_w, i32_w]
            rfl
          refine pure_ (i := 1) (N := some 31) (v := ?_) (a' := ?_) #[true, true, false, false, false, false, false, false, false, false, false, false, false, false] rfl rfl (by kernel_rfl) (fun _ _ _ h => h) (Or.inl ⟨by rfl, ?_⟩) ?_ ?_
          rotate_left
          · intro w'
            go_simp
            with_reducible rfl
          rotate_left
          · simp only [Act.put, List.setIfInBounds_toArray, List.set_cons_zero, List.set_cons_succ, i64_w, i32_w]
            rfl
          refine pure_ (i := 2) (N := some 32) (v := ?_) (a' := ?_) #[true, true, true, false, false, false, false, false, false, false, false, false, false, false] rfl rfl (by kernel_rfl) (fun _ _ _ h => h) (Or.inl ⟨by rfl, ?_⟩) ?_ ?_
          rotate_left
          · intro w'
            go_simp
            with_reducible rfl
          rotate_left
          · simp only [Act.put, List.setIfInBounds_toArray, List.set_cons_zero, List.set_cons_succ, i64_w, i32_w]
            rfl
          refine pure_ (i := 3) (N := some 33) (v := ?_) (a' := ?_) #[true, true, true, true, false, false, false, false, false, false, false, false, false, false] rfl rfl (by kernel_rfl) (fun _ _ _ h => h) (Or.inl ⟨by rfl, ?_⟩) ?_ ?_
          rotate_left
          · intro w'
            go_simp
            with_reducible rfl
          rotate_left
          · simp only [Act.put, List.setIfInBounds_toArray, List.set_cons_zero, List.set_cons_succ, i64_w, i32_w]
            rfl
          refine pure_ (i := 4) (N := some 34) (v := ?_) (a' := ?_) #[true, true, true, true, true, false, false, false, false, false, false, false, false, false] rfl rfl (by kernel_rfl) (fun _ _ _ h => h) (Or.inl ⟨by rfl, ?_⟩) ?_ ?_
          rotate_left
          · intro w'
            go_simp
            with_reducible rfl
          rotate_left
          · simp only [Act.put, List.setIfInBounds_toArray, List.set_cons_zero, List.set_cons_succ, i64_w, i32_w]
            rfl
          refine pure_ (i := 5) (N := some 35) (v := ?_) (a' := ?_) #[true, true, true, true, true, true, false, false, false, false, false, false, false, false] rfl rfl (by kernel_rfl) (fun _ _ _ h => h) (Or.inl ⟨by rfl, ?_⟩) ?_ ?_
          rotate_left
          · intro w'
            go_simp
            with_reducible rfl
          rotate_left
          · simp only [Act.put, List.setIfInBounds_toArray, List.set_cons_zero, List.set_cons_succ, i64_w, i32_w]
            rfl
          refine pure_ (i := 8) (N := some 38) (v := ?_) (a' := ?_) #[true, true, true, true, true, true, false, false, true, false, false, false, false, false] rfl rfl (by kernel_rfl) (fun _ _ _ h => h) (Or.inl ⟨by rfl, ?_⟩) ?_ ?_
          rotate_left
          · intro w'
            go_simp
            with_reducible rfl
          rotate_left
          · simp only [Act.put, List.setIfInBounds_toArray, List.set_cons_zero, List.set_cons_succ, i64_w, i32_w]
            rfl
          refine pure_ (i := 9) (N := some 39) (v := ?_) (a' := ?_) #[true, true, true, true, true, true, false, false, true, true, false, false, false, false] rfl rfl (by kernel_rfl) (fun _ _ _ h => h) (Or.inl ⟨by rfl, ?_⟩) ?_ ?_
          rotate_left
          · intro w'
            go_simp
            with_reducible rfl
          rotate_left
          · simp only [Act.put, List.setIfInBounds_toArray, List.set_cons_zero, List.set_cons_succ, i64_w, i32_w]
            rfl
          refine pure_ (i := 10) (N := some 40) (v := ?_) (a' := ?_) #[true, true, true, true, true, true, false, false, true, true, true, false, false, false] rfl rfl (by kernel_rfl) (fun _ _ _ h => h) (Or.inl ⟨by rfl, ?_⟩) ?_ ?_
          rotate_left
          · intro w'
            go_simp
            with_reducible rfl
          rotate_left
          · simp only [Act.put, List.setIfInBounds_toArray, List.set_cons_zero, List.set_cons_succ, i64_w, i32_w]
            rfl
          refine take_ (i := 6) (N := some 36) (v := ?_) (a' := ?_) #[true, true, true, true, true, true, true, false, true, true, true, false, false, false] rfl rfl (by kernel_rfl) (fun _ _ _ h => h) (Or.inl ⟨by rfl, ?_⟩) hHeld ?_ ?_
          rotate_left
          · intro w' s0
            go_simp
            with_reducible rfl
          rotate_left
          · simp only [Act.put, List.setIfInBounds_toArray, List.set_cons_zero, List.set_cons_succ, i64_w, i32_w]
            rfl
          refine one_ (i := 7) (N := some 37) #[true, true, true, true, true, true, true, true, true, true, true, false, false, false] rfl rfl (by kernel_rfl) (by decide) (fun K hK => ?_)
          refine Kd.R_lit_step Kd.string (w0 := w) w.heap.size 9 ?hg (N := 37) ?hd (xs := [x]) (inner := [.string x]) (ok := fun _ => True) (okp := fun _ => True) ?hr ?hp (fun _ hk => hk) trivial ?hB ?hS (by simp) ?_; (case hd => rfl); (case hg => rfl); (case hr => first | (go_simp; done) | (go_simp; rfl)); (case hp => exact Reps.snoc (ps := []) (cs := []) (Reps.none _ _) rfl rfl); (case hB => repeat (first | (with_reducible first | exact HB.out | apply below_alloc | apply pw_below_drewN | apply below_drew1) | exact HB.out)); (case hS => exact below_size (by repeat (first | (with_reducible first | exact HB.out | apply below_alloc | apply pw_below_drewN | apply below_drew1) | exact HB.out)))
          intro v64 w7 ho7 hb7 hg7 hn7
          have HR7 := Aside0.mk ho7
          have HB7 := Aside0.mk hb7
          have HO7 := Aside0.mk (Kd.R_grown (by (with_reducible repeat (first | apply Kd.R_drewN | apply Kd.R_drew)); exact HO.out) hg7 (fun _ _ h => by cases h))
          obtain ⟨b7, hn7, hn7b⟩ := hn7
          have HN7 := Aside0.mk hn7
          have HG7 := Aside0.mk hg7
          have HNB7 := Aside0.mk hn7b
          clear ho7 hb7 hg7 hn7 hn7b
          refine hK.out _ _ (((HB7.out).cell (World.block_lt_of_cell? w _ HZ0.out)).trans HZ0.out) (fun hHeld => ?_)
          clear hK K
          refine norm_ (a' := ?_) ?_ ?_
          rotate_left
          · show Act.put _ (some 37) _ = _
            simp only [Act.put, List.setIfInBounds_toArray, List.set_cons_zero, List.set_cons_succ, i64_w, i32_w]
            rfl
          refine one_ (i := 11) (N := some 41) #[true, true, true, true, true, true, true, true, true, true, true, true, false, false] rfl rfl (by kernel_rfl) (by decide) (fun K hK => ?_)
          refine Kd.R_append_rows_step Kd.string (Rr := fun x_ cs_ => Kd.string.K w7 x_ cs_) (w0 := w) w.heap.size (by rfl) (.tmp 37) (.tmp 40) 22 9 (.string ⟨#[]⟩) 16 rfl Tryz.underlying22 infoS rfl (by decide) (by decide) v64 [x] (ol.drop k) A4 _ _ (fun _ => True) (fun _ => False) rfl (by rw [← List.length_drop]; rfl) ?hO ?hR (fun x_ cs_ h_ => h_) (fun _ h_ => h_.elim) (fun _ _ => trivial) ?hB ?hS ?hL ?_; (case hO => exact HR7.out); (case hR => exact HC4.out _ (Kd.R_reads' HO7.out).2.2); (case hB => exact HB7.out); (case hS => exact HB7.out.size); (case hL => simp only [List.length_drop, List.length_singleton]; omega)
          intro v68 w11 ho11 hb11 hg11 hat11
          have HB11 := Aside0.mk hb11
          have HO11 := Aside0.mk (kept_new (by (with_reducible repeat (first | apply Kd.R_drewN | apply Kd.R_drew)); exact HO.out) HG7.out hg11 (fun b h => by rw [HN7.out] at h; injection h with h; exact h ▸ HNB7.out))
          obtain ⟨A68, c68, rfl, hl68, hC68⟩ := Kd.R_reads ho11
          have HC68 := Aside0.mk hC68
          clear ho11 hg11 hat11 hC68
          refine hK.out _ _ (((hb11).cell (World.block_lt_of_cell? w _ HZ0.out)).trans HZ0.out) (fun hHeld => ?_)
          clear hK K
          refine norm_ (a' := ?_) ?_ ?_
          rotate_left
          · show Act.put _ (some 41) _ = _
            simp only [Act.put, List.setIfInBounds_toArray, List.set_cons_zero, List.set_cons_succ, i64_w, i32_w]
            rfl
          refine last_ (i := 12) (N := some 42) #[true, true, true, true, true, true, true, true, true, true, true, true, true, false] rfl rfl (by kernel_rfl) (by decide) (fun K hK => ?_)
          refine Kd.R_append_rows_step Kd.string (Rr := fun x_ cs_ => Kd.string.K w11 x_ cs_) (w0 := w) w.heap.size (by rfl) (.tmp 32) (.tmp 41) 22 9 (.string ⟨#[]⟩) 16 rfl Tryz.underlying22 infoS rfl (by decide) (by decide) (.slice A3 k c3) (ol.take k) ([x] ++ ol.drop k) A68 _ c68 (fun _ => True) (fun _ => False) rfl rfl ?hO ?hR (fun x_ cs_ h_ => h_) (fun _ h_ => h_.elim) (fun _ _ => trivial) ?hB ?hS ?hL ?_; (case hO => exact Kd.R_take HO11.out (by omega)); (case hR => exact HC68.out); (case hB => exact HB11.out); (case hS => exact HB11.out.size); (case hL => simp only [List.length_append, List.length_take, List.length_drop, List.length_singleton]; omega)
          intro v69 w12 ho12 hb12 hg12 hat12
          have HR12 := Aside0.mk ho12
          have HB12 := Aside0.mk hb12
          clear ho12 hb12 hg12 hat12
          refine hK.out _ _ ?_
          clear hK K
          refine norm_ (a' := ?_) ?_ ?_
          rotate_left
          · show Act.put _ (some 42) _ = _
            simp only [Act.put, List.setIfInBounds_toArray, List.set_cons_zero, List.set_cons_succ, i64_w, i32_w]
            rfl
          refine pure_ (i := 13) (N := some 3) (v := ?_) (a' := ?_) #[true, true, true, true, true, true, true, true, true, true, true, true, true, true] rfl rfl (by kernel_rfl) (fun _ _ _ h => h) (Or.inl ⟨by rfl, ?_⟩) ?_ ?_
          rotate_left
          · intro w'
            go_simp
            with_reducible rfl
          rotate_left
          · simp only [Act.put, List.setIfInBounds_toArray, List.set_cons_zero, List.set_cons_succ, i64_w, i32_w]
            rfl
          refine done_ (by kernel_rfl) ?_
          
          go_wp2
          go_roundw
          case rel =>
            refine ⟨i + 1, by omega, by go_num, ⟨?_⟩, ⟨?_⟩⟩
            · rw [HI.out]; exact HR12.out
            · exact HB12.out
          case measure => simp [intOf]; omega
        | succ k =>
          obtain ⟨p, hp⟩ : ∃ p, p = ol[k] := ⟨_, rfl⟩
          obtain ⟨ad1, e1, hy0⟩ := Kd.at_string HC3.out (k : Int) (by omega) (by omega)
          subst e1
          have hpe : rdOf ByteArray.empty ol (k : Int) = p := by rw [hp]; simp [rdOf, List.getD_eq_getElem?_getD, List.getElem?_eq_getElem (show k < ol.length by omega)]
          rw [hpe] at hy0
          simp only [Int.toNat_natCast] at hy0
          have HP := Lib.hid hp
          have hcast : ((k + 1 : Nat) : Int) - 1 = (k : Int) := by omega
          have hw : IntKind.i64.wrap (k : Int) = (k : Int) := wrap_small _ (by omega) (by omega)
          have hklt : k < ol.length := by omega
          clear hp hpe
          by_cases hgt : Ord.lt x p = true
          · have hgo := gtr_true hgt
            have HG := Lib.hid hgt
            clear hgt
            go_wp2
            go_quiet (fail)
            go_wp2
            go_roundw
            case rel => exact ⟨k, by omega, by first | rfl | go_num | simp, ⟨fun j h h' => by
              rcases Nat.lt_or_ge k j with hj | hj
              · exact HH.out j h hj
              · have e : j = k := by omega
                subst e
                rw [← HP.out]; exact HG.out⟩, _, rfl⟩
            case measure => simp [intOf]; try omega
          · have hp3 : Ord.lt x p = false := by cases e : Ord.lt x p; (· rfl); (· exact absurd e hgt)
            have hgo := gtr_false hp3
            have HG := Lib.hid hp3
            clear hgt
            obtain ⟨k', hk0⟩ : ∃ k' : Nat, k' = k + 1 := ⟨_, rfl⟩
            have HI := Lib.hid (show Ord.sortS (l0.take (i + 1)) = ol.take k' ++ x :: ol.drop k' from sort_next hlt HX.out HOL.out (by omega) (by rw [hk0]; exact HH.out) (fun h _ => by
              have e : ol[k' - 1] = p := by rw [HP.out]; congr 1; omega
              rw [e]; exact HG.out))
            clear hp3
            go_wp2
            go_quiet (fail)
            go_wp2
            rw [show ((k + 1 : Nat) : Int) = (k' : Int) by rw [hk0]]
            replace hk : k' ≤ ol.length := by omega
            clear hk0 HH HP HG hcast hy0 hgo hw hklt
            obtain ⟨A4, hA4⟩ : ∃ A4 : Option Addr, A4 = (if c3 = k' then (some ad1) else (some ad1 : Option Addr).map (·.add (k' * 1))) := ⟨_, rfl⟩
            have HC4 : Aside0 (∀ W : World, Kd.C Kd.string W (some ad1) ol.length ol → Kd.C Kd.string W A4 (ol.drop k').length (ol.drop k')) := ⟨fun W h => by rw [hA4]; exact Kd.C_drop h (by omega) hl3⟩
            have hcut1 := cut_from (P := Tryz.prog) 22 9 .i64 Tryz.underlying22 hii 1 hi1 (some ad1) ol.length c3 (k' : Int) (by omega) (by omega)
            have hcut2 := cut_to (P := Tryz.prog) 22 9 .i64 Tryz.underlying22 hii (some ad1) ol.length c3 (k' : Int) (by omega) (by omega) hl3
            simp only [Int.toNat_natCast] at hcut1 hcut2
            rw [← hA4] at hcut1
            clear hA4
            refine start_ (n := 14) (S := fun w' => w'.cell? (ad0.add i) = some (.string x)) (ds := [12]) #[false, false, false, false, false, false, false, false, false, false, false, false, false, false] (by kernel_rfl) rfl rfl (hx0) (fun hHeld => ?_)
            refine pure_ (i := 0) (N := some 30) (v := ?_) (a' := ?_) #[true, false, false, false, false, false, false, false, false, false, false, false, false, false] rfl rfl (by kernel_rfl) (fun _ _ _ h => h) (Or.inl ⟨by rfl, ?_⟩) ?_ ?_
            rotate_left
            · intro w'
              go_simp
              with_reducible rfl
            rotate_left
            · simp only [Act.put, List.setIfInBounds_toArray, List.set_cons_zero, List.set_cons_succ, i64_w, i32_w]
              rfl
            refine pure_ (i := 1) (N := some 31) (v := ?_) (a' := ?_) #[true, true, false, false, false, false, false, false, false, false, false, false, false, false] rfl rfl (by kernel_rfl) (fun _ _ _ h => h) (Or.inl ⟨by rfl, ?_⟩) ?_ ?_
            rotate_left
            · intro w'
              go_simp
              with_reducible rfl
            rotate_left
            · simp only [Act.put, List.setIfInBounds_toArray, List.set_cons_zero, List.set_cons_succ, i64_w, i32_w]
              rfl
            refine pure_ (i := 2) (N := some 32) (v := ?_) (a' := ?_) #[true, true, true, false, false, false, false, false, false, false, false, false, false, false] rfl rfl (by kernel_rfl) (fun _ _ _ h => h) (Or.inl ⟨by rfl, ?_⟩) ?_ ?_
            rotate_left
            · intro w'
              go_simp
              with_reducible rfl
            rotate_left
            · simp only [Act.put, List.setIfInBounds_toArray, List.set_cons_zero, List.set_cons_succ, i64_w, i32_w]
              rfl
            refine pure_ (i := 3) (N := some 33) (v := ?_) (a' := ?_) #[true, true, true, true, false, false, false, false, false, false, false, false, false, false] rfl rfl (by kernel_rfl) (fun _ _ _ h => h) (Or.inl ⟨by rfl, ?_⟩) ?_ ?_
            rotate_left
            · intro w'
              go_simp
              with_reducible rfl
            rotate_left
            · simp only [Act.put, List.setIfInBounds_toArray, List.set_cons_zero, List.set_cons_succ, i64_w, i32_w]
              rfl
            refine pure_ (i := 4) (N := some 34) (v := ?_) (a' := ?_) #[true, true, true, true, true, false, false, false, false, false, false, false, false, false] rfl rfl (by kernel_rfl) (fun _ _ _ h => h) (Or.inl ⟨by rfl, ?_⟩) ?_ ?_
            rotate_left
            · intro w'
              go_simp
              with_reducible rfl
            rotate_left
            · simp only [Act.put, List.setIfInBounds_toArray, List.set_cons_zero, List.set_cons_succ, i64_w, i32_w]
              rfl
            refine pure_ (i := 5) (N := some 35) (v := ?_) (a' := ?_) #[true, true, true, true, true, true, false, false, false, false, false, false, false, false] rfl rfl (by kernel_rfl) (fun _ _ _ h => h) (Or.inl ⟨by rfl, ?_⟩) ?_ ?_
            rotate_left
            · intro w'
              go_simp
              with_reducible rfl
            rotate_left
            · simp only [Act.put, List.setIfInBounds_toArray, List.set_cons_zero, List.set_cons_succ, i64_w, i32_w]
              rfl
            refine pure_ (i := 8) (N := some 38) (v := ?_) (a' := ?_) #[true, true, true, true, true, true, false, false, true, false, false, false, false, false] rfl rfl (by kernel_rfl) (fun _ _ _ h => h) (Or.inl ⟨by rfl, ?_⟩) ?_ ?_
            rotate_left
            · intro w'
              go_simp
              with_reducible rfl
            rotate_left
            · simp only [Act.put, List.setIfInBounds_toArray, List.set_cons_zero, List.set_cons_succ, i64_w, i32_w]
              rfl
            refine pure_ (i := 9) (N := some 39) (v := ?_) (a' := ?_) #[true, true, true, true, true, true, false, false, true, true, false, false, false, false] rfl rfl (by kernel_rfl) (fun _ _ _ h => h) (Or.inl ⟨by rfl, ?_⟩) ?_ ?_
            rotate_left
            · intro w'
              go_simp
              with_reducible rfl
            rotate_left
            · simp only [Act.put, List.setIfInBounds_toArray, List.set_cons_zero, List.set_cons_succ, i64_w, i32_w]
              rfl
            refine pure_ (i := 10) (N := some 40) (v := ?_) (a' := ?_) #[true, true, true, true, true, true, false, false, true, true, true, false, false, false] rfl rfl (by kernel_rfl) (fun _ _ _ h => h) (Or.inl ⟨by rfl, ?_⟩) ?_ ?_
            rotate_left
            · intro w'
              go_simp
              with_reducible rfl
            rotate_left
            · simp only [Act.put, List.setIfInBounds_toArray, List.set_cons_zero, List.set_cons_succ, i64_w, i32_w]
              rfl
            refine take_ (i := 6) (N := some 36) (v := ?_) (a' := ?_) #[true, true, true, true, true, true, true, false, true, true, true, false, false, false] rfl rfl (by kernel_rfl) (fun _ _ _ h => h) (Or.inl ⟨by rfl, ?_⟩) hHeld ?_ ?_
            rotate_left
            · intro w' s0
              go_simp
              with_reducible rfl
            rotate_left
            · simp only [Act.put, List.setIfInBounds_toArray, List.set_cons_zero, List.set_cons_succ, i64_w, i32_w]
              rfl
            refine one_ (i := 7) (N := some 37) #[true, true, true, true, true, true, true, true, true, true, true, false, false, false] rfl rfl (by kernel_rfl) (by decide) (fun K hK => ?_)
            refine Kd.R_lit_step Kd.string (w0 := w) w.heap.size 9 ?hg (N := 37) ?hd (xs := [x]) (inner := [.string x]) (ok := fun _ => True) (okp := fun _ => True) ?hr ?hp (fun _ hk => hk) trivial ?hB ?hS (by simp) ?_; (case hd => rfl); (case hg => rfl); (case hr => first | (go_simp; done) | (go_simp; rfl)); (case hp => exact Reps.snoc (ps := []) (cs := []) (Reps.none _ _) rfl rfl); (case hB => repeat (first | (with_reducible first | exact HB.out | apply below_alloc | apply pw_below_drewN | apply below_drew1) | exact HB.out)); (case hS => exact below_size (by repeat (first | (with_reducible first | exact HB.out | apply below_alloc | apply pw_below_drewN | apply below_drew1) | exact HB.out)))
            intro v64 w7 ho7 hb7 hg7 hn7
            have HR7 := Aside0.mk ho7
            have HB7 := Aside0.mk hb7
            have HO7 := Aside0.mk (Kd.R_grown (by (with_reducible repeat (first | apply Kd.R_drewN | apply Kd.R_drew)); exact HO.out) hg7 (fun _ _ h => by cases h))
            obtain ⟨b7, hn7, hn7b⟩ := hn7
            have HN7 := Aside0.mk hn7
            have HG7 := Aside0.mk hg7
            have HNB7 := Aside0.mk hn7b
            clear ho7 hb7 hg7 hn7 hn7b
            refine hK.out _ _ (((HB7.out).cell (World.block_lt_of_cell? w _ HZ0.out)).trans HZ0.out) (fun hHeld => ?_)
            clear hK K
            refine norm_ (a' := ?_) ?_ ?_
            rotate_left
            · show Act.put _ (some 37) _ = _
              simp only [Act.put, List.setIfInBounds_toArray, List.set_cons_zero, List.set_cons_succ, i64_w, i32_w]
              rfl
            refine one_ (i := 11) (N := some 41) #[true, true, true, true, true, true, true, true, true, true, true, true, false, false] rfl rfl (by kernel_rfl) (by decide) (fun K hK => ?_)
            refine Kd.R_append_rows_step Kd.string (Rr := fun x_ cs_ => Kd.string.K w7 x_ cs_) (w0 := w) w.heap.size (by rfl) (.tmp 37) (.tmp 40) 22 9 (.string ⟨#[]⟩) 16 rfl Tryz.underlying22 infoS rfl (by decide) (by decide) v64 [x] (ol.drop k') A4 _ _ (fun _ => True) (fun _ => False) rfl (by rw [← List.length_drop]; rfl) ?hO ?hR (fun x_ cs_ h_ => h_) (fun _ h_ => h_.elim) (fun _ _ => trivial) ?hB ?hS ?hL ?_; (case hO => exact HR7.out); (case hR => exact HC4.out _ (Kd.R_reads' HO7.out).2.2); (case hB => exact HB7.out); (case hS => exact HB7.out.size); (case hL => simp only [List.length_drop, List.length_singleton]; omega)
            intro v68 w11 ho11 hb11 hg11 hat11
            have HB11 := Aside0.mk hb11
            have HO11 := Aside0.mk (kept_new (by (with_reducible repeat (first | apply Kd.R_drewN | apply Kd.R_drew)); exact HO.out) HG7.out hg11 (fun b h => by rw [HN7.out] at h; injection h with h; exact h ▸ HNB7.out))
            obtain ⟨A68, c68, rfl, hl68, hC68⟩ := Kd.R_reads ho11
            have HC68 := Aside0.mk hC68
            clear ho11 hg11 hat11 hC68
            refine hK.out _ _ (((hb11).cell (World.block_lt_of_cell? w _ HZ0.out)).trans HZ0.out) (fun hHeld => ?_)
            clear hK K
            refine norm_ (a' := ?_) ?_ ?_
            rotate_left
            · show Act.put _ (some 41) _ = _
              simp only [Act.put, List.setIfInBounds_toArray, List.set_cons_zero, List.set_cons_succ, i64_w, i32_w]
              rfl
            refine last_ (i := 12) (N := some 42) #[true, true, true, true, true, true, true, true, true, true, true, true, true, false] rfl rfl (by kernel_rfl) (by decide) (fun K hK => ?_)
            refine Kd.R_append_rows_step Kd.string (Rr := fun x_ cs_ => Kd.string.K w11 x_ cs_) (w0 := w) w.heap.size (by rfl) (.tmp 32) (.tmp 41) 22 9 (.string ⟨#[]⟩) 16 rfl Tryz.underlying22 infoS rfl (by decide) (by decide) (.slice (some ad1) k' c3) (ol.take k') ([x] ++ ol.drop k') A68 _ c68 (fun _ => True) (fun _ => False) rfl rfl ?hO ?hR (fun x_ cs_ h_ => h_) (fun _ h_ => h_.elim) (fun _ _ => trivial) ?hB ?hS ?hL ?_; (case hO => exact Kd.R_take HO11.out (by omega)); (case hR => exact HC68.out); (case hB => exact HB11.out); (case hS => exact HB11.out.size); (case hL => simp only [List.length_append, List.length_take, List.length_drop, List.length_singleton]; omega)
            intro v69 w12 ho12 hb12 hg12 hat12
            have HR12 := Aside0.mk ho12
            have HB12 := Aside0.mk hb12
            clear ho12 hb12 hg12 hat12
            refine hK.out _ _ ?_
            clear hK K
            refine norm_ (a' := ?_) ?_ ?_
            rotate_left
            · show Act.put _ (some 42) _ = _
              simp only [Act.put, List.setIfInBounds_toArray, List.set_cons_zero, List.set_cons_succ, i64_w, i32_w]
              rfl
            refine pure_ (i := 13) (N := some 3) (v := ?_) (a' := ?_) #[true, true, true, true, true, true, true, true, true, true, true, true, true, true] rfl rfl (by kernel_rfl) (fun _ _ _ h => h) (Or.inl ⟨by rfl, ?_⟩) ?_ ?_
            rotate_left
            · intro w'
              go_simp
              with_reducible rfl
            rotate_left
            · simp only [Act.put, List.setIfInBounds_toArray, List.set_cons_zero, List.set_cons_succ, i64_w, i32_w]
              rfl
            refine done_ (by kernel_rfl) ?_
            
            go_wp2
            go_roundw
            case rel =>
              refine ⟨i + 1, by omega, by go_num, ⟨?_⟩, ⟨?_⟩⟩
              · rw [HI.out]; exact HR12.out
              · exact HB12.out
            case measure => simp [intOf]; omega
    · go_wp2
      go_ret
      obtain rfl : i = l0.length := by omega
      rw [List.take_length] at HO
      exact ⟨_, rfl, HO.out, HB.out⟩
end Go.Proofs.YtcocmdbleicmcaaGreatDoor.M
