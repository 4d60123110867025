/- The walk of spec.FitPairs. -/
import Derived.Test.YtgeamhmenmomhaaDoorPTx0
import Derived.Test.YtgeamhmenmomhaaDoorOrd
import Derived.Lib.Hide
import Derived.Outline
namespace Go.Proofs.YtgeamhmenmomhaaDoor.M
set_option linter.unusedVariables false
set_option linter.unusedSimpArgs false
set_option linter.unusedSectionVars false
open Go.RowKit Go.Proofs.YtgeamhmenmomhaaDoorW.PrintWords Go.Proofs.YtgeamhmenmomhaaDoorW.PrintLast Go.Proofs.YtgeamhmenmomhaaDoor.PT

def fitP (l : List S51) : List S51 := Ord.fit S51.f0 l
theorem kept_new {α : Type} {d : Kd α} {e base : Nat} {ok : Nat → Prop} {W0 W W1 : World} {v : Value} {xs : List α} {row : Option Nat} (h : d.R e W0 base ok v xs) (h1 : W0.grownBy W none) (hg : W.grownBy W1 row) (hrow : ∀ b, row = some b → W0.heap.size ≤ b) : d.R e W1 base ok v xs :=
  Kd.R_step h (fun k _ hlt => (hg.block k (Nat.lt_of_lt_of_le hlt h1.size) (fun e => by have := hrow k e.symm; omega)).trans (h1.block k hlt (by simp)))
theorem infoP : (Tryd.prog.info? 51).map (fun i => (i.zero, i.size, i.bytes)) = some (some (.agg #[.string ⟨#[]⟩, .string ⟨#[]⟩]), 2, 32) := by kernel_rfl
theorem take_next {α : Type} {l : List α} {i : Nat} (h : i < l.length) : l.take (i + 1) = l.take i ++ [l[i]] := List.take_succ_eq_append_getElem h
theorem rd_get {l : List S51} {i : Nat} (h : i < l.length) : rd_T51 l i = l[i] := by
  simp [rd_T51, List.getD_eq_getElem?_getD, List.getElem?_eq_getElem h]
theorem fit_next {l : List S51} {ol : List S51} {x : S51} {i : Nat} (h : i < l.length) (hx : x = rd_T51 l i) (ho : ol = fitP (l.take i)) : fitP (l.take (i + 1)) = Ord.step S51.f0 ol x := by
  rw [take_next h, fitP, Ord.fit_snoc, ho, hx, rd_get h]; rfl
theorem fit_set {l : List S51} {ol : List S51} {x p : S51} {i k : Nat} (h : i < l.length) (hx : x = rd_T51 l i) (ho : ol = fitP (l.take i)) (hk : k = Ord.at_ S51.f0 ol x.f0) (hp : ol[k]? = some p) (he : p.f0 = x.f0) : fitP (l.take (i + 1)) = ol.set k x := by
  rw [fit_next h hx ho]
  subst hk
  exact Ord.step_set hp he
theorem fit_ins {l : List S51} {ol : List S51} {x : S51} {i k : Nat} (h : i < l.length) (hx : x = rd_T51 l i) (ho : ol = fitP (l.take i)) (hk : k = Ord.at_ S51.f0 ol x.f0) (hp : ∀ p, ol[k]? = some p → p.f0 ≠ x.f0) : fitP (l.take (i + 1)) = ol.take k ++ x :: ol.drop k := by
  rw [fit_next h hx ho]
  subst hk
  exact Ord.step_ins hp
set_option maxHeartbeats 2000000 in
set_option maxRecDepth 100000 in
theorem spec_FitPairs (A0 : Option Addr) (c0 : Nat) (l0 : List S51) (w : World) (hr0 : Kd.C k51 w A0 l0.length l0) (hc0 : l0.length ≤ c0) (hl : l0.length ≤ 1099511627776) :
    Calls Tryd.prog 8 #[.slice A0 l0.length c0] w fun e w' => ∃ v, e = .returned v ∧ Kd.R k51 51 w' w.heap.size (fun _ => True) v (fitP l0) ∧ Below w.heap.size w w' := by
  have HR0 := Aside0.mk hr0
  have HC0 := Aside0.mk hc0
  clear hr0 hc0
  obtain ⟨i0, hii, _, hi1, _⟩ := info_parts infoP
  go_enter Tryd.func8, Tryd.ntmps8
  go_wp2
  go_loopw [3, 4] (fun v3 v4 wr => ∃ i : Nat, i ≤ l0.length ∧ v4 = .int .i64 i ∧ Aside0 (Kd.R k51 51 wr w.heap.size (fun _ => True) v3 (fitP (l0.take i))) ∧ Aside0 (Below w.heap.size w wr)) (fun _ v4 _ => l0.length - (intOf v4).toNat)
  case atStart => exact ⟨0, Nat.zero_le _, rfl, ⟨Kd.R_nil _ _ _ _ _⟩, ⟨Below.refl _ _⟩⟩
  case round =>
    obtain ⟨i, hi, rfl, HO, HB⟩ := hrel
    by_cases hlt : i < l0.length
    · obtain ⟨ol, hol⟩ : ∃ ol, ol = fitP (l0.take i) := ⟨_, rfl⟩
      have hoL : ol.length ≤ i := by rw [hol]; exact Nat.le_trans (Ord.fit_length _) (List.length_take_le _ _)
      obtain ⟨ad0, rfl, hx0, hx1⟩ := at_T51 HR0.out (i : Int) (by omega) (by omega)
      have hz0 := hx0
      have hz1 := hx1
      replace hx0 := (HB.out.cell (World.block_lt_of_cell? w _ hx0)).trans hx0
      replace hx1 := (HB.out.cell (World.block_lt_of_cell? w _ hx1)).trans hx1
      rw [← hol] at HO
      obtain ⟨A3, c3, rfl, hl3, hC3⟩ := Kd.R_reads HO.out
      obtain ⟨x, hx⟩ : ∃ x, x = rd_T51 l0 i := ⟨_, rfl⟩
      rw [← hx] at hx0 hx1 hz0 hz1
      have HX := Lib.hid hx
      have HOL := Lib.hid hol
      have HC3 := Lib.hid hC3
      clear hx hol hC3
      have hat := Ord.at_le (key := S51.f0) ol x.f0
      simp only [Int.toNat_natCast] at hx0 hx1 hz0 hz1
      have HZ0 := Lib.hid hz0
      have HZ1 := Lib.hid hz1
      clear hz0 hz1
      go_wp2
      go_loopw [5] (fun v5 wi => ∃ k : Nat, k ≤ Ord.at_ S51.f0 ol x.f0 ∧ v5 = .int .i64 k ∧ ∃ m, wi = wr.drewN m) (fun v5 _ => ol.length + 1 - (intOf v5).toNat)
      case atStart => exact ⟨0, Nat.zero_le _, rfl, 0, rfl⟩
      case round =>
        obtain ⟨k, hk, rfl, m, rfl⟩ := hrel
        by_cases hk1 : k < Ord.at_ S51.f0 ol x.f0
        · have hkl : k < ol.length := by omega
          obtain ⟨p, hp, hp2⟩ := Ord.at_lt hk1
          obtain ⟨ad1, rfl, hy0, hy1⟩ := at_T51 HC3.out (k : Int) (by omega) (by omega)
          have hpe : rd_T51 ol k = p := by simp [rd_T51, List.getD_eq_getElem?_getD, hp]
          rw [hpe] at hy0 hy1
          have hp3 : Op.bytesLess p.f0.toList x.f0.toList = true := hp2
          simp only [Int.toNat_natCast] at hy0 hy1
          clear hp hp2 hpe
          go_wp2
          go_quiet (fail)
          go_wp2
          go_roundw
          case rel => exact ⟨k + 1, by omega, by go_num, _, rfl⟩
          case measure => simp [intOf]; omega
        · obtain rfl : k = Ord.at_ S51.f0 ol x.f0 := by omega
          obtain ⟨k, hk'⟩ : ∃ k, k = Ord.at_ S51.f0 ol x.f0 := ⟨_, rfl⟩
          rw [← hk'] at hat ⊢
          have HK := Lib.hid hk'
          clear hk' hk hk1
          by_cases hkl : k < ol.length
          · obtain ⟨p, hp⟩ : ∃ p, ol[k]? = some p := ⟨ol[k], List.getElem?_eq_getElem hkl⟩
            obtain ⟨ad1, rfl, hy0, hy1⟩ := at_T51 HC3.out (k : Int) (by omega) (by omega)
            have hpe : rd_T51 ol k = p := by simp [rd_T51, List.getD_eq_getElem?_getD, hp]
            rw [hpe] at hy0 hy1
            have hp3 : Op.bytesLess p.f0.toList x.f0.toList = false := Ord.at_stop (key := S51.f0) (by rw [← HK.out]; exact hp)
            simp only [Int.toNat_natCast] at hy0 hy1
            have HP := Lib.hid hp
            clear hp hpe
            go_wp2
            go_quiet (fail)
            go_wp2
            by_cases he : p.f0 = x.f0
            · have he1 : (p.f0.toList == x.f0.toList) = true := by rw [he]; exact beq_self_eq_true _
              have HE := Lib.hid he
              clear he
              obtain ⟨inner, hown⟩ := Kd.R_own HO.out
              obtain ⟨g, cap, eg, hgb, hgl⟩ := World.ownsRow.form hown (by omega)
              injection eg with eg _ ec
              injection eg with eg
              subst eg
              subst ec
              simp only [add_plain] at hy0 hy1
              have HOW := Lib.hid hown
              clear hown
              go_quiet (fail)
              have hfr : wr.frozen? ⟨g, k * 2 + 1, none⟩ = false := by
                obtain ⟨cells, hcells⟩ := own_typed HOW.out g rfl
                exact blk_frozen hcells _
              go_wp2
              have hsg := fun n_ : Nat => Kd.R_seg (W := wr.drewN n_) (x' := x) (seg := [.string x.f1]) (j := 1) (c := [.string p.f0, .string p.f1]) (okp := fun _ => False) (Kd.R_drewN HO.out n_) (k : Int) (by omega) (by omega) rfl (by intro j u hu; rw [Int.toNat_natCast]; rcases j with _ | _ | j; (· injection hu with hu; subst hu; exact hy0); (· injection hu with hu; subst hu; exact hy1); (· simp at hu)) (by show 1 + 1 ≤ 2; decide) (by rw [HE.out]; exact k51_mkM _ _ _ _) (fun _ h => h.elim)
              simp only [Int.toNat_natCast] at hsg
              have HSG := Lib.hid hsg
              clear hsg
              go_roundw
              case rel =>
                refine ⟨i + 1, by omega, by go_num, ⟨?_⟩, ⟨?_⟩⟩
                · rw [fit_set hlt HX.out HOL.out HK.out HP.out HE.out]; exact (HSG.out _).1
                · exact Below.grown (pw_below_drewN HB.out _) (HSG.out _).2 HB.out.size (fun k' e' => by injection e' with e'; omega)
              case measure => simp [intOf]; omega
            · have he1 : (p.f0.toList == x.f0.toList) = false := beq_eq_false_iff_ne.2 (fun e => he (Ord.toList_inj e))
              have HE := Lib.hid he
              clear he
              go_quiet (fail)
              go_wp2
              have hins : ∀ p, ol[k]? = some p → p.f0 ≠ x.f0 := by intro q hq; rw [HP.out] at hq; injection hq with hq; subst hq; exact HE.out
              have HI := Lib.hid hins
              clear hins
              obtain ⟨A4, hA4⟩ : ∃ A4 : Option Addr, A4 = (if c3 = k then (some ad1) else (some ad1).map (·.add (k * 2))) := ⟨_, rfl⟩
              have HC4 : Aside0 (∀ W : World, Kd.C k51 W (some ad1) ol.length ol → Kd.C k51 W A4 (ol.drop k).length (ol.drop k)) := ⟨fun W h => by rw [hA4]; exact Kd.C_drop h (by omega) hl3⟩
              have hcut1 := cut_from (P := Tryd.prog) 26 51 .i64 Tryd.underlying26 hii 2 hi1 (some ad1) ol.length c3 (k : Int) (by omega) (by omega)
              have hcut2 := cut_to (P := Tryd.prog) 26 51 .i64 Tryd.underlying26 hii (some ad1) ol.length c3 (k : Int) (by omega) (by omega) hl3
              simp only [Int.toNat_natCast] at hcut1 hcut2
              rw [← hA4] at hcut1
              clear hA4
              refine start_ (n := 14) (S := fun w' => w'.cell? (ad0.add (i * 2)) = some (.string x.f0) ∧ w'.cell? ⟨(ad0.add (i * 2)).block, (ad0.add (i * 2)).off + 1, none⟩ = some (.string x.f1)) (ds := [12]) #[false, false, false, false, false, false, false, false, false, false, false, false, false, false] (by kernel_rfl) rfl rfl ⟨hx0, hx1⟩ (fun hHeld => ?_)
              refine pure_ (i := 0) (N := some 57) (v := ?_) (a' := ?_) #[true, false, false, false, false, false, false, false, false, false, false, false, false, false] rfl rfl (by kernel_rfl) (fun _ _ _ h => h) (Or.inl ⟨by rfl, ?_⟩) ?_ ?_
              rotate_left
              · intro w'
                go_simp
                with_reducible rfl
              rotate_left
              · simp only [Act.put, List.setIfInBounds_toArray, List.set_cons_zero, List.set_cons_succ, i64_w, i32_w]
                rfl
              refine pure_ (i := 1) (N := some 58) (v := ?_) (a' := ?_) #[true, true, false, false, false, false, false, false, false, false, false, false, false, false] rfl rfl (by kernel_rfl) (fun _ _ _ h => h) (Or.inl ⟨by rfl, ?_⟩) ?_ ?_
              rotate_left
              · intro w'
                go_simp
                with_reducible rfl
              rotate_left
              · simp only [Act.put, List.setIfInBounds_toArray, List.set_cons_zero, List.set_cons_succ, i64_w, i32_w]
                rfl
              refine pure_ (i := 2) (N := some 59) (v := ?_) (a' := ?_) #[true, true, true, false, false, false, false, false, false, false, false, false, false, false] rfl rfl (by kernel_rfl) (fun _ _ _ h => h) (Or.inl ⟨by rfl, ?_⟩) ?_ ?_
              rotate_left
              · intro w'
                go_simp
                with_reducible rfl
              rotate_left
              · simp only [Act.put, List.setIfInBounds_toArray, List.set_cons_zero, List.set_cons_succ, i64_w, i32_w]
                rfl
              refine pure_ (i := 3) (N := some 60) (v := ?_) (a' := ?_) #[true, true, true, true, false, false, false, false, false, false, false, false, false, false] rfl rfl (by kernel_rfl) (fun _ _ _ h => h) (Or.inl ⟨by rfl, ?_⟩) ?_ ?_
              rotate_left
              · intro w'
                go_simp
                with_reducible rfl
              rotate_left
              · simp only [Act.put, List.setIfInBounds_toArray, List.set_cons_zero, List.set_cons_succ, i64_w, i32_w]
                rfl
              refine pure_ (i := 4) (N := some 61) (v := ?_) (a' := ?_) #[true, true, true, true, true, false, false, false, false, false, false, false, false, false] rfl rfl (by kernel_rfl) (fun _ _ _ h => h) (Or.inl ⟨by rfl, ?_⟩) ?_ ?_
              rotate_left
              · intro w'
                go_simp
                with_reducible rfl
              rotate_left
              · simp only [Act.put, List.setIfInBounds_toArray, List.set_cons_zero, List.set_cons_succ, i64_w, i32_w]
                rfl
              refine pure_ (i := 5) (N := some 62) (v := ?_) (a' := ?_) #[true, true, true, true, true, true, false, false, false, false, false, false, false, false] rfl rfl (by kernel_rfl) (fun _ _ _ h => h) (Or.inl ⟨by rfl, ?_⟩) ?_ ?_
              rotate_left
              · intro w'
                go_simp
                with_reducible rfl
              rotate_left
              · simp only [Act.put, List.setIfInBounds_toArray, List.set_cons_zero, List.set_cons_succ, i64_w, i32_w]
                rfl
              refine pure_ (i := 8) (N := some 65) (v := ?_) (a' := ?_) #[true, true, true, true, true, true, false, false, true, false, false, false, false, false] rfl rfl (by kernel_rfl) (fun _ _ _ h => h) (Or.inl ⟨by rfl, ?_⟩) ?_ ?_
              rotate_left
              · intro w'
                go_simp
                with_reducible rfl
              rotate_left
              · simp only [Act.put, List.setIfInBounds_toArray, List.set_cons_zero, List.set_cons_succ, i64_w, i32_w]
                rfl
              refine pure_ (i := 9) (N := some 66) (v := ?_) (a' := ?_) #[true, true, true, true, true, true, false, false, true, true, false, false, false, false] rfl rfl (by kernel_rfl) (fun _ _ _ h => h) (Or.inl ⟨by rfl, ?_⟩) ?_ ?_
              rotate_left
              · intro w'
                go_simp
                with_reducible rfl
              rotate_left
              · simp only [Act.put, List.setIfInBounds_toArray, List.set_cons_zero, List.set_cons_succ, i64_w, i32_w]
                rfl
              refine pure_ (i := 10) (N := some 67) (v := ?_) (a' := ?_) #[true, true, true, true, true, true, false, false, true, true, true, false, false, false] rfl rfl (by kernel_rfl) (fun _ _ _ h => h) (Or.inl ⟨by rfl, ?_⟩) ?_ ?_
              rotate_left
              · intro w'
                go_simp
                with_reducible rfl
              rotate_left
              · simp only [Act.put, List.setIfInBounds_toArray, List.set_cons_zero, List.set_cons_succ, i64_w, i32_w]
                rfl
              refine take_ (i := 6) (N := some 63) (v := ?_) (a' := ?_) #[true, true, true, true, true, true, true, false, true, true, true, false, false, false] rfl rfl (by kernel_rfl) (fun _ _ _ h => h) (Or.inl ⟨by rfl, ?_⟩) hHeld ?_ ?_
              rotate_left
              · rintro w' ⟨s0, s1⟩
                go_simp
                with_reducible rfl
              rotate_left
              · simp only [Act.put, List.setIfInBounds_toArray, List.set_cons_zero, List.set_cons_succ, i64_w, i32_w]
                rfl
              refine one_ (i := 7) (N := some 64) #[true, true, true, true, true, true, true, true, true, true, true, false, false, false] rfl rfl (by kernel_rfl) (by decide) (fun K hK => ?_)
              refine Kd.R_lit_step k51 (w0 := w) w.heap.size 51 ?hg (N := 64) ?hd (xs := [x]) (inner := [.string x.f0, .string x.f1]) (ok := fun _ => True) (okp := fun _ => True) ?hr ?hp (fun _ hk => hk) trivial ?hB ?hS (by simp) ?_; (case hd => rfl); (case hg => rfl); (case hr => first | (go_simp; done) | (go_simp; rfl)); (case hp => exact Reps.snoc (ps := []) (cs := []) (Reps.none _ _) (k51_mkM _ _ _ _) rfl); (case hB => repeat (first | (with_reducible first | exact HB.out | apply below_alloc | apply pw_below_drewN | apply below_drew1) | exact HB.out)); (case hS => exact below_size (by repeat (first | (with_reducible first | exact HB.out | apply below_alloc | apply pw_below_drewN | apply below_drew1) | exact HB.out)))
              intro v64 w7 ho7 hb7 hg7 hn7
              have HR7 := Aside0.mk ho7
              have HB7 := Aside0.mk hb7
              have HO7 := Aside0.mk (Kd.R_grown (by (with_reducible repeat (first | apply Kd.R_drewN | apply Kd.R_drew)); exact HO.out) hg7 (fun _ _ h => by cases h))
              obtain ⟨b7, hn7, hn7b⟩ := hn7
              have HN7 := Aside0.mk hn7
              have HG7 := Aside0.mk hg7
              have HNB7 := Aside0.mk hn7b
              clear ho7 hb7 hg7 hn7 hn7b
              refine hK.out _ _ ⟨((HB7.out).cell (World.block_lt_of_cell? w _ HZ0.out)).trans HZ0.out, ((HB7.out).cell (World.block_lt_of_cell? w _ HZ1.out)).trans HZ1.out⟩ (fun hHeld => ?_)
              clear hK K
              refine norm_ (a' := ?_) ?_ ?_
              rotate_left
              · show Act.put _ (some 64) _ = _
                simp only [Act.put, List.setIfInBounds_toArray, List.set_cons_zero, List.set_cons_succ, i64_w, i32_w]
                rfl
              refine one_ (i := 11) (N := some 68) #[true, true, true, true, true, true, true, true, true, true, true, true, false, false] rfl rfl (by kernel_rfl) (by decide) (fun K hK => ?_)
              refine Kd.R_append_rows_step k51 (Rr := fun x_ cs_ => k51.K w7 x_ cs_) (w0 := w) w.heap.size (by rfl) (.tmp 64) (.tmp 67) 26 51 (.agg #[.string ⟨#[]⟩, .string ⟨#[]⟩]) 32 rfl Tryd.underlying26 infoP rfl (by decide) (by decide) v64 [x] (ol.drop k) A4 _ _ (fun _ => True) (fun _ => False) rfl (by rw [← List.length_drop]; rfl) ?hO ?hR (fun x_ cs_ h_ => by rw [k51_open h_]; exact k51_mkM _ _ _ _) (fun _ h_ => h_.elim) (fun _ _ => trivial) ?hB ?hS ?hL ?_; (case hO => exact HR7.out); (case hR => exact HC4.out _ (Kd.R_reads' HO7.out).2.2); (case hB => exact HB7.out); (case hS => exact HB7.out.size); (case hL => simp only [List.length_drop, List.length_singleton]; omega)
              intro v68 w11 ho11 hb11 hg11 hat11
              have HB11 := Aside0.mk hb11
              have HO11 := Aside0.mk (kept_new (by (with_reducible repeat (first | apply Kd.R_drewN | apply Kd.R_drew)); exact HO.out) HG7.out hg11 (fun b h => by rw [HN7.out] at h; injection h with h; exact h ▸ HNB7.out))
              obtain ⟨A68, c68, rfl, hl68, hC68⟩ := Kd.R_reads ho11
              have HC68 := Aside0.mk hC68
              clear ho11 hg11 hat11 hC68
              refine hK.out _ _ ⟨((hb11).cell (World.block_lt_of_cell? w _ HZ0.out)).trans HZ0.out, ((hb11).cell (World.block_lt_of_cell? w _ HZ1.out)).trans HZ1.out⟩ (fun hHeld => ?_)
              clear hK K
              refine norm_ (a' := ?_) ?_ ?_
              rotate_left
              · show Act.put _ (some 68) _ = _
                simp only [Act.put, List.setIfInBounds_toArray, List.set_cons_zero, List.set_cons_succ, i64_w, i32_w]
                rfl
              refine last_ (i := 12) (N := some 69) #[true, true, true, true, true, true, true, true, true, true, true, true, true, false] rfl rfl (by kernel_rfl) (by decide) (fun K hK => ?_)
              refine Kd.R_append_rows_step k51 (Rr := fun x_ cs_ => k51.K w11 x_ cs_) (w0 := w) w.heap.size (by rfl) (.tmp 59) (.tmp 68) 26 51 (.agg #[.string ⟨#[]⟩, .string ⟨#[]⟩]) 32 rfl Tryd.underlying26 infoP rfl (by decide) (by decide) (.slice (some ad1) k c3) (ol.take k) ([x] ++ ol.drop k) A68 _ c68 (fun _ => True) (fun _ => False) rfl rfl ?hO ?hR (fun x_ cs_ h_ => by rw [k51_open h_]; exact k51_mkM _ _ _ _) (fun _ h_ => h_.elim) (fun _ _ => trivial) ?hB ?hS ?hL ?_; (case hO => exact Kd.R_take HO11.out (by omega)); (case hR => exact HC68.out); (case hB => exact HB11.out); (case hS => exact HB11.out.size); (case hL => simp only [List.length_append, List.length_take, List.length_drop, List.length_singleton]; omega)
              intro v69 w12 ho12 hb12 hg12 hat12
              have HR12 := Aside0.mk ho12
              have HB12 := Aside0.mk hb12
              clear ho12 hb12 hg12 hat12
              refine hK.out _ _ ?_
              clear hK K
              refine norm_ (a' := ?_) ?_ ?_
              rotate_left
              · show Act.put _ (some 69) _ = _
                simp only [Act.put, List.setIfInBounds_toArray, List.set_cons_zero, List.set_cons_succ, i64_w, i32_w]
                rfl
              refine pure_ (i := 13) (N := some 3) (v := ?_) (a' := ?_) #[true, true, true, true, true, true, true, true, true, true, true, true, true, true] rfl rfl (by kernel_rfl) (fun _ _ _ h => h) (Or.inl ⟨by rfl, ?_⟩) ?_ ?_
              rotate_left
              · intro w'
                go_simp
                with_reducible rfl
              rotate_left
              · simp only [Act.put, List.setIfInBounds_toArray, List.set_cons_zero, List.set_cons_succ, i64_w, i32_w]
                rfl
              refine done_ (by kernel_rfl) ?_
              
              go_wp2
              go_roundw
              case rel =>
                refine ⟨i + 1, by omega, by go_num, ⟨?_⟩, ⟨?_⟩⟩
                · rw [fit_ins hlt HX.out HOL.out HK.out HI.out]; exact HR12.out
                · exact HB12.out
              case measure => simp [intOf]; omega
          · go_wp2
            go_quiet (fail)
            go_wp2
            go_quiet (fail)
            go_wp2
            have hins : ∀ p, ol[k]? = some p → p.f0 ≠ x.f0 := by intro q hq; rw [List.getElem?_eq_none (by omega)] at hq; cases hq
            have HI := Lib.hid hins
            clear hins
            obtain ⟨A4, hA4⟩ : ∃ A4 : Option Addr, A4 = (if c3 = k then A3 else A3.map (·.add (k * 2))) := ⟨_, rfl⟩
            have HC4 : Aside0 (∀ W : World, Kd.C k51 W A3 ol.length ol → Kd.C k51 W A4 (ol.drop k).length (ol.drop k)) := ⟨fun W h => by rw [hA4]; exact Kd.C_drop h (by omega) hl3⟩
            have hcut1 := cut_from (P := Tryd.prog) 26 51 .i64 Tryd.underlying26 hii 2 hi1 A3 ol.length c3 (k : Int) (by omega) (by omega)
            have hcut2 := cut_to (P := Tryd.prog) 26 51 .i64 Tryd.underlying26 hii A3 ol.length c3 (k : Int) (by omega) (by omega) hl3
            simp only [Int.toNat_natCast] at hcut1 hcut2
            rw [← hA4] at hcut1
            clear hA4
            refine start_ (n := 14) (S := fun w' => w'.cell? (ad0.add (i * 2)) = some (.string x.f0) ∧ w'.cell? ⟨(ad0.add (i * 2)).block, (ad0.add (i * 2)).off + 1, none⟩ = some (.string x.f1)) (ds := [12]) #[false, false, false, false, false, false, false, false, false, false, false, false, false, false] (by kernel_rfl) rfl rfl ⟨hx0, hx1⟩ (fun hHeld => ?_)
            refine pure_ (i := 0) (N := some 57) (v := ?_) (a' := ?_) #[true, false, false, false, false, false, false, false, false, false, false, false, false, false] rfl rfl (by kernel_rfl) (fun _ _ _ h => h) (Or.inl ⟨by rfl, ?_⟩) ?_ ?_
            rotate_left
            · intro w'
              go_simp
              with_reducible rfl
            rotate_left
            · simp only [Act.put, List.setIfInBounds_toArray, List.set_cons_zero, List.set_cons_succ, i64_w, i32_w]
              rfl
            refine pure_ (i := 1) (N := some 58) (v := ?_) (a' := ?_) #[true, true, false, false, false, false, false, false, false, false, false, false, false, false] rfl rfl (by kernel_rfl) (fun _ _ _ h => h) (Or.inl ⟨by rfl, ?_⟩) ?_ ?_
            rotate_left
            · intro w'
              go_simp
              with_reducible rfl
            rotate_left
            · simp only [Act.put, List.setIfInBounds_toArray, List.set_cons_zero, List.set_cons_succ, i64_w, i32_w]
              rfl
            refine pure_ (i := 2) (N := some 59) (v := ?_) (a' := ?_) #[true, true, true, false, false, false, false, false, false, false, false, false, false, false] rfl rfl (by kernel_rfl) (fun _ _ _ h => h) (Or.inl ⟨by rfl, ?_⟩) ?_ ?_
            rotate_left
            · intro w'
              go_simp
              with_reducible rfl
            rotate_left
            · simp only [Act.put, List.setIfInBounds_toArray, List.set_cons_zero, List.set_cons_succ, i64_w, i32_w]
              rfl
            refine pure_ (i := 3) (N := some 60) (v := ?_) (a' := ?_) #[true, true, true, true, false, false, false, false, false, false, false, false, false, false] rfl rfl (by kernel_rfl) (fun _ _ _ h => h) (Or.inl ⟨by rfl, ?_⟩) ?_ ?_
            rotate_left
            · intro w'
              go_simp
              with_reducible rfl
            rotate_left
            · simp only [Act.put, List.setIfInBounds_toArray, List.set_cons_zero, List.set_cons_succ, i64_w, i32_w]
              rfl
            refine pure_ (i := 4) (N := some 61) (v := ?_) (a' := ?_) #[true, true, true, true, true, false, false, false, false, false, false, false, false, false] rfl rfl (by kernel_rfl) (fun _ _ _ h => h) (Or.inl ⟨by rfl, ?_⟩) ?_ ?_
            rotate_left
            · intro w'
              go_simp
              with_reducible rfl
            rotate_left
            · simp only [Act.put, List.setIfInBounds_toArray, List.set_cons_zero, List.set_cons_succ, i64_w, i32_w]
              rfl
            refine pure_ (i := 5) (N := some 62) (v := ?_) (a' := ?_) #[true, true, true, true, true, true, false, false, false, false, false, false, false, false] rfl rfl (by kernel_rfl) (fun _ _ _ h => h) (Or.inl ⟨by rfl, ?_⟩) ?_ ?_
            rotate_left
            · intro w'
              go_simp
              with_reducible rfl
            rotate_left
            · simp only [Act.put, List.setIfInBounds_toArray, List.set_cons_zero, List.set_cons_succ, i64_w, i32_w]
              rfl
            refine pure_ (i := 8) (N := some 65) (v := ?_) (a' := ?_) #[true, true, true, true, true, true, false, false, true, false, false, false, false, false] rfl rfl (by kernel_rfl) (fun _ _ _ h => h) (Or.inl ⟨by rfl, ?_⟩) ?_ ?_
            rotate_left
            · intro w'
              go_simp
              with_reducible rfl
            rotate_left
            · simp only [Act.put, List.setIfInBounds_toArray, List.set_cons_zero, List.set_cons_succ, i64_w, i32_w]
              rfl
            refine pure_ (i := 9) (N := some 66) (v := ?_) (a' := ?_) #[true, true, true, true, true, true, false, false, true, true, false, false, false, false] rfl rfl (by kernel_rfl) (fun _ _ _ h => h) (Or.inl ⟨by rfl, ?_⟩) ?_ ?_
            rotate_left
            · intro w'
              go_simp
              with_reducible rfl
            rotate_left
            · simp only [Act.put, List.setIfInBounds_toArray, List.set_cons_zero, List.set_cons_succ, i64_w, i32_w]
              rfl
            refine pure_ (i := 10) (N := some 67) (v := ?_) (a' := ?_) #[true, true, true, true, true, true, false, false, true, true, true, false, false, false] rfl rfl (by kernel_rfl) (fun _ _ _ h => h) (Or.inl ⟨by rfl, ?_⟩) ?_ ?_
            rotate_left
            · intro w'
              go_simp
              with_reducible rfl
            rotate_left
            · simp only [Act.put, List.setIfInBounds_toArray, List.set_cons_zero, List.set_cons_succ, i64_w, i32_w]
              rfl
            refine take_ (i := 6) (N := some 63) (v := ?_) (a' := ?_) #[true, true, true, true, true, true, true, false, true, true, true, false, false, false] rfl rfl (by kernel_rfl) (fun _ _ _ h => h) (Or.inl ⟨by rfl, ?_⟩) hHeld ?_ ?_
            rotate_left
            · rintro w' ⟨s0, s1⟩
              go_simp
              with_reducible rfl
            rotate_left
            · simp only [Act.put, List.setIfInBounds_toArray, List.set_cons_zero, List.set_cons_succ, i64_w, i32_w]
              rfl
            refine one_ (i := 7) (N := some 64) #[true, true, true, true, true, true, true, true, true, true, true, false, false, false] rfl rfl (by kernel_rfl) (by decide) (fun K hK => ?_)
            refine Kd.R_lit_step k51 (w0 := w) w.heap.size 51 ?hg (N := 64) ?hd (xs := [x]) (inner := [.string x.f0, .string x.f1]) (ok := fun _ => True) (okp := fun _ => True) ?hr ?hp (fun _ hk => hk) trivial ?hB ?hS (by simp) ?_; (case hd => rfl); (case hg => rfl); (case hr => first | (go_simp; done) | (go_simp; rfl)); (case hp => exact Reps.snoc (ps := []) (cs := []) (Reps.none _ _) (k51_mkM _ _ _ _) rfl); (case hB => repeat (first | (with_reducible first | exact HB.out | apply below_alloc | apply pw_below_drewN | apply below_drew1) | exact HB.out)); (case hS => exact below_size (by repeat (first | (with_reducible first | exact HB.out | apply below_alloc | apply pw_below_drewN | apply below_drew1) | exact HB.out)))
            intro v64 w7 ho7 hb7 hg7 hn7
            have HR7 := Aside0.mk ho7
            have HB7 := Aside0.mk hb7
            have HO7 := Aside0.mk (Kd.R_grown (by (with_reducible repeat (first | apply Kd.R_drewN | apply Kd.R_drew)); exact HO.out) hg7 (fun _ _ h => by cases h))
            obtain ⟨b7, hn7, hn7b⟩ := hn7
            have HN7 := Aside0.mk hn7
            have HG7 := Aside0.mk hg7
            have HNB7 := Aside0.mk hn7b
            clear ho7 hb7 hg7 hn7 hn7b
            refine hK.out _ _ ⟨((HB7.out).cell (World.block_lt_of_cell? w _ HZ0.out)).trans HZ0.out, ((HB7.out).cell (World.block_lt_of_cell? w _ HZ1.out)).trans HZ1.out⟩ (fun hHeld => ?_)
            clear hK K
            refine norm_ (a' := ?_) ?_ ?_
            rotate_left
            · show Act.put _ (some 64) _ = _
              simp only [Act.put, List.setIfInBounds_toArray, List.set_cons_zero, List.set_cons_succ, i64_w, i32_w]
              rfl
            refine one_ (i := 11) (N := some 68) #[true, true, true, true, true, true, true, true, true, true, true, true, false, false] rfl rfl (by kernel_rfl) (by decide) (fun K hK => ?_)
            refine Kd.R_append_rows_step k51 (Rr := fun x_ cs_ => k51.K w7 x_ cs_) (w0 := w) w.heap.size (by rfl) (.tmp 64) (.tmp 67) 26 51 (.agg #[.string ⟨#[]⟩, .string ⟨#[]⟩]) 32 rfl Tryd.underlying26 infoP rfl (by decide) (by decide) v64 [x] (ol.drop k) A4 _ _ (fun _ => True) (fun _ => False) rfl (by rw [← List.length_drop]; rfl) ?hO ?hR (fun x_ cs_ h_ => by rw [k51_open h_]; exact k51_mkM _ _ _ _) (fun _ h_ => h_.elim) (fun _ _ => trivial) ?hB ?hS ?hL ?_; (case hO => exact HR7.out); (case hR => exact HC4.out _ (Kd.R_reads' HO7.out).2.2); (case hB => exact HB7.out); (case hS => exact HB7.out.size); (case hL => simp only [List.length_drop, List.length_singleton]; omega)
            intro v68 w11 ho11 hb11 hg11 hat11
            have HB11 := Aside0.mk hb11
            have HO11 := Aside0.mk (kept_new (by (with_reducible repeat (first | apply Kd.R_drewN | apply Kd.R_drew)); exact HO.out) HG7.out hg11 (fun b h => by rw [HN7.out] at h; injection h with h; exact h ▸ HNB7.out))
            obtain ⟨A68, c68, rfl, hl68, hC68⟩ := Kd.R_reads ho11
            have HC68 := Aside0.mk hC68
            clear ho11 hg11 hat11 hC68
            refine hK.out _ _ ⟨((hb11).cell (World.block_lt_of_cell? w _ HZ0.out)).trans HZ0.out, ((hb11).cell (World.block_lt_of_cell? w _ HZ1.out)).trans HZ1.out⟩ (fun hHeld => ?_)
            clear hK K
            refine norm_ (a' := ?_) ?_ ?_
            rotate_left
            · show Act.put _ (some 68) _ = _
              simp only [Act.put, List.setIfInBounds_toArray, List.set_cons_zero, List.set_cons_succ, i64_w, i32_w]
              rfl
            refine last_ (i := 12) (N := some 69) #[true, true, true, true, true, true, true, true, true, true, true, true, true, false] rfl rfl (by kernel_rfl) (by decide) (fun K hK => ?_)
            refine Kd.R_append_rows_step k51 (Rr := fun x_ cs_ => k51.K w11 x_ cs_) (w0 := w) w.heap.size (by rfl) (.tmp 59) (.tmp 68) 26 51 (.agg #[.string ⟨#[]⟩, .string ⟨#[]⟩]) 32 rfl Tryd.underlying26 infoP rfl (by decide) (by decide) (.slice A3 k c3) (ol.take k) ([x] ++ ol.drop k) A68 _ c68 (fun _ => True) (fun _ => False) rfl rfl ?hO ?hR (fun x_ cs_ h_ => by rw [k51_open h_]; exact k51_mkM _ _ _ _) (fun _ h_ => h_.elim) (fun _ _ => trivial) ?hB ?hS ?hL ?_; (case hO => exact Kd.R_take HO11.out (by omega)); (case hR => exact HC68.out); (case hB => exact HB11.out); (case hS => exact HB11.out.size); (case hL => simp only [List.length_append, List.length_take, List.length_drop, List.length_singleton]; omega)
            intro v69 w12 ho12 hb12 hg12 hat12
            have HR12 := Aside0.mk ho12
            have HB12 := Aside0.mk hb12
            clear ho12 hb12 hg12 hat12
            refine hK.out _ _ ?_
            clear hK K
            refine norm_ (a' := ?_) ?_ ?_
            rotate_left
            · show Act.put _ (some 69) _ = _
              simp only [Act.put, List.setIfInBounds_toArray, List.set_cons_zero, List.set_cons_succ, i64_w, i32_w]
              rfl
            refine pure_ (i := 13) (N := some 3) (v := ?_) (a' := ?_) #[true, true, true, true, true, true, true, true, true, true, true, true, true, true] rfl rfl (by kernel_rfl) (fun _ _ _ h => h) (Or.inl ⟨by rfl, ?_⟩) ?_ ?_
            rotate_left
            · intro w'
              go_simp
              with_reducible rfl
            rotate_left
            · simp only [Act.put, List.setIfInBounds_toArray, List.set_cons_zero, List.set_cons_succ, i64_w, i32_w]
              rfl
            refine done_ (by kernel_rfl) ?_
            
            go_wp2
            go_roundw
            case rel =>
              refine ⟨i + 1, by omega, by go_num, ⟨?_⟩, ⟨?_⟩⟩
              · rw [fit_ins hlt HX.out HOL.out HK.out HI.out]; exact HR12.out
              · exact HB12.out
            case measure => simp [intOf]; omega
    · go_wp2
      go_ret
      obtain rfl : i = l0.length := by omega
      rw [List.take_length] at HO
      exact ⟨_, rfl, HO.out, HB.out⟩
end Go.Proofs.YtgeamhmenmomhaaDoor.M
