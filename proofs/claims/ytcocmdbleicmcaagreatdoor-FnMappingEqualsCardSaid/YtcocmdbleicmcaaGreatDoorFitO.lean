/- The walk of spec.FitOpts. -/
import Derived.Test.YtcocmdbleicmcaaGreatDoorFitP
namespace Go.Proofs.YtcocmdbleicmcaaGreatDoor.M
set_option linter.unusedVariables false
set_option linter.unusedSimpArgs false
set_option linter.unusedSectionVars false
open Go.RowKit Go.Proofs.YtcocmdbleicmcaaGreatDoorW.PrintWords Go.Proofs.YtcocmdbleicmcaaGreatDoorW.PrintLast Go.Proofs.YtcocmdbleicmcaaGreatDoor.PX

def normO (x : S75) : S75 := if x.f2 = true then x else ⟨x.f0, ⟨#[]⟩, x.f2⟩
def fitO (l : List S75) : List S75 := Ord.fit S75.f0 (l.map normO)
theorem infoO : (Tryz.prog.info? 75).map (fun i => (i.zero, i.size, i.bytes)) = some (some (.agg #[.string ⟨#[]⟩, .string ⟨#[]⟩, .bool false]), 3, 40) := by kernel_rfl
theorem fitO_next {l : List S75} {ol : List S75} {x : S75} {i : Nat} (h : i < l.length) (hx : x = normO (rd_T75 l i)) (ho : ol = fitO (l.take i)) : fitO (l.take (i + 1)) = Ord.step S75.f0 ol x := by
  have e : rd_T75 l i = l[i] := by simp [rd_T75, List.getD_eq_getElem?_getD, List.getElem?_eq_getElem h]
  rw [take_next h, fitO, List.map_append, List.map_singleton, Ord.fit_snoc, ho, hx, e]; rfl
theorem fitO_set {l : List S75} {ol : List S75} {x p : S75} {i k : Nat} (h : i < l.length) (hx : x = normO (rd_T75 l i)) (ho : ol = fitO (l.take i)) (hk : k = Ord.at_ S75.f0 ol x.f0) (hp : ol[k]? = some p) (he : p.f0 = x.f0) : fitO (l.take (i + 1)) = ol.set k x := by
  rw [fitO_next h hx ho]
  subst hk
  exact Ord.step_set hp he
theorem fitO_ins {l : List S75} {ol : List S75} {x : S75} {i k : Nat} (h : i < l.length) (hx : x = normO (rd_T75 l i)) (ho : ol = fitO (l.take i)) (hk : k = Ord.at_ S75.f0 ol x.f0) (hp : ∀ p, ol[k]? = some p → p.f0 ≠ x.f0) : fitO (l.take (i + 1)) = ol.take k ++ x :: ol.drop k := by
  rw [fitO_next h hx ho]
  subst hk
  exact Ord.step_ins hp
theorem cell_keep {w w1 : World} {row : Option Nat} {b o : Nat} {v : Value} (hg : w.grownBy w1 row) (hc : w.cell? ⟨b, o, none⟩ = some v) (hne : some b ≠ row) : w1.cell? ⟨b, o, none⟩ = some v :=
  (World.cell?_of_block (hg.block b (World.block_lt_of_cell? w _ hc) hne)).trans hc
set_option maxHeartbeats 4000000 in
set_option maxRecDepth 100000 in
theorem spec_FitOpts (A0 : Option Addr) (c0 : Nat) (l0 : List S75) (w : World) (hr0 : Kd.C k75 w A0 l0.length l0) (hc0 : l0.length ≤ c0) (hl : l0.length ≤ 1099511627776) :
    Calls Tryz.prog 29 #[.slice A0 l0.length c0] w fun e w' => ∃ v, e = .returned v ∧ Kd.R k75 75 w' w.heap.size (fun _ => True) v (fitO l0) ∧ Below w.heap.size w w' := by
  have HR0 := Aside0.mk hr0
  clear hr0 hc0
  obtain ⟨i0, hii, _, hi1, _⟩ := info_parts infoO
  go_enter Tryz.func29, Tryz.ntmps29
  go_wp2
  go_loopw [3, 4] (fun v3 v4 wr => ∃ i : Nat, i ≤ l0.length ∧ v4 = .int .i64 i ∧ Aside0 (Kd.R k75 75 wr w.heap.size (fun _ => True) v3 (fitO (l0.take i))) ∧ Aside0 (Below w.heap.size w wr)) (fun _ v4 _ => l0.length - (intOf v4).toNat)
  case atStart => exact ⟨0, Nat.zero_le _, rfl, ⟨Kd.R_nil _ _ _ _ _⟩, ⟨Below.refl _ _⟩⟩
  case round =>
    obtain ⟨i, hi, rfl, HO0, HB0⟩ := hrel
    by_cases hlt : i < l0.length
    · obtain ⟨ol, hol⟩ : ∃ ol, ol = fitO (l0.take i) := ⟨_, rfl⟩
      have hoL : ol.length ≤ i := by rw [hol]; exact Nat.le_trans (Ord.fit_length _) (by rw [List.length_map]; exact List.length_take_le _ _)
      obtain ⟨ad0, rfl, hx0, hx1, hx2⟩ := at_T75 HR0.out (i : Int) (by omega) (by omega)
      replace hx0 := (HB0.out.cell (World.block_lt_of_cell? w _ hx0)).trans hx0
      replace hx1 := (HB0.out.cell (World.block_lt_of_cell? w _ hx1)).trans hx1
      replace hx2 := (HB0.out.cell (World.block_lt_of_cell? w _ hx2)).trans hx2
      rw [← hol] at HO0
      obtain ⟨A3, c3, rfl, hl3, _⟩ := Kd.R_reads HO0.out
      obtain ⟨⟨xa, xv, xb⟩, hx⟩ : ∃ x, x = rd_T75 l0 i := ⟨_, rfl⟩
      rw [← hx] at hx0 hx1 hx2
      have HOL := Lib.hid hol
      clear hol
      have hat := Ord.at_le (key := S75.f0) ol xa
      simp only [Int.toNat_natCast] at hx0 hx1 hx2
      cases xb
      · have HX := Lib.hid (show (⟨xa, ⟨#[]⟩, false⟩ : S75) = normO (rd_T75 l0 i) by rw [← hx]; rfl)
        clear hx
        go_wp2
        have HO : Aside0 (Kd.R k75 75 (wr.alloc (.cells #[.string xa, .string (⟨#[]⟩ : ByteArray), .bool false] 75)) w.heap.size (fun _ => True) (.slice A3 ol.length c3) ol) := ⟨Kd.R_alloc HO0.out _⟩
        have HB : Aside0 (Below w.heap.size w (wr.alloc (.cells #[.string xa, .string (⟨#[]⟩ : ByteArray), .bool false] 75))) := ⟨below_alloc HB0.out _⟩
        have hb0 : (wr.alloc (.cells #[.string xa, .string (⟨#[]⟩ : ByteArray), .bool false] 75)).cell? ⟨wr.heap.size, 0, none⟩ = some (.string xa) := by simp
        have hb1 : (wr.alloc (.cells #[.string xa, .string (⟨#[]⟩ : ByteArray), .bool false] 75)).cell? ⟨wr.heap.size, 1, none⟩ = some (.string (⟨#[]⟩ : ByteArray)) := by simp
        have hb2 : (wr.alloc (.cells #[.string xa, .string (⟨#[]⟩ : ByteArray), .bool false] 75)).cell? ⟨wr.heap.size, 2, none⟩ = some (.bool false) := by simp
        have hws : wr.heap.size < (wr.alloc (.cells #[.string xa, .string (⟨#[]⟩ : ByteArray), .bool false] 75)).heap.size := by simp
        have hwz : w.heap.size ≤ wr.heap.size := HB0.out.size
        obtain ⟨bx, hbx⟩ : ∃ bx, bx = wr.heap.size := ⟨_, rfl⟩
        rw [← hbx] at hb0 hb1 hb2 hws hwz ⊢
        clear hbx
        have hy0 := hx0; clear hx0 hx1 hx2 hy0
        generalize wr.alloc (.cells #[.string xa, .string (⟨#[]⟩ : ByteArray), .bool false] 75) = wq at HO HB hb0 hb1 hb2 hws ⊢
        obtain ⟨_, _, eA, _, hC3⟩ := Kd.R_reads HO.out
        injection eA with eA1 eA2 eA3
        subst eA1; subst eA3
        have HC3 := Lib.hid hC3
        clear hC3
        go_loopw [6] (fun v6 wi => ∃ k : Nat, k ≤ Ord.at_ S75.f0 ol xa ∧ v6 = .int .i64 k ∧ ∃ m, wi = wq.drewN m) (fun v6 _ => ol.length + 1 - (intOf v6).toNat)
        case atStart => exact ⟨0, Nat.zero_le _, rfl, 0, rfl⟩
        case round =>
          obtain ⟨k, hk, rfl, m, rfl⟩ := hrel
          by_cases hk1 : k < Ord.at_ S75.f0 ol xa
          · have hkl : k < ol.length := by omega
            obtain ⟨p, hp, hp2⟩ := Ord.at_lt hk1
            obtain ⟨ad1, rfl, hy0, hy1, hy2⟩ := at_T75 HC3.out (k : Int) (by omega) (by omega)
            have hpe : rd_T75 ol k = p := by simp [rd_T75, List.getD_eq_getElem?_getD, hp]
            rw [hpe] at hy0 hy1 hy2
            have hp3 : Op.bytesLess p.f0.toList xa.toList = true := hp2
            simp only [Int.toNat_natCast] at hy0 hy1 hy2
            clear hp hp2 hpe
            go_wp2
            go_quiet (fail)
            go_wp2
            go_roundw
            case rel => exact ⟨k + 1, by omega, by go_num, _, rfl⟩
            case measure => simp [intOf]; omega
          · obtain rfl : k = Ord.at_ S75.f0 ol xa := by omega
            obtain ⟨k, hk'⟩ : ∃ k, k = Ord.at_ S75.f0 ol xa := ⟨_, rfl⟩
            rw [← hk'] at hat ⊢
            have HK := Lib.hid hk'
            clear hk' hk hk1
            by_cases hkl : k < ol.length
            · obtain ⟨p, hp⟩ : ∃ p, ol[k]? = some p := ⟨ol[k], List.getElem?_eq_getElem hkl⟩
              obtain ⟨ad1, rfl, hy0, hy1, hy2⟩ := at_T75 HC3.out (k : Int) (by omega) (by omega)
              have hpe : rd_T75 ol k = p := by simp [rd_T75, List.getD_eq_getElem?_getD, hp]
              rw [hpe] at hy0 hy1 hy2
              have hp3 : Op.bytesLess p.f0.toList xa.toList = false := Ord.at_stop (key := S75.f0) (by rw [← HK.out]; exact hp)
              simp only [Int.toNat_natCast] at hy0 hy1 hy2
              have HP := Lib.hid hp
              clear hp hpe
              go_wp2
              go_quiet (fail)
              go_wp2
              by_cases he : p.f0 = xa
              · have he1 : (p.f0.toList == xa.toList) = true := by rw [he]; exact beq_self_eq_true _
                have HE := Lib.hid he
                clear he
                obtain ⟨inner, hown⟩ := Kd.R_own HO.out
                obtain ⟨g, cap, eg, hgb, hgl⟩ := World.ownsRow.form hown (by omega)
                injection eg with eg _ ec
                injection eg with eg
                subst eg
                subst ec
                simp only [add_plain] at hy0 hy1 hy2
                have HOW := Lib.hid hown
                clear hown
                go_quiet (fail)
                obtain ⟨gcells, hcells⟩ := own_typed HOW.out g rfl
                have hfr0 : wq.frozen? ⟨g, k * 3, none⟩ = false := blk_frozen hcells _
                have hfr1 : wq.frozen? ⟨g, k * 3 + 1, none⟩ = false := blk_frozen hcells _
                have hfr2 : wq.frozen? ⟨g, k * 3 + 2, none⟩ = false := blk_frozen hcells _
                have HCE := Lib.hid hcells
                clear hcells
                go_wp2
                have hsg := fun n_ : Nat => Kd.R_seg (W := wq.drewN n_) (x' := ⟨xa, (⟨#[]⟩ : ByteArray), false⟩) (seg := [.string xa, .string (⟨#[]⟩ : ByteArray), .bool false]) (j := 0) (c := [.string p.f0, .string p.f1, .bool p.f2]) (okp := fun _ => False) (Kd.R_drewN HO.out n_) (k : Int) (by omega) (by omega) rfl (by intro j u hu; rw [Int.toNat_natCast]; rcases j with _ | _ | _ | j; (· injection hu with hu; subst hu; exact hy0); (· injection hu with hu; subst hu; exact hy1); (· injection hu with hu; subst hu; exact hy2); (· simp at hu)) (by show 0 + 3 ≤ 3; decide) (k75_mkM _ _ _ _) (fun _ h => h.elim)
                simp only [Int.toNat_natCast] at hsg
                have HSG := Lib.hid hsg
                clear hsg
                go_roundw
                case rel =>
                  refine ⟨i + 1, by omega, by go_num, ⟨?_⟩, ⟨?_⟩⟩
                  · rw [fitO_set hlt HX.out HOL.out HK.out HP.out HE.out]; exact (HSG.out _).1
                  · exact Below.grown (pw_below_drewN HB.out _) (HSG.out _).2 HB.out.size (fun k' e' => by injection e' with e'; omega)
                case measure => simp [intOf]; omega
              · have he1 : (p.f0.toList == xa.toList) = false := beq_eq_false_iff_ne.2 (fun e => he (Ord.toList_inj e))
                have HE := Lib.hid he
                clear he
                go_quiet (fail)
                go_wp2
                have hins : ∀ p, ol[k]? = some p → p.f0 ≠ xa := by intro q hq; rw [HP.out] at hq; injection hq with hq; subst hq; exact HE.out
                have HI := Lib.hid hins
                clear hins
                obtain ⟨A4, hA4⟩ : ∃ A4 : Option Addr, A4 = (if c3 = k then (some ad1) else (some ad1).map (·.add (k * 3))) := ⟨_, rfl⟩
                have HC4 : Aside0 (∀ W : World, Kd.C k75 W (some ad1) ol.length ol → Kd.C k75 W A4 (ol.drop k).length (ol.drop k)) := ⟨fun W h => by rw [hA4]; exact Kd.C_drop h (by omega) hl3⟩
                have hcut1 := cut_from (P := Tryz.prog) 28 75 .i64 Tryz.underlying28 hii 3 hi1 (some ad1) ol.length c3 (k : Int) (by omega) (by omega)
                have hcut2 := cut_to (P := Tryz.prog) 28 75 .i64 Tryz.underlying28 hii (some ad1) ol.length c3 (k : Int) (by omega) (by omega) hl3
                simp only [Int.toNat_natCast] at hcut1 hcut2
                rw [← hA4] at hcut1
                clear hA4
                refine start_ (n := 11) (S := fun w' => w'.cell? ⟨bx, 0, none⟩ = some (.string xa) ∧ w'.cell? ⟨bx, 1, none⟩ = some (.string (⟨#[]⟩ : ByteArray)) ∧ w'.cell? ⟨bx, 2, none⟩ = some (.bool false)) (ds := [9]) #[false, false, false, false, false, false, false, false, false, false, false] (by kernel_rfl) rfl rfl ⟨hb0, hb1, hb2⟩ (fun hHeld => ?_)
                refine pure_ (i := 0) (N := some 55) (v := ?_) (a' := ?_) #[true, false, false, false, false, false, false, false, false, false, false] rfl rfl (by kernel_rfl) (fun _ _ _ h => h) (Or.inl ⟨by rfl, ?_⟩) ?_ ?_
                rotate_left
                · intro w'
                  go_simp
                  with_reducible rfl
                rotate_left
                · simp only [Act.put, List.setIfInBounds_toArray, List.set_cons_zero, List.set_cons_succ, i64_w, i32_w]
                  rfl
                refine pure_ (i := 1) (N := some 56) (v := ?_) (a' := ?_) #[true, true, false, false, false, false, false, false, false, false, false] rfl rfl (by kernel_rfl) (fun _ _ _ h => h) (Or.inl ⟨by rfl, ?_⟩) ?_ ?_
                rotate_left
                · intro w'
                  go_simp
                  with_reducible rfl
                rotate_left
                · simp only [Act.put, List.setIfInBounds_toArray, List.set_cons_zero, List.set_cons_succ, i64_w, i32_w]
                  rfl
                refine pure_ (i := 2) (N := some 57) (v := ?_) (a' := ?_) #[true, true, true, false, false, false, false, false, false, false, false] rfl rfl (by kernel_rfl) (fun _ _ _ h => h) (Or.inl ⟨by rfl, ?_⟩) ?_ ?_
                rotate_left
                · intro w'
                  go_simp
                  with_reducible rfl
                rotate_left
                · simp only [Act.put, List.setIfInBounds_toArray, List.set_cons_zero, List.set_cons_succ, i64_w, i32_w]
                  rfl
                refine pure_ (i := 5) (N := some 60) (v := ?_) (a' := ?_) #[true, true, true, false, false, true, false, false, false, false, false] rfl rfl (by kernel_rfl) (fun _ _ _ h => h) (Or.inl ⟨by rfl, ?_⟩) ?_ ?_
                rotate_left
                · intro w'
                  go_simp
                  with_reducible rfl
                rotate_left
                · simp only [Act.put, List.setIfInBounds_toArray, List.set_cons_zero, List.set_cons_succ, i64_w, i32_w]
                  rfl
                refine pure_ (i := 6) (N := some 61) (v := ?_) (a' := ?_) #[true, true, true, false, false, true, true, false, false, false, false] rfl rfl (by kernel_rfl) (fun _ _ _ h => h) (Or.inl ⟨by rfl, ?_⟩) ?_ ?_
                rotate_left
                · intro w'
                  go_simp
                  with_reducible rfl
                rotate_left
                · simp only [Act.put, List.setIfInBounds_toArray, List.set_cons_zero, List.set_cons_succ, i64_w, i32_w]
                  rfl
                refine pure_ (i := 7) (N := some 62) (v := ?_) (a' := ?_) #[true, true, true, false, false, true, true, true, false, false, false] rfl rfl (by kernel_rfl) (fun _ _ _ h => h) (Or.inl ⟨by rfl, ?_⟩) ?_ ?_
                rotate_left
                · intro w'
                  go_simp
                  with_reducible rfl
                rotate_left
                · simp only [Act.put, List.setIfInBounds_toArray, List.set_cons_zero, List.set_cons_succ, i64_w, i32_w]
                  rfl
                refine take_ (i := 3) (N := some 58) (v := ?_) (a' := ?_) #[true, true, true, true, false, true, true, true, false, false, false] rfl rfl (by kernel_rfl) (fun _ _ _ h => h) (Or.inl ⟨by rfl, ?_⟩) hHeld ?_ ?_
                rotate_left
                · rintro w' ⟨s0, s1, s2⟩
                  go_simp
                  with_reducible rfl
                rotate_left
                · simp only [Act.put, List.setIfInBounds_toArray, List.set_cons_zero, List.set_cons_succ, i64_w, i32_w]
                  rfl
                refine one_ (i := 4) (N := some 59) #[true, true, true, true, true, true, true, true, false, false, false] rfl rfl (by kernel_rfl) (by decide) (fun K hK => ?_)
                refine Kd.R_lit_step k75 (w0 := w) w.heap.size 75 ?hg (N := 59) ?hd (xs := [⟨xa, (⟨#[]⟩ : ByteArray), false⟩]) (inner := [.string xa, .string (⟨#[]⟩ : ByteArray), .bool false]) (ok := fun _ => True) (okp := fun _ => True) ?hr ?hp (fun _ hk => hk) trivial ?hB ?hS (by simp) ?_; (case hd => rfl); (case hg => rfl); (case hr => first | (go_simp; done) | (go_simp; rfl)); (case hp => exact Reps.snoc (ps := []) (cs := []) (Reps.none _ _) (k75_mkM _ _ _ _) rfl); (case hB => repeat (first | (with_reducible first | exact HB.out | apply below_alloc | apply pw_below_drewN | apply below_drew1) | exact HB.out)); (case hS => exact below_size (by repeat (first | (with_reducible first | exact HB.out | apply below_alloc | apply pw_below_drewN | apply below_drew1) | exact HB.out)))
                intro v64 w7 ho7 hb7 hg7 hn7
                have HR7 := Aside0.mk ho7
                have HB7 := Aside0.mk hb7
                have HO7 := Aside0.mk (Kd.R_grown (by (with_reducible repeat (first | apply Kd.R_drewN | apply Kd.R_drew)); exact HO.out) hg7 (fun _ _ h => by cases h))
                obtain ⟨b7, hn7, hn7b⟩ := hn7
                have HN7 := Aside0.mk hn7
                have HG7 := Aside0.mk hg7
                have HNB7 := Aside0.mk hn7b
                have hne7 : some bx ≠ v64.ownBlock := fun e => by rw [hn7] at e; injection e with e; have h_ : wq.heap.size ≤ b7 := hn7b; omega
                have HNE7 := Aside0.mk hne7
                have hd0 := cell_keep hg7 hb0 (by simp)
                have hd1 := cell_keep hg7 hb1 (by simp)
                have hd2 := cell_keep hg7 hb2 (by simp)
                clear ho7 hb7 hg7 hn7 hn7b hne7
                refine hK.out _ _ ⟨hd0, hd1, hd2⟩ (fun hHeld => ?_)
                clear hK K
                refine norm_ (a' := ?_) ?_ ?_
                rotate_left
                · show Act.put _ (some 59) _ = _
                  simp only [Act.put, List.setIfInBounds_toArray, List.set_cons_zero, List.set_cons_succ, i64_w, i32_w]
                  rfl
                refine one_ (i := 8) (N := some 63) #[true, true, true, true, true, true, true, true, true, false, false] rfl rfl (by kernel_rfl) (by decide) (fun K hK => ?_)
                refine Kd.R_append_rows_step k75 (Rr := fun x_ cs_ => k75.K w7 x_ cs_) (w0 := w) w.heap.size (by rfl) (.tmp 59) (.tmp 62) 28 75 (.agg #[.string ⟨#[]⟩, .string ⟨#[]⟩, .bool false]) 40 rfl Tryz.underlying28 infoO rfl (by decide) (by decide) v64 [⟨xa, (⟨#[]⟩ : ByteArray), false⟩] (ol.drop k) A4 _ _ (fun _ => True) (fun _ => False) rfl (by rw [← List.length_drop]; rfl) ?hO ?hR (fun x_ cs_ h_ => by rw [k75_open h_]; exact k75_mkM _ _ _ _) (fun _ h_ => h_.elim) (fun _ _ => trivial) ?hB ?hS ?hL ?_; (case hO => exact HR7.out); (case hR => exact HC4.out _ (Kd.R_reads' HO7.out).2.2); (case hB => exact HB7.out); (case hS => exact HB7.out.size); (case hL => simp only [List.length_drop, List.length_singleton]; omega)
                intro v68 w11 ho11 hb11 hg11 hat11
                have HB11 := Aside0.mk hb11
                have HO11 := Aside0.mk (kept_new (by (with_reducible repeat (first | apply Kd.R_drewN | apply Kd.R_drew)); exact HO.out) HG7.out hg11 (fun b h => by rw [HN7.out] at h; injection h with h; exact h ▸ HNB7.out))
                obtain ⟨A68, c68, rfl, hl68, hC68⟩ := Kd.R_reads ho11
                have HC68 := Aside0.mk hC68
                have hf0 := cell_keep hg11 hd0 HNE7.out
                have hf1 := cell_keep hg11 hd1 HNE7.out
                have hf2 := cell_keep hg11 hd2 HNE7.out
                clear ho11 hg11 hat11 hC68
                refine hK.out _ _ ⟨hf0, hf1, hf2⟩ (fun hHeld => ?_)
                clear hK K
                refine norm_ (a' := ?_) ?_ ?_
                rotate_left
                · show Act.put _ (some 63) _ = _
                  simp only [Act.put, List.setIfInBounds_toArray, List.set_cons_zero, List.set_cons_succ, i64_w, i32_w]
                  rfl
                refine last_ (i := 9) (N := some 64) #[true, true, true, true, true, true, true, true, true, true, false] rfl rfl (by kernel_rfl) (by decide) (fun K hK => ?_)
                refine Kd.R_append_rows_step k75 (Rr := fun x_ cs_ => k75.K w11 x_ cs_) (w0 := w) w.heap.size (by rfl) (.tmp 57) (.tmp 63) 28 75 (.agg #[.string ⟨#[]⟩, .string ⟨#[]⟩, .bool false]) 40 rfl Tryz.underlying28 infoO rfl (by decide) (by decide) (.slice (some ad1) k c3) (ol.take k) ([⟨xa, (⟨#[]⟩ : ByteArray), false⟩] ++ ol.drop k) A68 _ c68 (fun _ => True) (fun _ => False) rfl rfl ?hO ?hR (fun x_ cs_ h_ => by rw [k75_open h_]; exact k75_mkM _ _ _ _) (fun _ h_ => h_.elim) (fun _ _ => trivial) ?hB ?hS ?hL ?_; (case hO => exact Kd.R_take HO11.out (by omega)); (case hR => exact HC68.out); (case hB => exact HB11.out); (case hS => exact HB11.out.size); (case hL => simp only [List.length_append, List.length_take, List.length_drop, List.length_singleton]; omega)
                intro v69 w12 ho12 hb12 hg12 hat12
                have HR12 := Aside0.mk ho12
                have HB12 := Aside0.mk hb12
                clear ho12 hb12 hg12 hat12
                refine hK.out _ _ ?_
                clear hK K
                refine norm_ (a' := ?_) ?_ ?_
                rotate_left
                · show Act.put _ (some 64) _ = _
                  simp only [Act.put, List.setIfInBounds_toArray, List.set_cons_zero, List.set_cons_succ, i64_w, i32_w]
                  rfl
                refine pure_ (i := 10) (N := some 3) (v := ?_) (a' := ?_) #[true, true, true, true, true, true, true, true, true, true, true] rfl rfl (by kernel_rfl) (fun _ _ _ h => h) (Or.inl ⟨by rfl, ?_⟩) ?_ ?_
                rotate_left
                · intro w'
                  go_simp
                  with_reducible rfl
                rotate_left
                · simp only [Act.put, List.setIfInBounds_toArray, List.set_cons_zero, List.set_cons_succ, i64_w, i32_w]
                  rfl
                refine done_ (by kernel_rfl) ?_
                
                go_wp2
                go_roundw
                case rel =>
                  refine ⟨i + 1, by omega, by go_num, ⟨?_⟩, ⟨?_⟩⟩
                  · rw [fitO_ins hlt HX.out HOL.out HK.out HI.out]; exact HR12.out
                  · exact HB12.out
                case measure => simp [intOf]; omega
            · go_wp2
              go_quiet (fail)
              go_wp2
              go_quiet (fail)
              go_wp2
              have hins : ∀ p, ol[k]? = some p → p.f0 ≠ xa := by intro q hq; rw [List.getElem?_eq_none (by omega)] at hq; cases hq
              have HI := Lib.hid hins
              clear hins
              obtain ⟨A4, hA4⟩ : ∃ A4 : Option Addr, A4 = (if c3 = k then A3 else A3.map (·.add (k * 3))) := ⟨_, rfl⟩
              have HC4 : Aside0 (∀ W : World, Kd.C k75 W A3 ol.length ol → Kd.C k75 W A4 (ol.drop k).length (ol.drop k)) := ⟨fun W h => by rw [hA4]; exact Kd.C_drop h (by omega) hl3⟩
              have hcut1 := cut_from (P := Tryz.prog) 28 75 .i64 Tryz.underlying28 hii 3 hi1 A3 ol.length c3 (k : Int) (by omega) (by omega)
              have hcut2 := cut_to (P := Tryz.prog) 28 75 .i64 Tryz.underlying28 hii A3 ol.length c3 (k : Int) (by omega) (by omega) hl3
              simp only [Int.toNat_natCast] at hcut1 hcut2
              rw [← hA4] at hcut1
              clear hA4
              refine start_ (n := 11) (S := fun w' => w'.cell? ⟨bx, 0, none⟩ = some (.string xa) ∧ w'.cell? ⟨bx, 1, none⟩ = some (.string (⟨#[]⟩ : ByteArray)) ∧ w'.cell? ⟨bx, 2, none⟩ = some (.bool false)) (ds := [9]) #[false, false, false, false, false, false, false, false, false, false, false] (by kernel_rfl) rfl rfl ⟨hb0, hb1, hb2⟩ (fun hHeld => ?_)
              refine pure_ (i := 0) (N := some 55) (v := ?_) (a' := ?_) #[true, false, false, false, false, false, false, false, false, false, false] rfl rfl (by kernel_rfl) (fun _ _ _ h => h) (Or.inl ⟨by rfl, ?_⟩) ?_ ?_
              rotate_left
              · intro w'
                go_simp
                with_reducible rfl
              rotate_left
              · simp only [Act.put, List.setIfInBounds_toArray, List.set_cons_zero, List.set_cons_succ, i64_w, i32_w]
                rfl
              refine pure_ (i := 1) (N := some 56) (v := ?_) (a' := ?_) #[true, true, false, false, false, false, false, false, false, false, false] rfl rfl (by kernel_rfl) (fun _ _ _ h => h) (Or.inl ⟨by rfl, ?_⟩) ?_ ?_
              rotate_left
              · intro w'
                go_simp
                with_reducible rfl
              rotate_left
              · simp only [Act.put, List.setIfInBounds_toArray, List.set_cons_zero, List.set_cons_succ, i64_w, i32_w]
                rfl
              refine pure_ (i := 2) (N := some 57) (v := ?_) (a' := ?_) #[true, true, true, false, false, false, false, false, false, false, false] rfl rfl (by kernel_rfl) (fun _ _ _ h => h) (Or.inl ⟨by rfl, ?_⟩) ?_ ?_
              rotate_left
              · intro w'
                go_simp
                with_reducible rfl
              rotate_left
              · simp only [Act.put, List.setIfInBounds_toArray, List.set_cons_zero, List.set_cons_succ, i64_w, i32_w]
                rfl
              refine pure_ (i := 5) (N := some 60) (v := ?_) (a' := ?_) #[true, true, true, false, false, true, false, false, false, false, false] rfl rfl (by kernel_rfl) (fun _ _ _ h => h) (Or.inl ⟨by rfl, ?_⟩) ?_ ?_
              rotate_left
              · intro w'
                go_simp
                with_reducible rfl
              rotate_left
              · simp only [Act.put, List.setIfInBounds_toArray, List.set_cons_zero, List.set_cons_succ, i64_w, i32_w]
                rfl
              refine pure_ (i := 6) (N := some 61) (v := ?_) (a' := ?_) #[true, true, true, false, false, true, true, false, false, false, false] rfl rfl (by kernel_rfl) (fun _ _ _ h => h) (Or.inl ⟨by rfl, ?_⟩) ?_ ?_
              rotate_left
              · intro w'
                go_simp
                with_reducible rfl
              rotate_left
              · simp only [Act.put, List.setIfInBounds_toArray, List.set_cons_zero, List.set_cons_succ, i64_w, i32_w]
                rfl
              refine pure_ (i := 7) (N := some 62) (v := ?_) (a' := ?_) #[true, true, true, false, false, true, true, true, false, false, false] rfl rfl (by kernel_rfl) (fun _ _ _ h => h) (Or.inl ⟨by rfl, ?_⟩) ?_ ?_
              rotate_left
              · intro w'
                go_simp
                with_reducible rfl
              rotate_left
              · simp only [Act.put, List.setIfInBounds_toArray, List.set_cons_zero, List.set_cons_succ, i64_w, i32_w]
                rfl
              refine take_ (i := 3) (N := some 58) (v := ?_) (a' := ?_) #[true, true, true, true, false, true, true, true, false, false, false] rfl rfl (by kernel_rfl) (fun _ _ _ h => h) (Or.inl ⟨by rfl, ?_⟩) hHeld ?_ ?_
              rotate_left
              · rintro w' ⟨s0, s1, s2⟩
                go_simp
                with_reducible rfl
              rotate_left
              · simp only [Act.put, List.setIfInBounds_toArray, List.set_cons_zero, List.set_cons_succ, i64_w, i32_w]
                rfl
              refine one_ (i := 4) (N := some 59) #[true, true, true, true, true, true, true, true, false, false, false] rfl rfl (by kernel_rfl) (by decide) (fun K hK => ?_)
              refine Kd.R_lit_step k75 (w0 := w) w.heap.size 75 ?hg (N := 59) ?hd (xs := [⟨xa, (⟨#[]⟩ : ByteArray), false⟩]) (inner := [.string xa, .string (⟨#[]⟩ : ByteArray), .bool false]) (ok := fun _ => True) (okp := fun _ => True) ?hr ?hp (fun _ hk => hk) trivial ?hB ?hS (by simp) ?_; (case hd => rfl); (case hg => rfl); (case hr => first | (go_simp; done) | (go_simp; rfl)); (case hp => exact Reps.snoc (ps := []) (cs := []) (Reps.none _ _) (k75_mkM _ _ _ _) rfl); (case hB => repeat (first | (with_reducible first | exact HB.out | apply below_alloc | apply pw_below_drewN | apply below_drew1) | exact HB.out)); (case hS => exact below_size (by repeat (first | (with_reducible first | exact HB.out | apply below_alloc | apply pw_below_drewN | apply below_drew1) | exact HB.out)))
              intro v64 w7 ho7 hb7 hg7 hn7
              have HR7 := Aside0.mk ho7
              have HB7 := Aside0.mk hb7
              have HO7 := Aside0.mk (Kd.R_grown (by (with_reducible repeat (first | apply Kd.R_drewN | apply Kd.R_drew)); exact HO.out) hg7 (fun _ _ h => by cases h))
              obtain ⟨b7, hn7, hn7b⟩ := hn7
              have HN7 := Aside0.mk hn7
              have HG7 := Aside0.mk hg7
              have HNB7 := Aside0.mk hn7b
              have hne7 : some bx ≠ v64.ownBlock := fun e => by rw [hn7] at e; injection e with e; have h_ : wq.heap.size ≤ b7 := hn7b; omega
              have HNE7 := Aside0.mk hne7
              have hd0 := cell_keep hg7 hb0 (by simp)
              have hd1 := cell_keep hg7 hb1 (by simp)
              have hd2 := cell_keep hg7 hb2 (by simp)
              clear ho7 hb7 hg7 hn7 hn7b hne7
              refine hK.out _ _ ⟨hd0, hd1, hd2⟩ (fun hHeld => ?_)
              clear hK K
              refine norm_ (a' := ?_) ?_ ?_
              rotate_left
              · show Act.put _ (some 59) _ = _
                simp only [Act.put, List.setIfInBounds_toArray, List.set_cons_zero, List.set_cons_succ, i64_w, i32_w]
                rfl
              refine one_ (i := 8) (N := some 63) #[true, true, true, true, true, true, true, true, true, false, false] rfl rfl (by kernel_rfl) (by decide) (fun K hK => ?_)
              refine Kd.R_append_rows_step k75 (Rr := fun x_ cs_ => k75.K w7 x_ cs_) (w0 := w) w.heap.size (by rfl) (.tmp 59) (.tmp 62) 28 75 (.agg #[.string ⟨#[]⟩, .string ⟨#[]⟩, .bool false]) 40 rfl Tryz.underlying28 infoO rfl (by decide) (by decide) v64 [⟨xa, (⟨#[]⟩ : ByteArray), false⟩] (ol.drop k) A4 _ _ (fun _ => True) (fun _ => False) rfl (by rw [← List.length_drop]; rfl) ?hO ?hR (fun x_ cs_ h_ => by rw [k75_open h_]; exact k75_mkM _ _ _ _) (fun _ h_ => h_.elim) (fun _ _ => trivial) ?hB ?hS ?hL ?_; (case hO => exact HR7.out); (case hR => exact HC4.out _ (Kd.R_reads' HO7.out).2.2); (case hB => exact HB7.out); (case hS => exact HB7.out.size); (case hL => simp only [List.length_drop, List.length_singleton]; omega)
              intro v68 w11 ho11 hb11 hg11 hat11
              have HB11 := Aside0.mk hb11
              have HO11 := Aside0.mk (kept_new (by (with_reducible repeat (first | apply Kd.R_drewN | apply Kd.R_drew)); exact HO.out) HG7.out hg11 (fun b h => by rw [HN7.out] at h; injection h with h; exact h ▸ HNB7.out))
              obtain ⟨A68, c68, rfl, hl68, hC68⟩ := Kd.R_reads ho11
              have HC68 := Aside0.mk hC68
              have hf0 := cell_keep hg11 hd0 HNE7.out
              have hf1 := cell_keep hg11 hd1 HNE7.out
              have hf2 := cell_keep hg11 hd2 HNE7.out
              clear ho11 hg11 hat11 hC68
              refine hK.out _ _ ⟨hf0, hf1, hf2⟩ (fun hHeld => ?_)
              clear hK K
              refine norm_ (a' := ?_) ?_ ?_
              rotate_left
              · show Act.put _ (some 63) _ = _
                simp only [Act.put, List.setIfInBounds_toArray, List.set_cons_zero, List.set_cons_succ, i64_w, i32_w]
                rfl
              refine last_ (i := 9) (N := some 64) #[true, true, true, true, true, true, true, true, true, true, false] rfl rfl (by kernel_rfl) (by decide) (fun K hK => ?_)
              refine Kd.R_append_rows_step k75 (Rr := fun x_ cs_ => k75.K w11 x_ cs_) (w0 := w) w.heap.size (by rfl) (.tmp 57) (.tmp 63) 28 75 (.agg #[.string ⟨#[]⟩, .string ⟨#[]⟩, .bool false]) 40 rfl Tryz.underlying28 infoO rfl (by decide) (by decide) (.slice A3 k c3) (ol.take k) ([⟨xa, (⟨#[]⟩ : ByteArray), false⟩] ++ ol.drop k) A68 _ c68 (fun _ => True) (fun _ => False) rfl rfl ?hO ?hR (fun x_ cs_ h_ => by rw [k75_open h_]; exact k75_mkM _ _ _ _) (fun _ h_ => h_.elim) (fun _ _ => trivial) ?hB ?hS ?hL ?_; (case hO => exact Kd.R_take HO11.out (by omega)); (case hR => exact HC68.out); (case hB => exact HB11.out); (case hS => exact HB11.out.size); (case hL => simp only [List.length_append, List.length_take, List.length_drop, List.length_singleton]; omega)
              intro v69 w12 ho12 hb12 hg12 hat12
              have HR12 := Aside0.mk ho12
              have HB12 := Aside0.mk hb12
              clear ho12 hb12 hg12 hat12
              refine hK.out _ _ ?_
              clear hK K
              refine norm_ (a' := ?_) ?_ ?_
              rotate_left
              · show Act.put _ (some 64) _ = _
                simp only [Act.put, List.setIfInBounds_toArray, List.set_cons_zero, List.set_cons_succ, i64_w, i32_w]
                rfl
              refine pure_ (i := 10) (N := some 3) (v := ?_) (a' := ?_) #[true, true, true, true, true, true, true, true, true, true, true] rfl rfl (by kernel_rfl) (fun _ _ _ h => h) (Or.inl ⟨by rfl, ?_⟩) ?_ ?_
              rotate_left
              · intro w'
                go_simp
                with_reducible rfl
              rotate_left
              · simp only [Act.put, List.setIfInBounds_toArray, List.set_cons_zero, List.set_cons_succ, i64_w, i32_w]
                rfl
              refine done_ (by kernel_rfl) ?_
              
              go_wp2
              go_roundw
              case rel =>
                refine ⟨i + 1, by omega, by go_num, ⟨?_⟩, ⟨?_⟩⟩
                · rw [fitO_ins hlt HX.out HOL.out HK.out HI.out]; exact HR12.out
                · exact HB12.out
              case measure => simp [intOf]; omega
      · have HX := Lib.hid (show (⟨xa, xv, true⟩ : S75) = normO (rd_T75 l0 i) by rw [← hx]; rfl)
        clear hx
        go_wp2
        have HO : Aside0 (Kd.R k75 75 (wr.alloc (.cells #[.string xa, .string xv, .bool true] 75)) w.heap.size (fun _ => True) (.slice A3 ol.length c3) ol) := ⟨Kd.R_alloc HO0.out _⟩
        have HB : Aside0 (Below w.heap.size w (wr.alloc (.cells #[.string xa, .string xv, .bool true] 75))) := ⟨below_alloc HB0.out _⟩
        have hb0 : (wr.alloc (.cells #[.string xa, .string xv, .bool true] 75)).cell? ⟨wr.heap.size, 0, none⟩ = some (.string xa) := by simp
        have hb1 : (wr.alloc (.cells #[.string xa, .string xv, .bool true] 75)).cell? ⟨wr.heap.size, 1, none⟩ = some (.string xv) := by simp
        have hb2 : (wr.alloc (.cells #[.string xa, .string xv, .bool true] 75)).cell? ⟨wr.heap.size, 2, none⟩ = some (.bool true) := by simp
        have hws : wr.heap.size < (wr.alloc (.cells #[.string xa, .string xv, .bool true] 75)).heap.size := by simp
        have hwz : w.heap.size ≤ wr.heap.size := HB0.out.size
        obtain ⟨bx, hbx⟩ : ∃ bx, bx = wr.heap.size := ⟨_, rfl⟩
        rw [← hbx] at hb0 hb1 hb2 hws hwz ⊢
        clear hbx
        have hy0 := hx0; clear hx0 hx1 hx2 hy0
        generalize wr.alloc (.cells #[.string xa, .string xv, .bool true] 75) = wq at HO HB hb0 hb1 hb2 hws ⊢
        obtain ⟨_, _, eA, _, hC3⟩ := Kd.R_reads HO.out
        injection eA with eA1 eA2 eA3
        subst eA1; subst eA3
        have HC3 := Lib.hid hC3
        clear hC3
        go_loopw [6] (fun v6 wi => ∃ k : Nat, k ≤ Ord.at_ S75.f0 ol xa ∧ v6 = .int .i64 k ∧ ∃ m, wi = wq.drewN m) (fun v6 _ => ol.length + 1 - (intOf v6).toNat)
        case atStart => exact ⟨0, Nat.zero_le _, rfl, 0, rfl⟩
        case round =>
          obtain ⟨k, hk, rfl, m, rfl⟩ := hrel
          by_cases hk1 : k < Ord.at_ S75.f0 ol xa
          · have hkl : k < ol.length := by omega
            obtain ⟨p, hp, hp2⟩ := Ord.at_lt hk1
            obtain ⟨ad1, rfl, hy0, hy1, hy2⟩ := at_T75 HC3.out (k : Int) (by omega) (by omega)
            have hpe : rd_T75 ol k = p := by simp [rd_T75, List.getD_eq_getElem?_getD, hp]
            rw [hpe] at hy0 hy1 hy2
            have hp3 : Op.bytesLess p.f0.toList xa.toList = true := hp2
            simp only [Int.toNat_natCast] at hy0 hy1 hy2
            clear hp hp2 hpe
            go_wp2
            go_quiet (fail)
            go_wp2
            go_roundw
            case rel => exact ⟨k + 1, by omega, by go_num, _, rfl⟩
            case measure => simp [intOf]; omega
          · obtain rfl : k = Ord.at_ S75.f0 ol xa := by omega
            obtain ⟨k, hk'⟩ : ∃ k, k = Ord.at_ S75.f0 ol xa := ⟨_, rfl⟩
            rw [← hk'] at hat ⊢
            have HK := Lib.hid hk'
            clear hk' hk hk1
            by_cases hkl : k < ol.length
            · obtain ⟨p, hp⟩ : ∃ p, ol[k]? = some p := ⟨ol[k], List.getElem?_eq_getElem hkl⟩
              obtain ⟨ad1, rfl, hy0, hy1, hy2⟩ := at_T75 HC3.out (k : Int) (by omega) (by omega)
              have hpe : rd_T75 ol k = p := by simp [rd_T75, List.getD_eq_getElem?_getD, hp]
              rw [hpe] at hy0 hy1 hy2
              have hp3 : Op.bytesLess p.f0.toList xa.toList = false := Ord.at_stop (key := S75.f0) (by rw [← HK.out]; exact hp)
              simp only [Int.toNat_natCast] at hy0 hy1 hy2
              have HP := Lib.hid hp
              clear hp hpe
              go_wp2
              go_quiet (fail)
              go_wp2
              by_cases he : p.f0 = xa
              · have he1 : (p.f0.toList == xa.toList) = true := by rw [he]; exact beq_self_eq_true _
                have HE := Lib.hid he
                clear he
                obtain ⟨inner, hown⟩ := Kd.R_own HO.out
                obtain ⟨g, cap, eg, hgb, hgl⟩ := World.ownsRow.form hown (by omega)
                injection eg with eg _ ec
                injection eg with eg
                subst eg
                subst ec
                simp only [add_plain] at hy0 hy1 hy2
                have HOW := Lib.hid hown
                clear hown
                go_quiet (fail)
                obtain ⟨gcells, hcells⟩ := own_typed HOW.out g rfl
                have hfr0 : wq.frozen? ⟨g, k * 3, none⟩ = false := blk_frozen hcells _
                have hfr1 : wq.frozen? ⟨g, k * 3 + 1, none⟩ = false := blk_frozen hcells _
                have hfr2 : wq.frozen? ⟨g, k * 3 + 2, none⟩ = false := blk_frozen hcells _
                have HCE := Lib.hid hcells
                clear hcells
                go_wp2
                have hsg := fun n_ : Nat => Kd.R_seg (W := wq.drewN n_) (x' := ⟨xa, xv, true⟩) (seg := [.string xa, .string xv, .bool true]) (j := 0) (c := [.string p.f0, .string p.f1, .bool p.f2]) (okp := fun _ => False) (Kd.R_drewN HO.out n_) (k : Int) (by omega) (by omega) rfl (by intro j u hu; rw [Int.toNat_natCast]; rcases j with _ | _ | _ | j; (· injection hu with hu; subst hu; exact hy0); (· injection hu with hu; subst hu; exact hy1); (· injection hu with hu; subst hu; exact hy2); (· simp at hu)) (by show 0 + 3 ≤ 3; decide) (k75_mkM _ _ _ _) (fun _ h => h.elim)
                simp only [Int.toNat_natCast] at hsg
                have HSG := Lib.hid hsg
                clear hsg
                go_roundw
                case rel =>
                  refine ⟨i + 1, by omega, by go_num, ⟨?_⟩, ⟨?_⟩⟩
                  · rw [fitO_set hlt HX.out HOL.out HK.out HP.out HE.out]; exact (HSG.out _).1
                  · exact Below.grown (pw_below_drewN HB.out _) (HSG.out _).2 HB.out.size (fun k' e' => by injection e' with e'; omega)
                case measure => simp [intOf]; omega
              · have he1 : (p.f0.toList == xa.toList) = false := beq_eq_false_iff_ne.2 (fun e => he (Ord.toList_inj e))
                have HE := Lib.hid he
                clear he
                go_quiet (fail)
                go_wp2
                have hins : ∀ p, ol[k]? = some p → p.f0 ≠ xa := by intro q hq; rw [HP.out] at hq; injection hq with hq; subst hq; exact HE.out
                have HI := Lib.hid hins
                clear hins
                obtain ⟨A4, hA4⟩ : ∃ A4 : Option Addr, A4 = (if c3 = k then (some ad1) else (some ad1).map (·.add (k * 3))) := ⟨_, rfl⟩
                have HC4 : Aside0 (∀ W : World, Kd.C k75 W (some ad1) ol.length ol → Kd.C k75 W A4 (ol.drop k).length (ol.drop k)) := ⟨fun W h => by rw [hA4]; exact Kd.C_drop h (by omega) hl3⟩
                have hcut1 := cut_from (P := Tryz.prog) 28 75 .i64 Tryz.underlying28 hii 3 hi1 (some ad1) ol.length c3 (k : Int) (by omega) (by omega)
                have hcut2 := cut_to (P := Tryz.prog) 28 75 .i64 Tryz.underlying28 hii (some ad1) ol.length c3 (k : Int) (by omega) (by omega) hl3
                simp only [Int.toNat_natCast] at hcut1 hcut2
                rw [← hA4] at hcut1
                clear hA4
                refine start_ (n := 11) (S := fun w' => w'.cell? ⟨bx, 0, none⟩ = some (.string xa) ∧ w'.cell? ⟨bx, 1, none⟩ = some (.string xv) ∧ w'.cell? ⟨bx, 2, none⟩ = some (.bool true)) (ds := [9]) #[false, false, false, false, false, false, false, false, false, false, false] (by kernel_rfl) rfl rfl ⟨hb0, hb1, hb2⟩ (fun hHeld => ?_)
                refine pure_ (i := 0) (N := some 55) (v := ?_) (a' := ?_) #[true, false, false, false, false, false, false, false, false, false, false] rfl rfl (by kernel_rfl) (fun _ _ _ h => h) (Or.inl ⟨by rfl, ?_⟩) ?_ ?_
                rotate_left
                · intro w'
                  go_simp
                  with_reducible rfl
                rotate_left
                · simp only [Act.put, List.setIfInBounds_toArray, List.set_cons_zero, List.set_cons_succ, i64_w, i32_w]
                  rfl
                refine pure_ (i := 1) (N := some 56) (v := ?_) (a' := ?_) #[true, true, false, false, false, false, false, false, false, false, false] rfl rfl (by kernel_rfl) (fun _ _ _ h => h) (Or.inl ⟨by rfl, ?_⟩) ?_ ?_
                rotate_left
                · intro w'
                  go_simp
                  with_reducible rfl
                rotate_left
                · simp only [Act.put, List.setIfInBounds_toArray, List.set_cons_zero, List.set_cons_succ, i64_w, i32_w]
                  rfl
                refine pure_ (i := 2) (N := some 57) (v := ?_) (a' := ?_) #[true, true, true, false, false, false, false, false, false, false, false] rfl rfl (by kernel_rfl) (fun _ _ _ h => h) (Or.inl ⟨by rfl, ?_⟩) ?_ ?_
                rotate_left
                · intro w'
                  go_simp
                  with_reducible rfl
                rotate_left
                · simp only [Act.put, List.setIfInBounds_toArray, List.set_cons_zero, List.set_cons_succ, i64_w, i32_w]
                  rfl
                refine pure_ (i := 5) (N := some 60) (v := ?_) (a' := ?_) #[true, true, true, false, false, true, false, false, false, false, false] rfl rfl (by kernel_rfl) (fun _ _ _ h => h) (Or.inl ⟨by rfl, ?_⟩) ?_ ?_
                rotate_left
                · intro w'
                  go_simp
                  with_reducible rfl
                rotate_left
                · simp only [Act.put, List.setIfInBounds_toArray, List.set_cons_zero, List.set_cons_succ, i64_w, i32_w]
                  rfl
                refine pure_ (i := 6) (N := some 61) (v := ?_) (a' := ?_) #[true, true, true, false, false, true, true, false, false, false, false] rfl rfl (by kernel_rfl) (fun _ _ _ h => h) (Or.inl ⟨by rfl, ?_⟩) ?_ ?_
                rotate_left
                · intro w'
                  go_simp
                  with_reducible rfl
                rotate_left
                · simp only [Act.put, List.setIfInBounds_toArray, List.set_cons_zero, List.set_cons_succ, i64_w, i32_w]
                  rfl
                refine pure_ (i := 7) (N := some 62) (v := ?_) (a' := ?_) #[true, true, true, false, false, true, true, true, false, false, false] rfl rfl (by kernel_rfl) (fun _ _ _ h => h) (Or.inl ⟨by rfl, ?_⟩) ?_ ?_
                rotate_left
                · intro w'
                  go_simp
                  with_reducible rfl
                rotate_left
                · simp only [Act.put, List.setIfInBounds_toArray, List.set_cons_zero, List.set_cons_succ, i64_w, i32_w]
                  rfl
                refine take_ (i := 3) (N := some 58) (v := ?_) (a' := ?_) #[true, true, true, true, false, true, true, true, false, false, false] rfl rfl (by kernel_rfl) (fun _ _ _ h => h) (Or.inl ⟨by rfl, ?_⟩) hHeld ?_ ?_
                rotate_left
                · rintro w' ⟨s0, s1, s2⟩
                  go_simp
                  with_reducible rfl
                rotate_left
                · simp only [Act.put, List.setIfInBounds_toArray, List.set_cons_zero, List.set_cons_succ, i64_w, i32_w]
                  rfl
                refine one_ (i := 4) (N := some 59) #[true, true, true, true, true, true, true, true, false, false, false] rfl rfl (by kernel_rfl) (by decide) (fun K hK => ?_)
                refine Kd.R_lit_step k75 (w0 := w) w.heap.size 75 ?hg (N := 59) ?hd (xs := [⟨xa, xv, true⟩]) (inner := [.string xa, .string xv, .bool true]) (ok := fun _ => True) (okp := fun _ => True) ?hr ?hp (fun _ hk => hk) trivial ?hB ?hS (by simp) ?_; (case hd => rfl); (case hg => rfl); (case hr => first | (go_simp; done) | (go_simp; rfl)); (case hp => exact Reps.snoc (ps := []) (cs := []) (Reps.none _ _) (k75_mkM _ _ _ _) rfl); (case hB => repeat (first | (with_reducible first | exact HB.out | apply below_alloc | apply pw_below_drewN | apply below_drew1) | exact HB.out)); (case hS => exact below_size (by repeat (first | (with_reducible first | exact HB.out | apply below_alloc | apply pw_below_drewN | apply below_drew1) | exact HB.out)))
                intro v64 w7 ho7 hb7 hg7 hn7
                have HR7 := Aside0.mk ho7
                have HB7 := Aside0.mk hb7
                have HO7 := Aside0.mk (Kd.R_grown (by (with_reducible repeat (first | apply Kd.R_drewN | apply Kd.R_drew)); exact HO.out) hg7 (fun _ _ h => by cases h))
                obtain ⟨b7, hn7, hn7b⟩ := hn7
                have HN7 := Aside0.mk hn7
                have HG7 := Aside0.mk hg7
                have HNB7 := Aside0.mk hn7b
                have hne7 : some bx ≠ v64.ownBlock := fun e => by rw [hn7] at e; injection e with e; have h_ : wq.heap.size ≤ b7 := hn7b; omega
                have HNE7 := Aside0.mk hne7
                have hd0 := cell_keep hg7 hb0 (by simp)
                have hd1 := cell_keep hg7 hb1 (by simp)
                have hd2 := cell_keep hg7 hb2 (by simp)
                clear ho7 hb7 hg7 hn7 hn7b hne7
                refine hK.out _ _ ⟨hd0, hd1, hd2⟩ (fun hHeld => ?_)
                clear hK K
                refine norm_ (a' := ?_) ?_ ?_
                rotate_left
                · show Act.put _ (some 59) _ = _
                  simp only [Act.put, List.setIfInBounds_toArray, List.set_cons_zero, List.set_cons_succ, i64_w, i32_w]
                  rfl
                refine one_ (i := 8) (N := some 63) #[true, true, true, true, true, true, true, true, true, false, false] rfl rfl (by kernel_rfl) (by decide) (fun K hK => ?_)
                refine Kd.R_append_rows_step k75 (Rr := fun x_ cs_ => k75.K w7 x_ cs_) (w0 := w) w.heap.size (by rfl) (.tmp 59) (.tmp 62) 28 75 (.agg #[.string ⟨#[]⟩, .string ⟨#[]⟩, .bool false]) 40 rfl Tryz.underlying28 infoO rfl (by decide) (by decide) v64 [⟨xa, xv, true⟩] (ol.drop k) A4 _ _ (fun _ => True) (fun _ => False) rfl (by rw [← List.length_drop]; rfl) ?hO ?hR (fun x_ cs_ h_ => by rw [k75_open h_]; exact k75_mkM _ _ _ _) (fun _ h_ => h_.elim) (fun _ _ => trivial) ?hB ?hS ?hL ?_; (case hO => exact HR7.out); (case hR => exact HC4.out _ (Kd.R_reads' HO7.out).2.2); (case hB => exact HB7.out); (case hS => exact HB7.out.size); (case hL => simp only [List.length_drop, List.length_singleton]; omega)
                intro v68 w11 ho11 hb11 hg11 hat11
                have HB11 := Aside0.mk hb11
                have HO11 := Aside0.mk (kept_new (by (with_reducible repeat (first | apply Kd.R_drewN | apply Kd.R_drew)); exact HO.out) HG7.out hg11 (fun b h => by rw [HN7.out] at h; injection h with h; exact h ▸ HNB7.out))
                obtain ⟨A68, c68, rfl, hl68, hC68⟩ := Kd.R_reads ho11
                have HC68 := Aside0.mk hC68
                have hf0 := cell_keep hg11 hd0 HNE7.out
                have hf1 := cell_keep hg11 hd1 HNE7.out
                have hf2 := cell_keep hg11 hd2 HNE7.out
                clear ho11 hg11 hat11 hC68
                refine hK.out _ _ ⟨hf0, hf1, hf2⟩ (fun hHeld => ?_)
                clear hK K
                refine norm_ (a' := ?_) ?_ ?_
                rotate_left
                · show Act.put _ (some 63) _ = _
                  simp only [Act.put, List.setIfInBounds_toArray, List.set_cons_zero, List.set_cons_succ, i64_w, i32_w]
                  rfl
                refine last_ (i := 9) (N := some 64) #[true, true, true, true, true, true, true, true, true, true, false] rfl rfl (by kernel_rfl) (by decide) (fun K hK => ?_)
                refine Kd.R_append_rows_step k75 (Rr := fun x_ cs_ => k75.K w11 x_ cs_) (w0 := w) w.heap.size (by rfl) (.tmp 57) (.tmp 63) 28 75 (.agg #[.string ⟨#[]⟩, .string ⟨#[]⟩, .bool false]) 40 rfl Tryz.underlying28 infoO rfl (by decide) (by decide) (.slice (some ad1) k c3) (ol.take k) ([⟨xa, xv, true⟩] ++ ol.drop k) A68 _ c68 (fun _ => True) (fun _ => False) rfl rfl ?hO ?hR (fun x_ cs_ h_ => by rw [k75_open h_]; exact k75_mkM _ _ _ _) (fun _ h_ => h_.elim) (fun _ _ => trivial) ?hB ?hS ?hL ?_; (case hO => exact Kd.R_take HO11.out (by omega)); (case hR => exact HC68.out); (case hB => exact HB11.out); (case hS => exact HB11.out.size); (case hL => simp only [List.length_append, List.length_take, List.length_drop, List.length_singleton]; omega)
                intro v69 w12 ho12 hb12 hg12 hat12
                have HR12 := Aside0.mk ho12
                have HB12 := Aside0.mk hb12
                clear ho12 hb12 hg12 hat12
                refine hK.out _ _ ?_
                clear hK K
                refine norm_ (a' := ?_) ?_ ?_
                rotate_left
                · show Act.put _ (some 64) _ = _
                  simp only [Act.put, List.setIfInBounds_toArray, List.set_cons_zero, List.set_cons_succ, i64_w, i32_w]
                  rfl
                refine pure_ (i := 10) (N := some 3) (v := ?_) (a' := ?_) #[true, true, true, true, true, true, true, true, true, true, true] rfl rfl (by kernel_rfl) (fun _ _ _ h => h) (Or.inl ⟨by rfl, ?_⟩) ?_ ?_
                rotate_left
                · intro w'
                  go_simp
                  with_reducible rfl
                rotate_left
                · simp only [Act.put, List.setIfInBounds_toArray, List.set_cons_zero, List.set_cons_succ, i64_w, i32_w]
                  rfl
                refine done_ (by kernel_rfl) ?_
                
                go_wp2
                go_roundw
                case rel =>
                  refine ⟨i + 1, by omega, by go_num, ⟨?_⟩, ⟨?_⟩⟩
                  · rw [fitO_ins hlt HX.out HOL.out HK.out HI.out]; exact HR12.out
                  · exact HB12.out
                case measure => simp [intOf]; omega
            · go_wp2
              go_quiet (fail)
              go_wp2
              go_quiet (fail)
              go_wp2
              have hins : ∀ p, ol[k]? = some p → p.f0 ≠ xa := by intro q hq; rw [List.getElem?_eq_none (by omega)] at hq; cases hq
              have HI := Lib.hid hins
              clear hins
              obtain ⟨A4, hA4⟩ : ∃ A4 : Option Addr, A4 = (if c3 = k then A3 else A3.map (·.add (k * 3))) := ⟨_, rfl⟩
              have HC4 : Aside0 (∀ W : World, Kd.C k75 W A3 ol.length ol → Kd.C k75 W A4 (ol.drop k).length (ol.drop k)) := ⟨fun W h => by rw [hA4]; exact Kd.C_drop h (by omega) hl3⟩
              have hcut1 := cut_from (P := Tryz.prog) 28 75 .i64 Tryz.underlying28 hii 3 hi1 A3 ol.length c3 (k : Int) (by omega) (by omega)
              have hcut2 := cut_to (P := Tryz.prog) 28 75 .i64 Tryz.underlying28 hii A3 ol.length c3 (k : Int) (by omega) (by omega) hl3
              simp only [Int.toNat_natCast] at hcut1 hcut2
              rw [← hA4] at hcut1
              clear hA4
              refine start_ (n := 11) (S := fun w' => w'.cell? ⟨bx, 0, none⟩ = some (.string xa) ∧ w'.cell? ⟨bx, 1, none⟩ = some (.string xv) ∧ w'.cell? ⟨bx, 2, none⟩ = some (.bool true)) (ds := [9]) #[false, false, false, false, false, false, false, false, false, false, false] (by kernel_rfl) rfl rfl ⟨hb0, hb1, hb2⟩ (fun hHeld => ?_)
              refine pure_ (i := 0) (N := some 55) (v := ?_) (a' := ?_) #[true, false, false, false, false, false, false, false, false, false, false] rfl rfl (by kernel_rfl) (fun _ _ _ h => h) (Or.inl ⟨by rfl, ?_⟩) ?_ ?_
              rotate_left
              · intro w'
                go_simp
                with_reducible rfl
              rotate_left
              · simp only [Act.put, List.setIfInBounds_toArray, List.set_cons_zero, List.set_cons_succ, i64_w, i32_w]
                rfl
              refine pure_ (i := 1) (N := some 56) (v := ?_) (a' := ?_) #[true, true, false, false, false, false, false, false, false, false, false] rfl rfl (by kernel_rfl) (fun _ _ _ h => h) (Or.inl ⟨by rfl, ?_⟩) ?_ ?_
              rotate_left
              · intro w'
                go_simp
                with_reducible rfl
              rotate_left
              · simp only [Act.put, List.setIfInBounds_toArray, List.set_cons_zero, List.set_cons_succ, i64_w, i32_w]
                rfl
              refine pure_ (i := 2) (N := some 57) (v := ?_) (a' := ?_) #[true, true, true, false, false, false, false, false, false, false, false] rfl rfl (by kernel_rfl) (fun _ _ _ h => h) (Or.inl ⟨by rfl, ?_⟩) ?_ ?_
              rotate_left
              · intro w'
                go_simp
                with_reducible rfl
              rotate_left
              · simp only [Act.put, List.setIfInBounds_toArray, List.set_cons_zero, List.set_cons_succ, i64_w, i32_w]
                rfl
              refine pure_ (i := 5) (N := some 60) (v := ?_) (a' := ?_) #[true, true, true, false, false, true, false, false, false, false, false] rfl rfl (by kernel_rfl) (fun _ _ _ h => h) (Or.inl ⟨by rfl, ?_⟩) ?_ ?_
              rotate_left
              · intro w'
                go_simp
                with_reducible rfl
              rotate_left
              · simp only [Act.put, List.setIfInBounds_toArray, List.set_cons_zero, List.set_cons_succ, i64_w, i32_w]
                rfl
              refine pure_ (i := 6) (N := some 61) (v := ?_) (a' := ?_) #[true, true, true, false, false, true, true, false, false, false, false] rfl rfl (by kernel_rfl) (fun _ _ _ h => h) (Or.inl ⟨by rfl, ?_⟩) ?_ ?_
              rotate_left
              · intro w'
                go_simp
                with_reducible rfl
              rotate_left
              · simp only [Act.put, List.setIfInBounds_toArray, List.set_cons_zero, List.set_cons_succ, i64_w, i32_w]
                rfl
              refine pure_ (i := 7) (N := some 62) (v := ?_) (a' := ?_) #[true, true, true, false, false, true, true, true, false, false, false] rfl rfl (by kernel_rfl) (fun _ _ _ h => h) (Or.inl ⟨by rfl, ?_⟩) ?_ ?_
              rotate_left
              · intro w'
                go_simp
                with_reducible rfl
              rotate_left
              · simp only [Act.put, List.setIfInBounds_toArray, List.set_cons_zero, List.set_cons_succ, i64_w, i32_w]
                rfl
              refine take_ (i := 3) (N := some 58) (v := ?_) (a' := ?_) #[true, true, true, true, false, true, true, true, false, false, false] rfl rfl (by kernel_rfl) (fun _ _ _ h => h) (Or.inl ⟨by rfl, ?_⟩) hHeld ?_ ?_
              rotate_left
              · rintro w' ⟨s0, s1, s2⟩
                go_simp
                with_reducible rfl
              rotate_left
              · simp only [Act.put, List.setIfInBounds_toArray, List.set_cons_zero, List.set_cons_succ, i64_w, i32_w]
                rfl
              refine one_ (i := 4) (N := some 59) #[true, true, true, true, true, true, true, true, false, false, false] rfl rfl (by kernel_rfl) (by decide) (fun K hK => ?_)
              refine Kd.R_lit_step k75 (w0 := w) w.heap.size 75 ?hg (N := 59) ?hd (xs := [⟨xa, xv, true⟩]) (inner := [.string xa, .string xv, .bool true]) (ok := fun _ => True) (okp := fun _ => True) ?hr ?hp (fun _ hk => hk) trivial ?hB ?hS (by simp) ?_; (case hd => rfl); (case hg => rfl); (case hr => first | (go_simp; done) | (go_simp; rfl)); (case hp => exact Reps.snoc (ps := []) (cs := []) (Reps.none _ _) (k75_mkM _ _ _ _) rfl); (case hB => repeat (first | (with_reducible first | exact HB.out | apply below_alloc | apply pw_below_drewN | apply below_drew1) | exact HB.out)); (case hS => exact below_size (by repeat (first | (with_reducible first | exact HB.out | apply below_alloc | apply pw_below_drewN | apply below_drew1) | exact HB.out)))
              intro v64 w7 ho7 hb7 hg7 hn7
              have HR7 := Aside0.mk ho7
              have HB7 := Aside0.mk hb7
              have HO7 := Aside0.mk (Kd.R_grown (by (with_reducible repeat (first | apply Kd.R_drewN | apply Kd.R_drew)); exact HO.out) hg7 (fun _ _ h => by cases h))
              obtain ⟨b7, hn7, hn7b⟩ := hn7
              have HN7 := Aside0.mk hn7
              have HG7 := Aside0.mk hg7
              have HNB7 := Aside0.mk hn7b
              have hne7 : some bx ≠ v64.ownBlock := fun e => by rw [hn7] at e; injection e with e; have h_ : wq.heap.size ≤ b7 := hn7b; omega
              have HNE7 := Aside0.mk hne7
              have hd0 := cell_keep hg7 hb0 (by simp)
              have hd1 := cell_keep hg7 hb1 (by simp)
              have hd2 := cell_keep hg7 hb2 (by simp)
              clear ho7 hb7 hg7 hn7 hn7b hne7
              refine hK.out _ _ ⟨hd0, hd1, hd2⟩ (fun hHeld => ?_)
              clear hK K
              refine norm_ (a' := ?_) ?_ ?_
              rotate_left
              · show Act.put _ (some 59) _ = _
                simp only [Act.put, List.setIfInBounds_toArray, List.set_cons_zero, List.set_cons_succ, i64_w, i32_w]
                rfl
              refine one_ (i := 8) (N := some 63) #[true, true, true, true, true, true, true, true, true, false, false] rfl rfl (by kernel_rfl) (by decide) (fun K hK => ?_)
              refine Kd.R_append_rows_step k75 (Rr := fun x_ cs_ => k75.K w7 x_ cs_) (w0 := w) w.heap.size (by rfl) (.tmp 59) (.tmp 62) 28 75 (.agg #[.string ⟨#[]⟩, .string ⟨#[]⟩, .bool false]) 40 rfl Tryz.underlying28 infoO rfl (by decide) (by decide) v64 [⟨xa, xv, true⟩] (ol.drop k) A4 _ _ (fun _ => True) (fun _ => False) rfl (by rw [← List.length_drop]; rfl) ?hO ?hR (fun x_ cs_ h_ => by rw [k75_open h_]; exact k75_mkM _ _ _ _) (fun _ h_ => h_.elim) (fun _ _ => trivial) ?hB ?hS ?hL ?_; (case hO => exact HR7.out); (case hR => exact HC4.out _ (Kd.R_reads' HO7.out).2.2); (case hB => exact HB7.out); (case hS => exact HB7.out.size); (case hL => simp only [List.length_drop, List.length_singleton]; omega)
              intro v68 w11 ho11 hb11 hg11 hat11
              have HB11 := Aside0.mk hb11
              have HO11 := Aside0.mk (kept_new (by (with_reducible repeat (first | apply Kd.R_drewN | apply Kd.R_drew)); exact HO.out) HG7.out hg11 (fun b h => by rw [HN7.out] at h; injection h with h; exact h ▸ HNB7.out))
              obtain ⟨A68, c68, rfl, hl68, hC68⟩ := Kd.R_reads ho11
              have HC68 := Aside0.mk hC68
              have hf0 := cell_keep hg11 hd0 HNE7.out
              have hf1 := cell_keep hg11 hd1 HNE7.out
              have hf2 := cell_keep hg11 hd2 HNE7.out
              clear ho11 hg11 hat11 hC68
              refine hK.out _ _ ⟨hf0, hf1, hf2⟩ (fun hHeld => ?_)
              clear hK K
              refine norm_ (a' := ?_) ?_ ?_
              rotate_left
              · show Act.put _ (some 63) _ = _
                simp only [Act.put, List.setIfInBounds_toArray, List.set_cons_zero, List.set_cons_succ, i64_w, i32_w]
                rfl
              refine last_ (i := 9) (N := some 64) #[true, true, true, true, true, true, true, true, true, true, false] rfl rfl (by kernel_rfl) (by decide) (fun K hK => ?_)
              refine Kd.R_append_rows_step k75 (Rr := fun x_ cs_ => k75.K w11 x_ cs_) (w0 := w) w.heap.size (by rfl) (.tmp 57) (.tmp 63) 28 75 (.agg #[.string ⟨#[]⟩, .string ⟨#[]⟩, .bool false]) 40 rfl Tryz.underlying28 infoO rfl (by decide) (by decide) (.slice A3 k c3) (ol.take k) ([⟨xa, xv, true⟩] ++ ol.drop k) A68 _ c68 (fun _ => True) (fun _ => False) rfl rfl ?hO ?hR (fun x_ cs_ h_ => by rw [k75_open h_]; exact k75_mkM _ _ _ _) (fun _ h_ => h_.elim) (fun _ _ => trivial) ?hB ?hS ?hL ?_; (case hO => exact Kd.R_take HO11.out (by omega)); (case hR => exact HC68.out); (case hB => exact HB11.out); (case hS => exact HB11.out.size); (case hL => simp only [List.length_append, List.length_take, List.length_drop, List.length_singleton]; omega)
              intro v69 w12 ho12 hb12 hg12 hat12
              have HR12 := Aside0.mk ho12
              have HB12 := Aside0.mk hb12
              clear ho12 hb12 hg12 hat12
              refine hK.out _ _ ?_
              clear hK K
              refine norm_ (a' := ?_) ?_ ?_
              rotate_left
              · show Act.put _ (some 64) _ = _
                simp only [Act.put, List.setIfInBounds_toArray, List.set_cons_zero, List.set_cons_succ, i64_w, i32_w]
                rfl
              refine pure_ (i := 10) (N := some 3) (v := ?_) (a' := ?_) #[true, true, true, true, true, true, true, true, true, true, true] rfl rfl (by kernel_rfl) (fun _ _ _ h => h) (Or.inl ⟨by rfl, ?_⟩) ?_ ?_
              rotate_left
              · intro w'
                go_simp
                with_reducible rfl
              rotate_left
              · simp only [Act.put, List.setIfInBounds_toArray, List.set_cons_zero, List.set_cons_succ, i64_w, i32_w]
                rfl
              refine done_ (by kernel_rfl) ?_
              
              go_wp2
              go_roundw
              case rel =>
                refine ⟨i + 1, by omega, by go_num, ⟨?_⟩, ⟨?_⟩⟩
                · rw [fitO_ins hlt HX.out HOL.out HK.out HI.out]; exact HR12.out
                · exact HB12.out
              case measure => simp [intOf]; omega
    · go_wp2
      go_ret
      obtain rfl : i = l0.length := by omega
      rw [List.take_length] at HO0
      exact ⟨_, rfl, HO0.out, HB0.out⟩
end Go.Proofs.YtcocmdbleicmcaaGreatDoor.M
