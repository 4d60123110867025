/- Joined texts. -/
import Derived.Test.YtgeamhmenmomhaaDoorPTx0
-- Written by a program over the translation (xprint.py). Lean checks it.
namespace Go.Proofs.YtgeamhmenmomhaaDoor.PT
open Go.RowKit Go.Proofs.YtgeamhmenmomhaaDoorW.PrintWords Go.Proofs.YtgeamhmenmomhaaDoorW.PrintLast Go.Proofs.YtgeamhmenmomhaaDoorW.PrintMore
attribute [local go_sem] max2_int min2_int max_two min_two max_three min_three max_four min_four   -- for this text's walks alone
set_option linter.unusedVariables false
set_option linter.unusedSimpArgs false

/-! ### laws_pairsTo: function 13 -/
def laws_pairsTo.l0 : Nat → List (S51) → List (S69) → Int → Option ((List (S69)))
  | 0, _, _, _ => none
  | k + 1, x0, x3, x4 => if x4 < (x0.length : Int) then (if 0 ≤ x4 then (if x3.length < 4398046511104 then (laws_pairsTo.l0 k x0 (x3 ++ [(⟨(rd_T51 x0 x4).f0, (rd_T51 x0 x4).f1⟩ : S69)]) (wrap64 (x4 + 1))) else (none)) else (none)) else (some x3)
def laws_pairsTo.f (k : Nat) (l0 : List (S51)) : Option ((List (S69))) := laws_pairsTo.l0 k l0 ([] : List (S69)) 0
def laws_pairsTo.T5 : Bool × List (List Nat × List Nat) := (true, [([], []), ([], []), ([], []), ([1, 2], [1, 2]), ([3], [3]), ([4], [4]), ([], []), ([], []), ([6, 7], [6, 7]), ([8], [8]), ([9], [9]), ([5, 10], [5, 10]), ([11], [11]), ([0, 12], [0, 12]), ([13, 13, 0, 1, 2, 3, 4, 5, 6, 7, 8, 9, 10, 11, 12, 13], [0, 13])])
def laws_pairsTo.B5 : List Nat := [0, 0, 0, 6, 14, 30, 0, 0, 192, 448, 960, 2046, 4094, 8191, 16383]
theorem laws_pairsTo.tab5 : rtab .any (opsOf Tryd.f13 5) = laws_pairsTo.T5 := by kernel_rfl
theorem laws_pairsTo.bits5 : waitsOk laws_pairsTo.T5.2 laws_pairsTo.B5 = true := by kernel_rfl
set_option maxHeartbeats 8000000 in
set_option maxRecDepth 100000 in
theorem laws_pairsTo.calls (k : Nat) (A0 : Option Addr) (c0 : Nat) (l0 : List (S51)) (r : List (S69)) (w : World) (hr0 : Kd.C k51 w A0 l0.length l0) (hc0 : l0.length ≤ c0) (h : laws_pairsTo.f k l0 = some r) :
    Calls Tryd.prog 13 #[.slice A0 l0.length c0] w fun e w' => ∃ v0_ : Value, e = .returned (v0_) ∧ Kd.R k69 69 w' w.heap.size (fun _ => True) v0_ r ∧ Below w.heap.size w w' := by
  have hu69 := Tryd.underlying69
  have HR0 := Aside0.mk hr0
  have HC0 := Aside0.mk hc0
  clear hr0 hc0
  have HB := Aside0.mk (Below.refl w.heap.size w)
  have H : (laws_pairsTo.l0 k l0 ([] : List (S69)) 0) = some r := h
  clear h
  have H' := Aside0.mk H
  clear H
  go_enter Tryd.func13, Tryd.ntmps13
  go_wp2
  go_loopg [3, 4] k (fun kq v3 v4 w' => ∃ (x3_1 : List (S69)) (x4_1 : Int), v4 = .int .i64 x4_1 ∧ Aside0 (laws_pairsTo.l0 kq l0 x3_1 x4_1 = some r) ∧ Aside0 (kq ≤ k) ∧ Aside0 (Kd.R k69 69 w' w.heap.size (fun _ => True) v3 x3_1) ∧ Aside0 (Below w.heap.size w w'))
  case atStart => exact ⟨(([] : List (S69))), (0), (by first | rfl | (simp; done) | (simp [*]; done)), H', ⟨Nat.le_refl _⟩, ⟨by first | exact Kd.R_nil _ _ _ _ _ | exact Kd.N_nil _ _ _ _ _ | exact Kd.V_nil _ _ _ _ _ | exact Kd.Q_nil _ _ _ _ _ | exact Kd.S_nil _ _ _ _ _⟩, ⟨by repeat (first | (with_reducible first | exact HB.out | apply below_alloc | apply pw_below_drewN | apply below_drew1) | exact HB.out)⟩⟩
  case round =>
    clear H'
    try clear c1
    obtain ⟨x3_1, x4_1, rfl, HA, HK1, HO_3, HB⟩ := hrel
    cases gk with
    | zero => exact absurd HA.out (by simp [laws_pairsTo.l0])
    | succ k1 =>
      have H := HA.out
      clear HA
      simp only [laws_pairsTo.l0] at H
      by_cases c2 : x4_1 < (l0.length : Int)
      · rw [if_pos c2] at H
        have c2b0 : decide (x4_1 < (l0.length : Int)) = true := decide_eq_true c2
        clear c2
        by_cases c3 : 0 ≤ x4_1
        · rw [if_pos c3] at H
          have c3b0 : decide (0 ≤ x4_1) = true := decide_eq_true c3
          clear c3
          by_cases c4 : x3_1.length < 4398046511104
          · rw [if_pos c4] at H
            have LMc4 := Aside0.mk c4
            clear c4
            obtain ⟨y167, hy167⟩ : ∃ y_ : List (S69), y_ = (x3_1 ++ [(⟨(rd_T51 l0 x4_1).f0, (rd_T51 l0 x4_1).f1⟩ : S69)]) := ⟨_, rfl⟩
            replace H : (laws_pairsTo.l0 k1 l0 y167 (wrap64 (x4_1 + 1))) = some r := by first | (rw [hy167]; with_reducible exact H) | (have H2_ := (Option.bind_some _ _).symm.trans H; rw [hy167]; with_reducible exact H2_) | (have H2_ := (Option.bind_some _ _).symm.trans H; with_reducible exact H2_) | with_reducible exact H | (rw [hy167]; exact H) | exact H
            have Ny167 := Aside0.mk hy167
            clear hy167
            have H' := Aside0.mk H
            clear H
            try go_wp2
            have n0_ := Aside0.mk (Kd.R_drew HO_3.out)
            have n1_ := Aside0.mk (below_drew1 HB.out)
            clear HO_3
            clear HB
            have HO_3 := n0_
            have HB := n1_
            clear n0_ n1_
            have p165 : 0 ≤ (x4_1 : Int) := of_decide_eq_true (by first | (with_reducible assumption) | assumption)
            have q165 : x4_1 < (l0.length : Int) := of_decide_eq_true (by first | (with_reducible assumption) | assumption)
            obtain ⟨ad165, e165, hx165_0, hx165_1⟩ := at_T51 HR0.out x4_1 p165 q165
            have hw165_1 := hx165_1
            have hw165_0 := hx165_0
            cases e165
            replace hx165_0 := (HB.out.cell (World.block_lt_of_cell? w _ hx165_0)).trans hx165_0
            replace hx165_1 := (HB.out.cell (World.block_lt_of_cell? w _ hx165_1)).trans hx165_1
            replace p165 := eq_true p165
            replace q165 := eq_true q165
            have p166 : 0 ≤ (x4_1 : Int) := of_decide_eq_true (by first | (with_reducible assumption) | assumption)
            have q166 : x4_1 < (l0.length : Int) := of_decide_eq_true (by first | (with_reducible assumption) | assumption)
            obtain ⟨ad166, e166, hx166_0, hx166_1⟩ := at_T51 HR0.out x4_1 p166 q166
            have hw166_1 := hx166_1
            have hw166_0 := hx166_0
            obtain rfl : ad165 = ad166 := (by injection e166)
            replace hx166_0 := (HB.out.cell (World.block_lt_of_cell? w _ hx166_0)).trans hx166_0
            replace hx166_1 := (HB.out.cell (World.block_lt_of_cell? w _ hx166_1)).trans hx166_1
            replace p166 := eq_true p166
            replace q166 := eq_true q166
            refine start_ (n := 15) (S := fun w' => w'.cell? (ad165.add ((x4_1).toNat * 2)) = some (.string ((rd_T51 l0 x4_1).f0)) ∧ w'.cell? ⟨(ad165.add ((x4_1).toNat * 2)).block, (ad165.add ((x4_1).toNat * 2)).off + 1, none⟩ = some (.string ((rd_T51 l0 x4_1).f1)) ∧ w'.cell? (ad165.add ((x4_1).toNat * 2)) = some (.string ((rd_T51 l0 x4_1).f0)) ∧ w'.cell? ⟨(ad165.add ((x4_1).toNat * 2)).block, (ad165.add ((x4_1).toNat * 2)).off + 1, none⟩ = some (.string ((rd_T51 l0 x4_1).f1))) (ds := []) #[false, false, false, false, false, false, false, false, false, false, false, false, false, false, false] (by kernel_rfl) rfl rfl ⟨((HB.out.cell (World.block_lt_of_cell? w _ hw165_0)).trans hw165_0), ((HB.out.cell (World.block_lt_of_cell? w _ hw165_1)).trans hw165_1), ((HB.out.cell (World.block_lt_of_cell? w _ hw166_0)).trans hw166_0), ((HB.out.cell (World.block_lt_of_cell? w _ hw166_1)).trans hw166_1)⟩ (fun hHeld => ?_); refine with_tabW laws_pairsTo.tab5 laws_pairsTo.bits5 (fun HT_ HW_ => ?_)
            generalize wr.drew = w5 at HO_3 HB hx165_0 hx165_1 hx166_0 hx166_1 hHeld ⊢
            refine pure_ (i := 0) (N := some 11) (v := ?_) (a' := ?_) #[true, false, false, false, false, false, false, false, false, false, false, false, false, false, false] rfl rfl (any_of HT_.out (by kernel_rfl)) (fun _ _ _ h => h) (Or.inl ⟨by rfl, ?_⟩) ?_ ?_
            rotate_left
            · intro w'
              go_simp
              with_reducible rfl
            rotate_left
            · simp only [Act.put, List.setIfInBounds_toArray, List.set_cons_zero, List.set_cons_succ, i64_w, i32_w]
              rfl
            refine pure_ (i := 1) (N := some 12) (v := ?_) (a' := ?_) #[true, true, false, false, false, false, false, false, false, false, false, false, false, false, false] rfl rfl (any_of HT_.out (by kernel_rfl)) (fun _ _ _ h => h) (Or.inl ⟨by rfl, ?_⟩) ?_ ?_
            rotate_left
            · intro w'
              go_simp
              with_reducible rfl
            rotate_left
            · simp only [Act.put, List.setIfInBounds_toArray, List.set_cons_zero, List.set_cons_succ, i64_w, i32_w]
              rfl
            refine pure_ (i := 2) (N := some 13) (v := ?_) (a' := ?_) #[true, true, true, false, false, false, false, false, false, false, false, false, false, false, false] rfl rfl (any_of HT_.out (by kernel_rfl)) (fun _ _ _ h => h) (Or.inl ⟨by rfl, ?_⟩) ?_ ?_
            rotate_left
            · intro w'
              go_simp
              with_reducible rfl
            rotate_left
            · simp only [Act.put, List.setIfInBounds_toArray, List.set_cons_zero, List.set_cons_succ, i64_w, i32_w]
              rfl
            refine pure_ (i := 3) (N := some 14) (v := ?_) (a' := ?_) #[true, true, true, true, false, false, false, false, false, false, false, false, false, false, false] rfl rfl (any_of HT_.out (by kernel_rfl)) (fun _ _ _ h => h) (Or.inl ⟨by rfl, ?_⟩) ?_ ?_
            rotate_left
            · intro w'
              go_simp
              with_reducible rfl
            rotate_left
            · simp only [Act.put, List.setIfInBounds_toArray, List.set_cons_zero, List.set_cons_succ, i64_w, i32_w]
              rfl
            refine pure_ (i := 4) (N := some 15) (v := ?_) (a' := ?_) #[true, true, true, true, true, false, false, false, false, false, false, false, false, false, false] rfl rfl (any_of HT_.out (by kernel_rfl)) (fun _ _ _ h => h) (Or.inl ⟨by rfl, ?_⟩) ?_ ?_
            rotate_left
            · intro w'
              go_simp
              with_reducible rfl
            rotate_left
            · simp only [Act.put, List.setIfInBounds_toArray, List.set_cons_zero, List.set_cons_succ, i64_w, i32_w]
              rfl
            refine pure_ (i := 6) (N := some 17) (v := ?_) (a' := ?_) #[true, true, true, true, true, false, true, false, false, false, false, false, false, false, false] rfl rfl (any_of HT_.out (by kernel_rfl)) (fun _ _ _ h => h) (Or.inl ⟨by rfl, ?_⟩) ?_ ?_
            rotate_left
            · intro w'
              go_simp
              with_reducible rfl
            rotate_left
            · simp only [Act.put, List.setIfInBounds_toArray, List.set_cons_zero, List.set_cons_succ, i64_w, i32_w]
              rfl
            refine pure_ (i := 7) (N := some 18) (v := ?_) (a' := ?_) #[true, true, true, true, true, false, true, true, false, false, false, false, false, false, false] rfl rfl (any_of HT_.out (by kernel_rfl)) (fun _ _ _ h => h) (Or.inl ⟨by rfl, ?_⟩) ?_ ?_
            rotate_left
            · intro w'
              go_simp
              with_reducible rfl
            rotate_left
            · simp only [Act.put, List.setIfInBounds_toArray, List.set_cons_zero, List.set_cons_succ, i64_w, i32_w]
              rfl
            refine pure_ (i := 8) (N := some 19) (v := ?_) (a' := ?_) #[true, true, true, true, true, false, true, true, true, false, false, false, false, false, false] rfl rfl (any_of HT_.out (by kernel_rfl)) (fun _ _ _ h => h) (Or.inl ⟨by rfl, ?_⟩) ?_ ?_
            rotate_left
            · intro w'
              go_simp
              with_reducible rfl
            rotate_left
            · simp only [Act.put, List.setIfInBounds_toArray, List.set_cons_zero, List.set_cons_succ, i64_w, i32_w]
              rfl
            refine pure_ (i := 9) (N := some 20) (v := ?_) (a' := ?_) #[true, true, true, true, true, false, true, true, true, true, false, false, false, false, false] rfl rfl (any_of HT_.out (by kernel_rfl)) (fun _ _ _ h => h) (Or.inl ⟨by rfl, ?_⟩) ?_ ?_
            rotate_left
            · intro w'
              go_simp
              with_reducible rfl
            rotate_left
            · simp only [Act.put, List.setIfInBounds_toArray, List.set_cons_zero, List.set_cons_succ, i64_w, i32_w]
              rfl
            refine take_ (i := 5) (N := some 16) (v := ?_) (a' := ?_) #[true, true, true, true, true, true, true, true, true, true, false, false, false, false, false] rfl rfl (take_ofW HT_.out HW_.out (by kernel_rfl)) (fun _ _ _ h => h) (Or.inl ⟨by rfl, ?_⟩) hHeld ?_ ?_
            rotate_left
            · rintro w' ⟨s0, s1, s2, s3⟩
              go_simp
              with_reducible rfl
            rotate_left
            · simp only [Act.put, List.setIfInBounds_toArray, List.set_cons_zero, List.set_cons_succ, i64_w, i32_w]
              rfl
            refine take_ (i := 10) (N := some 21) (v := ?_) (a' := ?_) #[true, true, true, true, true, true, true, true, true, true, true, false, false, false, false] rfl rfl (take_ofW HT_.out HW_.out (by kernel_rfl)) (fun _ _ _ h => h) (Or.inl ⟨by rfl, ?_⟩) hHeld ?_ ?_
            rotate_left
            · rintro w' ⟨s0, s1, s2, s3⟩
              go_simp
              with_reducible rfl
            rotate_left
            · simp only [Act.put, List.setIfInBounds_toArray, List.set_cons_zero, List.set_cons_succ, i64_w, i32_w]
              rfl
            refine pure_ (i := 11) (N := some 22) (v := ?_) (a' := ?_) #[true, true, true, true, true, true, true, true, true, true, true, true, false, false, false] rfl rfl (any_of HT_.out (by kernel_rfl)) (fun _ _ _ h => h) (Or.inl ⟨by rfl, ?_⟩) ?_ ?_
            rotate_left
            · intro w'
              go_simp
              with_reducible rfl
            rotate_left
            · simp only [Act.put, List.setIfInBounds_toArray, List.set_cons_zero, List.set_cons_succ, i64_w, i32_w]
              rfl
            refine one_ (i := 12) (N := some 23) #[true, true, true, true, true, true, true, true, true, true, true, true, true, false, false] rfl rfl (one_of HT_.out (by kernel_rfl)) (by decide) (fun K hK => ?_)
            refine value_ (w1 := ?_) (v := ?_) (by rfl) rfl ?_ ?_
            rotate_left 2
            · go_simp
              constructor
              · rfl
              · rfl
            refine hK.out _ _ ⟨(World.cell?_alloc_lt _ _ _ (World.block_lt_of_cell? _ _ (((HB.out.cell (World.block_lt_of_cell? w _ hw165_0)).trans hw165_0)))).trans (((HB.out.cell (World.block_lt_of_cell? w _ hw165_0)).trans hw165_0)), (World.cell?_alloc_lt _ _ _ (World.block_lt_of_cell? _ _ (((HB.out.cell (World.block_lt_of_cell? w _ hw165_1)).trans hw165_1)))).trans (((HB.out.cell (World.block_lt_of_cell? w _ hw165_1)).trans hw165_1)), (World.cell?_alloc_lt _ _ _ (World.block_lt_of_cell? _ _ (((HB.out.cell (World.block_lt_of_cell? w _ hw166_0)).trans hw166_0)))).trans (((HB.out.cell (World.block_lt_of_cell? w _ hw166_0)).trans hw166_0)), (World.cell?_alloc_lt _ _ _ (World.block_lt_of_cell? _ _ (((HB.out.cell (World.block_lt_of_cell? w _ hw166_1)).trans hw166_1)))).trans (((HB.out.cell (World.block_lt_of_cell? w _ hw166_1)).trans hw166_1))⟩ (fun hHeld => ?_)
            clear hK K
            refine norm_ (a' := ?_) ?_ ?_
            rotate_left
            · show Act.put _ (some 23) _ = _
              simp only [Act.put, List.setIfInBounds_toArray, List.set_cons_zero, List.set_cons_succ, i64_w, i32_w]
              rfl
            refine one_ (i := 13) (N := some 24) #[true, true, true, true, true, true, true, true, true, true, true, true, true, true, false] rfl rfl (one_of HT_.out (by kernel_rfl)) (by decide) (fun K hK => ?_)
            refine Kd.R_append_step k69 (w0 := w) w.heap.size (by rfl) (.tmp 11) (.tmp 23) 40 69 (.agg #[(.string ⟨#[]⟩), (.string ⟨#[]⟩)]) 32 rfl Tryd.underlying40 info69 rfl (by decide) (by omega) u3 x3_1 (⟨(rd_T51 l0 x4_1).f0, (rd_T51 l0 x4_1).f1⟩ : S69) [.string ((rd_T51 l0 x4_1).f0), .string ((rd_T51 l0 x4_1).f1)] (fun _ => True) (fun _ => False) rfl rfl ?aP (fun _ hk => hk.elim) ?aF ?aO ?aB ?aS ?aL ?_
            (case aP => exact k69_mkM _ _ _ (⟨(rd_T51 l0 x4_1).f0, (rd_T51 l0 x4_1).f1⟩ : S69))
            (case aB => exact (by repeat (first | (with_reducible first | exact HB.out | apply below_alloc | apply pw_below_drewN | apply below_drew1) | exact HB.out)))
            (case aF => exact (fun _ _ => trivial))
            (case aO => exact (by (with_reducible repeat (first | apply Kd.R_alloc | apply Kd.R_drewN | apply Kd.R_drew)); exact HO_3.out))
            (case aS => exact (below_size (by repeat (first | (with_reducible first | exact HB.out | apply below_alloc | apply pw_below_drewN | apply below_drew1) | exact HB.out))))
            (case aL => have := LMc4.out; omega)
            intro v168 w6 ho hb hg hat
            rw [← Ny167.out] at ho
            have n0_ := Aside0.mk (hb)
            have n1_ := Aside0.mk (ho)
            clear HB
            clear HO_3
            have HB := n0_
            have HO169 := n1_
            clear n0_ n1_
            clear ho hb hg hat
            refine hK.out _ _ ⟨((HB.out.cell (World.block_lt_of_cell? w _ hw165_0)).trans hw165_0), ((HB.out.cell (World.block_lt_of_cell? w _ hw165_1)).trans hw165_1), ((HB.out.cell (World.block_lt_of_cell? w _ hw166_0)).trans hw166_0), ((HB.out.cell (World.block_lt_of_cell? w _ hw166_1)).trans hw166_1)⟩ (fun hHeld => ?_)
            clear hK K
            refine norm_ (a' := ?_) ?_ ?_
            rotate_left
            · show Act.put _ (some 24) _ = _
              simp only [Act.put, List.setIfInBounds_toArray, List.set_cons_zero, List.set_cons_succ, i64_w, i32_w]
              rfl
            refine pure_ (i := 14) (N := some 3) (v := ?_) (a' := ?_) #[true, true, true, true, true, true, true, true, true, true, true, true, true, true, true] rfl rfl (any_of HT_.out (by kernel_rfl)) (fun _ _ _ h => h) (Or.inl ⟨by rfl, ?_⟩) ?_ ?_
            rotate_left
            · intro w'
              go_simp
              with_reducible rfl
            rotate_left
            · simp only [Act.put, List.setIfInBounds_toArray, List.set_cons_zero, List.set_cons_succ, i64_w, i32_w]
              rfl
            refine done_ (done_of HT_.out (by kernel_rfl)) ?_
            try go_wp2
            go_roundg k1
            case measure => have := HK1.out; omega
            case rel => exact ⟨(y167), (wrap64 (x4_1 + 1)), (by first | rfl | (simp; done) | (simp [*]; done)), H', ⟨by have := HK1.out; omega⟩, ⟨by (with_reducible repeat (first | apply Kd.R_alloc | apply Kd.R_drewN | apply Kd.R_drew)); exact HO169.out⟩, ⟨by repeat (first | (with_reducible first | exact HB.out | apply below_alloc | apply pw_below_drewN | apply below_drew1) | exact HB.out)⟩⟩
          · rw [if_neg c4] at H
            exact absurd H (by simp)
        · rw [if_neg c3] at H
          exact absurd H (by simp)
      · rw [if_neg c2] at H
        have c2b0 : decide (x4_1 < (l0.length : Int)) = false := decide_eq_false c2
        clear c2
        obtain rfl := Option.some.inj H
        go_wp2
        go_ret
        exact ⟨_, by first | rfl | (simp [errW_none, errW_some] <;> rfl) | (simp [*, errW_none, errW_some] <;> rfl), by (with_reducible repeat (first | apply Kd.R_alloc | apply Kd.R_drewN | apply Kd.R_drew)); exact HO_3.out, by repeat (first | (with_reducible first | exact HB.out | apply below_alloc | apply pw_below_drewN | apply below_drew1) | exact HB.out)⟩

/-! ### loader_zzIndex: function 65 -/
/-! ### loader_zzContains: function 56 -/
end Go.Proofs.YtgeamhmenmomhaaDoor.PT
-- Written by a program over the translation (xprint.py). Lean checks it.
namespace Go.Proofs.YtgeamhmenmomhaaDoor.PT
open Go.RowKit Go.Proofs.YtgeamhmenmomhaaDoorW.PrintWords Go.Proofs.YtgeamhmenmomhaaDoorW.PrintLast Go.Proofs.YtgeamhmenmomhaaDoorW.PrintMore
attribute [local go_sem] max2_int min2_int max_two min_two max_three min_three max_four min_four   -- for this text's walks alone
set_option linter.unusedVariables false
set_option linter.unusedSimpArgs false

/-! ### spec_sayName: function 33 -/
def spec_sayName.l0 : Nat → ByteArray → Int → Option (Bool)
  | 0, _, _ => none
  | k + 1, x0, x3 => if x3 < (x0.size : Int) then (if 0 ≤ x3 then (if (bt x0 x3) ≥ 97 then (if (bt x0 x3) ≤ 122 then (spec_sayName.l0 k x0 (wrap64 (x3 + 1))) else (if (bt x0 x3) ≥ 65 then (if (bt x0 x3) ≤ 90 then (spec_sayName.l0 k x0 (wrap64 (x3 + 1))) else (if (bt x0 x3) ≥ 48 then (if (bt x0 x3) ≤ 57 then (spec_sayName.l0 k x0 (wrap64 (x3 + 1))) else (if (bt x0 x3) = 95 then (spec_sayName.l0 k x0 (wrap64 (x3 + 1))) else (if ((bt x0 x3) = 45) then (spec_sayName.l0 k x0 (wrap64 (x3 + 1))) else (some false)))) else (if (bt x0 x3) = 95 then (spec_sayName.l0 k x0 (wrap64 (x3 + 1))) else (if ((bt x0 x3) = 45) then (spec_sayName.l0 k x0 (wrap64 (x3 + 1))) else (some false))))) else (if (bt x0 x3) ≥ 48 then (if (bt x0 x3) ≤ 57 then (spec_sayName.l0 k x0 (wrap64 (x3 + 1))) else (if (bt x0 x3) = 95 then (spec_sayName.l0 k x0 (wrap64 (x3 + 1))) else (if ((bt x0 x3) = 45) then (spec_sayName.l0 k x0 (wrap64 (x3 + 1))) else (some false)))) else (if (bt x0 x3) = 95 then (spec_sayName.l0 k x0 (wrap64 (x3 + 1))) else (if ((bt x0 x3) = 45) then (spec_sayName.l0 k x0 (wrap64 (x3 + 1))) else (some false)))))) else (if (bt x0 x3) ≥ 65 then (if (bt x0 x3) ≤ 90 then (spec_sayName.l0 k x0 (wrap64 (x3 + 1))) else (if (bt x0 x3) ≥ 48 then (if (bt x0 x3) ≤ 57 then (spec_sayName.l0 k x0 (wrap64 (x3 + 1))) else (if (bt x0 x3) = 95 then (spec_sayName.l0 k x0 (wrap64 (x3 + 1))) else (if ((bt x0 x3) = 45) then (spec_sayName.l0 k x0 (wrap64 (x3 + 1))) else (some false)))) else (if (bt x0 x3) = 95 then (spec_sayName.l0 k x0 (wrap64 (x3 + 1))) else (if ((bt x0 x3) = 45) then (spec_sayName.l0 k x0 (wrap64 (x3 + 1))) else (some false))))) else (if (bt x0 x3) ≥ 48 then (if (bt x0 x3) ≤ 57 then (spec_sayName.l0 k x0 (wrap64 (x3 + 1))) else (if (bt x0 x3) = 95 then (spec_sayName.l0 k x0 (wrap64 (x3 + 1))) else (if ((bt x0 x3) = 45) then (spec_sayName.l0 k x0 (wrap64 (x3 + 1))) else (some false)))) else (if (bt x0 x3) = 95 then (spec_sayName.l0 k x0 (wrap64 (x3 + 1))) else (if ((bt x0 x3) = 45) then (spec_sayName.l0 k x0 (wrap64 (x3 + 1))) else (some false)))))) else (none)) else (some (x0.toList != ([] : List UInt8)))
def spec_sayName.f (k : Nat) (a0 : ByteArray) : Option (Bool) := spec_sayName.l0 k a0 0
set_option maxHeartbeats 8000000 in
set_option maxRecDepth 100000 in
theorem spec_sayName.calls (k : Nat) (a0 : ByteArray) (r : Bool) (w : World) (h : spec_sayName.f k a0 = some r) :
    Calls Tryd.prog 33 #[.string a0] w fun e w' => e = .returned (.bool r) ∧ Drawn0 w w' := by
  have H : (spec_sayName.l0 k a0 0) = some r := h
  clear h
  have H' := Aside0.mk H
  clear H
  go_enter Tryd.func33, Tryd.ntmps33
  go_wp2
  go_loopg [3] k (fun kq v3 w' => ∃ (x3_1 : Int), v3 = .int .i64 x3_1 ∧ Aside0 (spec_sayName.l0 kq a0 x3_1 = some r) ∧ Aside0 (kq ≤ k) ∧ Drawn0 w w')
  case atStart => exact ⟨(0), (by first | rfl | (simp; done) | (simp [*]; done)), H', ⟨Nat.le_refl _⟩, by repeat (first | exact Drawn0.refl _ | apply Drawn0.step)⟩
  case round =>
    clear H'
    obtain ⟨x3_1, rfl, HA, HK1, ⟨m1, rfl⟩⟩ := hrel
    cases gk with
    | zero => exact absurd HA.out (by simp [spec_sayName.l0])
    | succ k1 =>
      have H := HA.out
      clear HA
      simp only [spec_sayName.l0] at H
      by_cases c2 : x3_1 < (a0.size : Int)
      · rw [if_pos c2] at H
        have c2b0 : decide (x3_1 < (a0.size : Int)) = true := decide_eq_true c2
        clear c2
        by_cases c3 : 0 ≤ x3_1
        · rw [if_pos c3] at H
          have c3b0 : decide (0 ≤ x3_1) = true := decide_eq_true c3
          clear c3
          by_cases c5 : (bt a0 x3_1) ≥ 97
          · rw [if_pos c5] at H
            have c5b0 : decide (97 ≤ (bt a0 x3_1)) = true := decide_eq_true c5
            clear c5
            by_cases c6 : (bt a0 x3_1) ≤ 122
            · rw [if_pos c6] at H
              have c6b0 : decide ((bt a0 x3_1) ≤ 122) = true := decide_eq_true c6
              clear c6
              have H' := Aside0.mk H
              clear H
              have p4 : 0 ≤ (x3_1 : Int) := of_decide_eq_true (by first | (with_reducible assumption) | assumption)
              have q4 : x3_1 < (a0.size : Int) := of_decide_eq_true (by first | (with_reducible assumption) | assumption)
              have hx4 := bt_at a0 x3_1
              replace p4 := eq_true p4
              replace q4 := eq_true q4
              go_wp2
              go_roundg k1
              case measure => have := HK1.out; omega
              case rel => exact ⟨(wrap64 (x3_1 + 1)), (by first | rfl | (simp; done) | (simp [*]; done)), H', ⟨by have := HK1.out; omega⟩, by repeat (first | exact Drawn0.refl _ | apply Drawn0.step)⟩
            · rw [if_neg c6] at H
              have c6b0 : decide ((bt a0 x3_1) ≤ 122) = false := decide_eq_false c6
              clear c6
              by_cases c7 : (bt a0 x3_1) ≥ 65
              · rw [if_pos c7] at H
                have c7b0 : decide (65 ≤ (bt a0 x3_1)) = true := decide_eq_true c7
                clear c7
                by_cases c8 : (bt a0 x3_1) ≤ 90
                · rw [if_pos c8] at H
                  have c8b0 : decide ((bt a0 x3_1) ≤ 90) = true := decide_eq_true c8
                  clear c8
                  have H' := Aside0.mk H
                  clear H
                  have p4 : 0 ≤ (x3_1 : Int) := of_decide_eq_true (by first | (with_reducible assumption) | assumption)
                  have q4 : x3_1 < (a0.size : Int) := of_decide_eq_true (by first | (with_reducible assumption) | assumption)
                  have hx4 := bt_at a0 x3_1
                  replace p4 := eq_true p4
                  replace q4 := eq_true q4
                  go_wp2
                  go_roundg k1
                  case measure => have := HK1.out; omega
                  case rel => exact ⟨(wrap64 (x3_1 + 1)), (by first | rfl | (simp; done) | (simp [*]; done)), H', ⟨by have := HK1.out; omega⟩, by repeat (first | exact Drawn0.refl _ | apply Drawn0.step)⟩
                · rw [if_neg c8] at H
                  have c8b0 : decide ((bt a0 x3_1) ≤ 90) = false := decide_eq_false c8
                  clear c8
                  by_cases c9 : (bt a0 x3_1) ≥ 48
                  · rw [if_pos c9] at H
                    have c9b0 : decide (48 ≤ (bt a0 x3_1)) = true := decide_eq_true c9
                    clear c9
                    by_cases c10 : (bt a0 x3_1) ≤ 57
                    · rw [if_pos c10] at H
                      have c10b0 : decide ((bt a0 x3_1) ≤ 57) = true := decide_eq_true c10
                      clear c10
                      have H' := Aside0.mk H
                      clear H
                      have p4 : 0 ≤ (x3_1 : Int) := of_decide_eq_true (by first | (with_reducible assumption) | assumption)
                      have q4 : x3_1 < (a0.size : Int) := of_decide_eq_true (by first | (with_reducible assumption) | assumption)
                      have hx4 := bt_at a0 x3_1
                      replace p4 := eq_true p4
                      replace q4 := eq_true q4
                      go_wp2
                      go_roundg k1
                      case measure => have := HK1.out; omega
                      case rel => exact ⟨(wrap64 (x3_1 + 1)), (by first | rfl | (simp; done) | (simp [*]; done)), H', ⟨by have := HK1.out; omega⟩, by repeat (first | exact Drawn0.refl _ | apply Drawn0.step)⟩
                    · rw [if_neg c10] at H
                      have c10b0 : decide ((bt a0 x3_1) ≤ 57) = false := decide_eq_false c10
                      clear c10
                      by_cases c11 : (bt a0 x3_1) = 95
                      · rw [if_pos c11] at H
                        have c11b0 : ((bt a0 x3_1) == 95) = true := beq_iff_eq.mpr c11
                        have c11b1 : ((bt a0 x3_1) != 95) = false := bne_eq_false_iff_eq.mpr c11
                        clear c11
                        have H' := Aside0.mk H
                        clear H
                        have p4 : 0 ≤ (x3_1 : Int) := of_decide_eq_true (by first | (with_reducible assumption) | assumption)
                        have q4 : x3_1 < (a0.size : Int) := of_decide_eq_true (by first | (with_reducible assumption) | assumption)
                        have hx4 := bt_at a0 x3_1
                        replace p4 := eq_true p4
                        replace q4 := eq_true q4
                        go_wp2
                        go_roundg k1
                        case measure => have := HK1.out; omega
                        case rel => exact ⟨(wrap64 (x3_1 + 1)), (by first | rfl | (simp; done) | (simp [*]; done)), H', ⟨by have := HK1.out; omega⟩, by repeat (first | exact Drawn0.refl _ | apply Drawn0.step)⟩
                      · rw [if_neg c11] at H
                        have c11b0 : ((bt a0 x3_1) == 95) = false := beq_eq_false_iff_ne.mpr c11
                        have c11b1 : ((bt a0 x3_1) != 95) = true := bne_iff_ne.mpr c11
                        by_cases c12 : ((bt a0 x3_1) = 45)
                        · rw [if_pos c12] at H
                          have c12b0 : ((bt a0 x3_1) == 45) = true := beq_iff_eq.mpr c12
                          have c12b1 : ((bt a0 x3_1) != 45) = false := bne_eq_false_iff_eq.mpr c12
                          clear c12
                          have H' := Aside0.mk H
                          clear H
                          have p4 : 0 ≤ (x3_1 : Int) := of_decide_eq_true (by first | (with_reducible assumption) | assumption)
                          have q4 : x3_1 < (a0.size : Int) := of_decide_eq_true (by first | (with_reducible assumption) | assumption)
                          have hx4 := bt_at a0 x3_1
                          replace p4 := eq_true p4
                          replace q4 := eq_true q4
                          go_wp2
                          go_roundg k1
                          case measure => have := HK1.out; omega
                          case rel => exact ⟨(wrap64 (x3_1 + 1)), (by first | rfl | (simp; done) | (simp [*]; done)), H', ⟨by have := HK1.out; omega⟩, by repeat (first | exact Drawn0.refl _ | apply Drawn0.step)⟩
                        · rw [if_neg c12] at H
                          have c12b0 : ((bt a0 x3_1) == 45) = false := beq_eq_false_iff_ne.mpr c12
                          have c12b1 : ((bt a0 x3_1) != 45) = true := bne_iff_ne.mpr c12
                          obtain rfl := Option.some.inj H
                          have p4 : 0 ≤ (x3_1 : Int) := of_decide_eq_true (by first | (with_reducible assumption) | assumption)
                          have q4 : x3_1 < (a0.size : Int) := of_decide_eq_true (by first | (with_reducible assumption) | assumption)
                          have hx4 := bt_at a0 x3_1
                          replace p4 := eq_true p4
                          replace q4 := eq_true q4
                          go_wp2
                          go_ret
                          exact ⟨by first | rfl | (simp; done) | (simp [*]; done), by repeat (first | exact Drawn0.refl _ | apply Drawn0.step)⟩
                  · rw [if_neg c9] at H
                    have c9b0 : decide (48 ≤ (bt a0 x3_1)) = false := decide_eq_false c9
                    clear c9
                    by_cases c13 : (bt a0 x3_1) = 95
                    · rw [if_pos c13] at H
                      have c13b0 : ((bt a0 x3_1) == 95) = true := beq_iff_eq.mpr c13
                      have c13b1 : ((bt a0 x3_1) != 95) = false := bne_eq_false_iff_eq.mpr c13
                      clear c13
                      have H' := Aside0.mk H
                      clear H
                      have p4 : 0 ≤ (x3_1 : Int) := of_decide_eq_true (by first | (with_reducible assumption) | assumption)
                      have q4 : x3_1 < (a0.size : Int) := of_decide_eq_true (by first | (with_reducible assumption) | assumption)
                      have hx4 := bt_at a0 x3_1
                      replace p4 := eq_true p4
                      replace q4 := eq_true q4
                      go_wp2
                      go_roundg k1
                      case measure => have := HK1.out; omega
                      case rel => exact ⟨(wrap64 (x3_1 + 1)), (by first | rfl | (simp; done) | (simp [*]; done)), H', ⟨by have := HK1.out; omega⟩, by repeat (first | exact Drawn0.refl _ | apply Drawn0.step)⟩
                    · rw [if_neg c13] at H
                      have c13b0 : ((bt a0 x3_1) == 95) = false := beq_eq_false_iff_ne.mpr c13
                      have c13b1 : ((bt a0 x3_1) != 95) = true := bne_iff_ne.mpr c13
                      by_cases c14 : ((bt a0 x3_1) = 45)
                      · rw [if_pos c14] at H
                        have c14b0 : ((bt a0 x3_1) == 45) = true := beq_iff_eq.mpr c14
                        have c14b1 : ((bt a0 x3_1) != 45) = false := bne_eq_false_iff_eq.mpr c14
                        clear c14
                        have H' := Aside0.mk H
                        clear H
                        have p4 : 0 ≤ (x3_1 : Int) := of_decide_eq_true (by first | (with_reducible assumption) | assumption)
                        have q4 : x3_1 < (a0.size : Int) := of_decide_eq_true (by first | (with_reducible assumption) | assumption)
                        have hx4 := bt_at a0 x3_1
                        replace p4 := eq_true p4
                        replace q4 := eq_true q4
                        go_wp2
                        go_roundg k1
                        case measure => have := HK1.out; omega
                        case rel => exact ⟨(wrap64 (x3_1 + 1)), (by first | rfl | (simp; done) | (simp [*]; done)), H', ⟨by have := HK1.out; omega⟩, by repeat (first | exact Drawn0.refl _ | apply Drawn0.step)⟩
                      · rw [if_neg c14] at H
                        have c14b0 : ((bt a0 x3_1) == 45) = false := beq_eq_false_iff_ne.mpr c14
                        have c14b1 : ((bt a0 x3_1) != 45) = true := bne_iff_ne.mpr c14
                        obtain rfl := Option.some.inj H
                        have p4 : 0 ≤ (x3_1 : Int) := of_decide_eq_true (by first | (with_reducible assumption) | assumption)
                        have q4 : x3_1 < (a0.size : Int) := of_decide_eq_true (by first | (with_reducible assumption) | assumption)
                        have hx4 := bt_at a0 x3_1
                        replace p4 := eq_true p4
                        replace q4 := eq_true q4
                        go_wp2
                        go_ret
                        exact ⟨by first | rfl | (simp; done) | (simp [*]; done), by repeat (first | exact Drawn0.refl _ | apply Drawn0.step)⟩
              · rw [if_neg c7] at H
                have c7b0 : decide (65 ≤ (bt a0 x3_1)) = false := decide_eq_false c7
                clear c7
                by_cases c15 : (bt a0 x3_1) ≥ 48
                · rw [if_pos c15] at H
                  have c15b0 : decide (48 ≤ (bt a0 x3_1)) = true := decide_eq_true c15
                  clear c15
                  by_cases c16 : (bt a0 x3_1) ≤ 57
                  · rw [if_pos c16] at H
                    have c16b0 : decide ((bt a0 x3_1) ≤ 57) = true := decide_eq_true c16
                    clear c16
                    have H' := Aside0.mk H
                    clear H
                    have p4 : 0 ≤ (x3_1 : Int) := of_decide_eq_true (by first | (with_reducible assumption) | assumption)
                    have q4 : x3_1 < (a0.size : Int) := of_decide_eq_true (by first | (with_reducible assumption) | assumption)
                    have hx4 := bt_at a0 x3_1
                    replace p4 := eq_true p4
                    replace q4 := eq_true q4
                    go_wp2
                    go_roundg k1
                    case measure => have := HK1.out; omega
                    case rel => exact ⟨(wrap64 (x3_1 + 1)), (by first | rfl | (simp; done) | (simp [*]; done)), H', ⟨by have := HK1.out; omega⟩, by repeat (first | exact Drawn0.refl _ | apply Drawn0.step)⟩
                  · rw [if_neg c16] at H
                    have c16b0 : decide ((bt a0 x3_1) ≤ 57) = false := decide_eq_false c16
                    clear c16
                    by_cases c17 : (bt a0 x3_1) = 95
                    · rw [if_pos c17] at H
                      have c17b0 : ((bt a0 x3_1) == 95) = true := beq_iff_eq.mpr c17
                      have c17b1 : ((bt a0 x3_1) != 95) = false := bne_eq_false_iff_eq.mpr c17
                      clear c17
                      have H' := Aside0.mk H
                      clear H
                      have p4 : 0 ≤ (x3_1 : Int) := of_decide_eq_true (by first | (with_reducible assumption) | assumption)
                      have q4 : x3_1 < (a0.size : Int) := of_decide_eq_true (by first | (with_reducible assumption) | assumption)
                      have hx4 := bt_at a0 x3_1
                      replace p4 := eq_true p4
                      replace q4 := eq_true q4
                      go_wp2
                      go_roundg k1
                      case measure => have := HK1.out; omega
                      case rel => exact ⟨(wrap64 (x3_1 + 1)), (by first | rfl | (simp; done) | (simp [*]; done)), H', ⟨by have := HK1.out; omega⟩, by repeat (first | exact Drawn0.refl _ | apply Drawn0.step)⟩
                    · rw [if_neg c17] at H
                      have c17b0 : ((bt a0 x3_1) == 95) = false := beq_eq_false_iff_ne.mpr c17
                      have c17b1 : ((bt a0 x3_1) != 95) = true := bne_iff_ne.mpr c17
                      by_cases c18 : ((bt a0 x3_1) = 45)
                      · rw [if_pos c18] at H
                        have c18b0 : ((bt a0 x3_1) == 45) = true := beq_iff_eq.mpr c18
                        have c18b1 : ((bt a0 x3_1) != 45) = false := bne_eq_false_iff_eq.mpr c18
                        clear c18
                        have H' := Aside0.mk H
                        clear H
                        have p4 : 0 ≤ (x3_1 : Int) := of_decide_eq_true (by first | (with_reducible assumption) | assumption)
                        have q4 : x3_1 < (a0.size : Int) := of_decide_eq_true (by first | (with_reducible assumption) | assumption)
                        have hx4 := bt_at a0 x3_1
                        replace p4 := eq_true p4
                        replace q4 := eq_true q4
                        go_wp2
                        go_roundg k1
                        case measure => have := HK1.out; omega
                        case rel => exact ⟨(wrap64 (x3_1 + 1)), (by first | rfl | (simp; done) | (simp [*]; done)), H', ⟨by have := HK1.out; omega⟩, by repeat (first | exact Drawn0.refl _ | apply Drawn0.step)⟩
                      · rw [if_neg c18] at H
                        have c18b0 : ((bt a0 x3_1) == 45) = false := beq_eq_false_iff_ne.mpr c18
                        have c18b1 : ((bt a0 x3_1) != 45) = true := bne_iff_ne.mpr c18
                        obtain rfl := Option.some.inj H
                        have p4 : 0 ≤ (x3_1 : Int) := of_decide_eq_true (by first | (with_reducible assumption) | assumption)
                        have q4 : x3_1 < (a0.size : Int) := of_decide_eq_true (by first | (with_reducible assumption) | assumption)
                        have hx4 := bt_at a0 x3_1
                        replace p4 := eq_true p4
                        replace q4 := eq_true q4
                        go_wp2
                        go_ret
                        exact ⟨by first | rfl | (simp; done) | (simp [*]; done), by repeat (first | exact Drawn0.refl _ | apply Drawn0.step)⟩
                · rw [if_neg c15] at H
                  have c15b0 : decide (48 ≤ (bt a0 x3_1)) = false := decide_eq_false c15
                  clear c15
                  by_cases c19 : (bt a0 x3_1) = 95
                  · rw [if_pos c19] at H
                    have c19b0 : ((bt a0 x3_1) == 95) = true := beq_iff_eq.mpr c19
                    have c19b1 : ((bt a0 x3_1) != 95) = false := bne_eq_false_iff_eq.mpr c19
                    clear c19
                    have H' := Aside0.mk H
                    clear H
                    have p4 : 0 ≤ (x3_1 : Int) := of_decide_eq_true (by first | (with_reducible assumption) | assumption)
                    have q4 : x3_1 < (a0.size : Int) := of_decide_eq_true (by first | (with_reducible assumption) | assumption)
                    have hx4 := bt_at a0 x3_1
                    replace p4 := eq_true p4
                    replace q4 := eq_true q4
                    go_wp2
                    go_roundg k1
                    case measure => have := HK1.out; omega
                    case rel => exact ⟨(wrap64 (x3_1 + 1)), (by first | rfl | (simp; done) | (simp [*]; done)), H', ⟨by have := HK1.out; omega⟩, by repeat (first | exact Drawn0.refl _ | apply Drawn0.step)⟩
                  · rw [if_neg c19] at H
                    have c19b0 : ((bt a0 x3_1) == 95) = false := beq_eq_false_iff_ne.mpr c19
                    have c19b1 : ((bt a0 x3_1) != 95) = true := bne_iff_ne.mpr c19
                    by_cases c20 : ((bt a0 x3_1) = 45)
                    · rw [if_pos c20] at H
                      have c20b0 : ((bt a0 x3_1) == 45) = true := beq_iff_eq.mpr c20
                      have c20b1 : ((bt a0 x3_1) != 45) = false := bne_eq_false_iff_eq.mpr c20
                      clear c20
                      have H' := Aside0.mk H
                      clear H
                      have p4 : 0 ≤ (x3_1 : Int) := of_decide_eq_true (by first | (with_reducible assumption) | assumption)
                      have q4 : x3_1 < (a0.size : Int) := of_decide_eq_true (by first | (with_reducible assumption) | assumption)
                      have hx4 := bt_at a0 x3_1
                      replace p4 := eq_true p4
                      replace q4 := eq_true q4
                      go_wp2
                      go_roundg k1
                      case measure => have := HK1.out; omega
                      case rel => exact ⟨(wrap64 (x3_1 + 1)), (by first | rfl | (simp; done) | (simp [*]; done)), H', ⟨by have := HK1.out; omega⟩, by repeat (first | exact Drawn0.refl _ | apply Drawn0.step)⟩
                    · rw [if_neg c20] at H
                      have c20b0 : ((bt a0 x3_1) == 45) = false := beq_eq_false_iff_ne.mpr c20
                      have c20b1 : ((bt a0 x3_1) != 45) = true := bne_iff_ne.mpr c20
                      obtain rfl := Option.some.inj H
                      have p4 : 0 ≤ (x3_1 : Int) := of_decide_eq_true (by first | (with_reducible assumption) | assumption)
                      have q4 : x3_1 < (a0.size : Int) := of_decide_eq_true (by first | (with_reducible assumption) | assumption)
                      have hx4 := bt_at a0 x3_1
                      replace p4 := eq_true p4
                      replace q4 := eq_true q4
                      go_wp2
                      go_ret
                      exact ⟨by first | rfl | (simp; done) | (simp [*]; done), by repeat (first | exact Drawn0.refl _ | apply Drawn0.step)⟩
          · rw [if_neg c5] at H
            have c5b0 : decide (97 ≤ (bt a0 x3_1)) = false := decide_eq_false c5
            clear c5
            by_cases c21 : (bt a0 x3_1) ≥ 65
            · rw [if_pos c21] at H
              have c21b0 : decide (65 ≤ (bt a0 x3_1)) = true := decide_eq_true c21
              clear c21
              by_cases c22 : (bt a0 x3_1) ≤ 90
              · rw [if_pos c22] at H
                have c22b0 : decide ((bt a0 x3_1) ≤ 90) = true := decide_eq_true c22
                clear c22
                have H' := Aside0.mk H
                clear H
                have p4 : 0 ≤ (x3_1 : Int) := of_decide_eq_true (by first | (with_reducible assumption) | assumption)
                have q4 : x3_1 < (a0.size : Int) := of_decide_eq_true (by first | (with_reducible assumption) | assumption)
                have hx4 := bt_at a0 x3_1
                replace p4 := eq_true p4
                replace q4 := eq_true q4
                go_wp2
                go_roundg k1
                case measure => have := HK1.out; omega
                case rel => exact ⟨(wrap64 (x3_1 + 1)), (by first | rfl | (simp; done) | (simp [*]; done)), H', ⟨by have := HK1.out; omega⟩, by repeat (first | exact Drawn0.refl _ | apply Drawn0.step)⟩
              · rw [if_neg c22] at H
                have c22b0 : decide ((bt a0 x3_1) ≤ 90) = false := decide_eq_false c22
                clear c22
                by_cases c23 : (bt a0 x3_1) ≥ 48
                · rw [if_pos c23] at H
                  have c23b0 : decide (48 ≤ (bt a0 x3_1)) = true := decide_eq_true c23
                  clear c23
                  by_cases c24 : (bt a0 x3_1) ≤ 57
                  · rw [if_pos c24] at H
                    have c24b0 : decide ((bt a0 x3_1) ≤ 57) = true := decide_eq_true c24
                    clear c24
                    have H' := Aside0.mk H
                    clear H
                    have p4 : 0 ≤ (x3_1 : Int) := of_decide_eq_true (by first | (with_reducible assumption) | assumption)
                    have q4 : x3_1 < (a0.size : Int) := of_decide_eq_true (by first | (with_reducible assumption) | assumption)
                    have hx4 := bt_at a0 x3_1
                    replace p4 := eq_true p4
                    replace q4 := eq_true q4
                    go_wp2
                    go_roundg k1
                    case measure => have := HK1.out; omega
                    case rel => exact ⟨(wrap64 (x3_1 + 1)), (by first | rfl | (simp; done) | (simp [*]; done)), H', ⟨by have := HK1.out; omega⟩, by repeat (first | exact Drawn0.refl _ | apply Drawn0.step)⟩
                  · rw [if_neg c24] at H
                    have c24b0 : decide ((bt a0 x3_1) ≤ 57) = false := decide_eq_false c24
                    clear c24
                    by_cases c25 : (bt a0 x3_1) = 95
                    · rw [if_pos c25] at H
                      have c25b0 : ((bt a0 x3_1) == 95) = true := beq_iff_eq.mpr c25
                      have c25b1 : ((bt a0 x3_1) != 95) = false := bne_eq_false_iff_eq.mpr c25
                      clear c25
                      have H' := Aside0.mk H
                      clear H
                      have p4 : 0 ≤ (x3_1 : Int) := of_decide_eq_true (by first | (with_reducible assumption) | assumption)
                      have q4 : x3_1 < (a0.size : Int) := of_decide_eq_true (by first | (with_reducible assumption) | assumption)
                      have hx4 := bt_at a0 x3_1
                      replace p4 := eq_true p4
                      replace q4 := eq_true q4
                      go_wp2
                      go_roundg k1
                      case measure => have := HK1.out; omega
                      case rel => exact ⟨(wrap64 (x3_1 + 1)), (by first | rfl | (simp; done) | (simp [*]; done)), H', ⟨by have := HK1.out; omega⟩, by repeat (first | exact Drawn0.refl _ | apply Drawn0.step)⟩
                    · rw [if_neg c25] at H
                      have c25b0 : ((bt a0 x3_1) == 95) = false := beq_eq_false_iff_ne.mpr c25
                      have c25b1 : ((bt a0 x3_1) != 95) = true := bne_iff_ne.mpr c25
                      by_cases c26 : ((bt a0 x3_1) = 45)
                      · rw [if_pos c26] at H
                        have c26b0 : ((bt a0 x3_1) == 45) = true := beq_iff_eq.mpr c26
                        have c26b1 : ((bt a0 x3_1) != 45) = false := bne_eq_false_iff_eq.mpr c26
                        clear c26
                        have H' := Aside0.mk H
                        clear H
                        have p4 : 0 ≤ (x3_1 : Int) := of_decide_eq_true (by first | (with_reducible assumption) | assumption)
                        have q4 : x3_1 < (a0.size : Int) := of_decide_eq_true (by first | (with_reducible assumption) | assumption)
                        have hx4 := bt_at a0 x3_1
                        replace p4 := eq_true p4
                        replace q4 := eq_true q4
                        go_wp2
                        go_roundg k1
                        case measure => have := HK1.out; omega
                        case rel => exact ⟨(wrap64 (x3_1 + 1)), (by first | rfl | (simp; done) | (simp [*]; done)), H', ⟨by have := HK1.out; omega⟩, by repeat (first | exact Drawn0.refl _ | apply Drawn0.step)⟩
                      · rw [if_neg c26] at H
                        have c26b0 : ((bt a0 x3_1) == 45) = false := beq_eq_false_iff_ne.mpr c26
                        have c26b1 : ((bt a0 x3_1) != 45) = true := bne_iff_ne.mpr c26
                        obtain rfl := Option.some.inj H
                        have p4 : 0 ≤ (x3_1 : Int) := of_decide_eq_true (by first | (with_reducible assumption) | assumption)
                        have q4 : x3_1 < (a0.size : Int) := of_decide_eq_true (by first | (with_reducible assumption) | assumption)
                        have hx4 := bt_at a0 x3_1
                        replace p4 := eq_true p4
                        replace q4 := eq_true q4
                        go_wp2
                        go_ret
                        exact ⟨by first | rfl | (simp; done) | (simp [*]; done), by repeat (first | exact Drawn0.refl _ | apply Drawn0.step)⟩
                · rw [if_neg c23] at H
                  have c23b0 : decide (48 ≤ (bt a0 x3_1)) = false := decide_eq_false c23
                  clear c23
                  by_cases c27 : (bt a0 x3_1) = 95
                  · rw [if_pos c27] at H
                    have c27b0 : ((bt a0 x3_1) == 95) = true := beq_iff_eq.mpr c27
                    have c27b1 : ((bt a0 x3_1) != 95) = false := bne_eq_false_iff_eq.mpr c27
                    clear c27
                    have H' := Aside0.mk H
                    clear H
                    have p4 : 0 ≤ (x3_1 : Int) := of_decide_eq_true (by first | (with_reducible assumption) | assumption)
                    have q4 : x3_1 < (a0.size : Int) := of_decide_eq_true (by first | (with_reducible assumption) | assumption)
                    have hx4 := bt_at a0 x3_1
                    replace p4 := eq_true p4
                    replace q4 := eq_true q4
                    go_wp2
                    go_roundg k1
                    case measure => have := HK1.out; omega
                    case rel => exact ⟨(wrap64 (x3_1 + 1)), (by first | rfl | (simp; done) | (simp [*]; done)), H', ⟨by have := HK1.out; omega⟩, by repeat (first | exact Drawn0.refl _ | apply Drawn0.step)⟩
                  · rw [if_neg c27] at H
                    have c27b0 : ((bt a0 x3_1) == 95) = false := beq_eq_false_iff_ne.mpr c27
                    have c27b1 : ((bt a0 x3_1) != 95) = true := bne_iff_ne.mpr c27
                    by_cases c28 : ((bt a0 x3_1) = 45)
                    · rw [if_pos c28] at H
                      have c28b0 : ((bt a0 x3_1) == 45) = true := beq_iff_eq.mpr c28
                      have c28b1 : ((bt a0 x3_1) != 45) = false := bne_eq_false_iff_eq.mpr c28
                      clear c28
                      have H' := Aside0.mk H
                      clear H
                      have p4 : 0 ≤ (x3_1 : Int) := of_decide_eq_true (by first | (with_reducible assumption) | assumption)
                      have q4 : x3_1 < (a0.size : Int) := of_decide_eq_true (by first | (with_reducible assumption) | assumption)
                      have hx4 := bt_at a0 x3_1
                      replace p4 := eq_true p4
                      replace q4 := eq_true q4
                      go_wp2
                      go_roundg k1
                      case measure => have := HK1.out; omega
                      case rel => exact ⟨(wrap64 (x3_1 + 1)), (by first | rfl | (simp; done) | (simp [*]; done)), H', ⟨by have := HK1.out; omega⟩, by repeat (first | exact Drawn0.refl _ | apply Drawn0.step)⟩
                    · rw [if_neg c28] at H
                      have c28b0 : ((bt a0 x3_1) == 45) = false := beq_eq_false_iff_ne.mpr c28
                      have c28b1 : ((bt a0 x3_1) != 45) = true := bne_iff_ne.mpr c28
                      obtain rfl := Option.some.inj H
                      have p4 : 0 ≤ (x3_1 : Int) := of_decide_eq_true (by first | (with_reducible assumption) | assumption)
                      have q4 : x3_1 < (a0.size : Int) := of_decide_eq_true (by first | (with_reducible assumption) | assumption)
                      have hx4 := bt_at a0 x3_1
                      replace p4 := eq_true p4
                      replace q4 := eq_true q4
                      go_wp2
                      go_ret
                      exact ⟨by first | rfl | (simp; done) | (simp [*]; done), by repeat (first | exact Drawn0.refl _ | apply Drawn0.step)⟩
            · rw [if_neg c21] at H
              have c21b0 : decide (65 ≤ (bt a0 x3_1)) = false := decide_eq_false c21
              clear c21
              by_cases c29 : (bt a0 x3_1) ≥ 48
              · rw [if_pos c29] at H
                have c29b0 : decide (48 ≤ (bt a0 x3_1)) = true := decide_eq_true c29
                clear c29
                by_cases c30 : (bt a0 x3_1) ≤ 57
                · rw [if_pos c30] at H
                  have c30b0 : decide ((bt a0 x3_1) ≤ 57) = true := decide_eq_true c30
                  clear c30
                  have H' := Aside0.mk H
                  clear H
                  have p4 : 0 ≤ (x3_1 : Int) := of_decide_eq_true (by first | (with_reducible assumption) | assumption)
                  have q4 : x3_1 < (a0.size : Int) := of_decide_eq_true (by first | (with_reducible assumption) | assumption)
                  have hx4 := bt_at a0 x3_1
                  replace p4 := eq_true p4
                  replace q4 := eq_true q4
                  go_wp2
                  go_roundg k1
                  case measure => have := HK1.out; omega
                  case rel => exact ⟨(wrap64 (x3_1 + 1)), (by first | rfl | (simp; done) | (simp [*]; done)), H', ⟨by have := HK1.out; omega⟩, by repeat (first | exact Drawn0.refl _ | apply Drawn0.step)⟩
                · rw [if_neg c30] at H
                  have c30b0 : decide ((bt a0 x3_1) ≤ 57) = false := decide_eq_false c30
                  clear c30
                  by_cases c31 : (bt a0 x3_1) = 95
                  · rw [if_pos c31] at H
                    have c31b0 : ((bt a0 x3_1) == 95) = true := beq_iff_eq.mpr c31
                    have c31b1 : ((bt a0 x3_1) != 95) = false := bne_eq_false_iff_eq.mpr c31
                    clear c31
                    have H' := Aside0.mk H
                    clear H
                    have p4 : 0 ≤ (x3_1 : Int) := of_decide_eq_true (by first | (with_reducible assumption) | assumption)
                    have q4 : x3_1 < (a0.size : Int) := of_decide_eq_true (by first | (with_reducible assumption) | assumption)
                    have hx4 := bt_at a0 x3_1
                    replace p4 := eq_true p4
                    replace q4 := eq_true q4
                    go_wp2
                    go_roundg k1
                    case measure => have := HK1.out; omega
                    case rel => exact ⟨(wrap64 (x3_1 + 1)), (by first | rfl | (simp; done) | (simp [*]; done)), H', ⟨by have := HK1.out; omega⟩, by repeat (first | exact Drawn0.refl _ | apply Drawn0.step)⟩
                  · rw [if_neg c31] at H
                    have c31b0 : ((bt a0 x3_1) == 95) = false := beq_eq_false_iff_ne.mpr c31
                    have c31b1 : ((bt a0 x3_1) != 95) = true := bne_iff_ne.mpr c31
                    by_cases c32 : ((bt a0 x3_1) = 45)
                    · rw [if_pos c32] at H
                      have c32b0 : ((bt a0 x3_1) == 45) = true := beq_iff_eq.mpr c32
                      have c32b1 : ((bt a0 x3_1) != 45) = false := bne_eq_false_iff_eq.mpr c32
                      clear c32
                      have H' := Aside0.mk H
                      clear H
                      have p4 : 0 ≤ (x3_1 : Int) := of_decide_eq_true (by first | (with_reducible assumption) | assumption)
                      have q4 : x3_1 < (a0.size : Int) := of_decide_eq_true (by first | (with_reducible assumption) | assumption)
                      have hx4 := bt_at a0 x3_1
                      replace p4 := eq_true p4
                      replace q4 := eq_true q4
                      go_wp2
                      go_roundg k1
                      case measure => have := HK1.out; omega
                      case rel => exact ⟨(wrap64 (x3_1 + 1)), (by first | rfl | (simp; done) | (simp [*]; done)), H', ⟨by have := HK1.out; omega⟩, by repeat (first | exact Drawn0.refl _ | apply Drawn0.step)⟩
                    · rw [if_neg c32] at H
                      have c32b0 : ((bt a0 x3_1) == 45) = false := beq_eq_false_iff_ne.mpr c32
                      have c32b1 : ((bt a0 x3_1) != 45) = true := bne_iff_ne.mpr c32
                      obtain rfl := Option.some.inj H
                      have p4 : 0 ≤ (x3_1 : Int) := of_decide_eq_true (by first | (with_reducible assumption) | assumption)
                      have q4 : x3_1 < (a0.size : Int) := of_decide_eq_true (by first | (with_reducible assumption) | assumption)
                      have hx4 := bt_at a0 x3_1
                      replace p4 := eq_true p4
                      replace q4 := eq_true q4
                      go_wp2
                      go_ret
                      exact ⟨by first | rfl | (simp; done) | (simp [*]; done), by repeat (first | exact Drawn0.refl _ | apply Drawn0.step)⟩
              · rw [if_neg c29] at H
                have c29b0 : decide (48 ≤ (bt a0 x3_1)) = false := decide_eq_false c29
                clear c29
                by_cases c33 : (bt a0 x3_1) = 95
                · rw [if_pos c33] at H
                  have c33b0 : ((bt a0 x3_1) == 95) = true := beq_iff_eq.mpr c33
                  have c33b1 : ((bt a0 x3_1) != 95) = false := bne_eq_false_iff_eq.mpr c33
                  clear c33
                  have H' := Aside0.mk H
                  clear H
                  have p4 : 0 ≤ (x3_1 : Int) := of_decide_eq_true (by first | (with_reducible assumption) | assumption)
                  have q4 : x3_1 < (a0.size : Int) := of_decide_eq_true (by first | (with_reducible assumption) | assumption)
                  have hx4 := bt_at a0 x3_1
                  replace p4 := eq_true p4
                  replace q4 := eq_true q4
                  go_wp2
                  go_roundg k1
                  case measure => have := HK1.out; omega
                  case rel => exact ⟨(wrap64 (x3_1 + 1)), (by first | rfl | (simp; done) | (simp [*]; done)), H', ⟨by have := HK1.out; omega⟩, by repeat (first | exact Drawn0.refl _ | apply Drawn0.step)⟩
                · rw [if_neg c33] at H
                  have c33b0 : ((bt a0 x3_1) == 95) = false := beq_eq_false_iff_ne.mpr c33
                  have c33b1 : ((bt a0 x3_1) != 95) = true := bne_iff_ne.mpr c33
                  by_cases c34 : ((bt a0 x3_1) = 45)
                  · rw [if_pos c34] at H
                    have c34b0 : ((bt a0 x3_1) == 45) = true := beq_iff_eq.mpr c34
                    have c34b1 : ((bt a0 x3_1) != 45) = false := bne_eq_false_iff_eq.mpr c34
                    clear c34
                    have H' := Aside0.mk H
                    clear H
                    have p4 : 0 ≤ (x3_1 : Int) := of_decide_eq_true (by first | (with_reducible assumption) | assumption)
                    have q4 : x3_1 < (a0.size : Int) := of_decide_eq_true (by first | (with_reducible assumption) | assumption)
                    have hx4 := bt_at a0 x3_1
                    replace p4 := eq_true p4
                    replace q4 := eq_true q4
                    go_wp2
                    go_roundg k1
                    case measure => have := HK1.out; omega
                    case rel => exact ⟨(wrap64 (x3_1 + 1)), (by first | rfl | (simp; done) | (simp [*]; done)), H', ⟨by have := HK1.out; omega⟩, by repeat (first | exact Drawn0.refl _ | apply Drawn0.step)⟩
                  · rw [if_neg c34] at H
                    have c34b0 : ((bt a0 x3_1) == 45) = false := beq_eq_false_iff_ne.mpr c34
                    have c34b1 : ((bt a0 x3_1) != 45) = true := bne_iff_ne.mpr c34
                    obtain rfl := Option.some.inj H
                    have p4 : 0 ≤ (x3_1 : Int) := of_decide_eq_true (by first | (with_reducible assumption) | assumption)
                    have q4 : x3_1 < (a0.size : Int) := of_decide_eq_true (by first | (with_reducible assumption) | assumption)
                    have hx4 := bt_at a0 x3_1
                    replace p4 := eq_true p4
                    replace q4 := eq_true q4
                    go_wp2
                    go_ret
                    exact ⟨by first | rfl | (simp; done) | (simp [*]; done), by repeat (first | exact Drawn0.refl _ | apply Drawn0.step)⟩
        · rw [if_neg c3] at H
          exact absurd H (by simp)
      · rw [if_neg c2] at H
        have c2b0 : decide (x3_1 < (a0.size : Int)) = false := decide_eq_false c2
        clear c2
        obtain rfl := Option.some.inj H
        go_wp2
        go_ret
        exact ⟨by first | rfl | (simp; done) | (cases hh : a0.toList <;> simp [hh]), by repeat (first | exact Drawn0.refl _ | apply Drawn0.step)⟩

/-! ### spec_sayExtra: function 47 -/
def spec_sayExtra.f (a0 : ByteArray) : Option (Bool) := if (a0.size : Int) = 3 then (if 0 ≤ 2 then (if 2 ≤ (a0.size : Int) then (if (a0.extract 0 2).toList = ([120, 45] : List UInt8) then (if 2 < (a0.size : Int) then (if (bt a0 2) ≥ 97 then (some (decide ((bt a0 2) ≤ 122))) else (some false)) else (none)) else (some false)) else (none)) else (none)) else (some false)
set_option maxHeartbeats 8000000 in
set_option maxRecDepth 100000 in
theorem spec_sayExtra.calls (a0 : ByteArray) (r : Bool) (w : World) (h : spec_sayExtra.f a0 = some r) :
    Calls Tryd.prog 47 #[.string a0] w fun e w' => e = .returned (.bool r) ∧ Drawn0 w w' := by
  have H : (if (a0.size : Int) = 3 then (if 0 ≤ 2 then (if 2 ≤ (a0.size : Int) then (if (a0.extract 0 2).toList = ([120, 45] : List UInt8) then (if 2 < (a0.size : Int) then (if (bt a0 2) ≥ 97 then (some (decide ((bt a0 2) ≤ 122))) else (some false)) else (none)) else (some false)) else (none)) else (none)) else (some false)) = some r := h
  clear h
  by_cases c2 : (a0.size : Int) = 3
  · rw [if_pos c2] at H
    have c2b0 : ((a0.size : Int) == 3) = true := beq_iff_eq.mpr c2
    have c2b1 : ((a0.size : Int) != 3) = false := bne_eq_false_iff_eq.mpr c2
    clear c2
    by_cases c3 : 0 ≤ 2
    · rw [if_pos c3] at H
      have c3b0 := eq_true c3
      have c3b1 : decide (0 ≤ 2) = true := decide_eq_true c3
      clear c3
      by_cases c4 : 2 ≤ (a0.size : Int)
      · rw [if_pos c4] at H
        have c4b0 := eq_true c4
        have c4b1 : decide (2 ≤ (a0.size : Int)) = true := decide_eq_true c4
        clear c4
        by_cases c5 : (a0.extract 0 2).toList = ([120, 45] : List UInt8)
        · rw [if_pos c5] at H
          have c5b0 : ((a0.extract 0 2).toList == ([120, 45] : List UInt8)) = true := beq_iff_eq.mpr c5
          have c5b1 : ((a0.extract 0 2).toList != ([120, 45] : List UInt8)) = false := bne_eq_false_iff_eq.mpr c5
          clear c5
          by_cases c6 : 2 < (a0.size : Int)
          · rw [if_pos c6] at H
            have c6b0 : decide (2 < (a0.size : Int)) = true := decide_eq_true c6
            have c6b1 : decide (2 < a0.size) = true := decide_eq_true (by omega)
            clear c6
            by_cases c8 : (bt a0 2) ≥ 97
            · rw [if_pos c8] at H
              have c8b0 : decide (97 ≤ (bt a0 2)) = true := decide_eq_true c8
              clear c8
              obtain rfl := Option.some.inj H
              have p7 : 0 ≤ (2 : Int) := (by omega)
              have q7 : 2 < a0.size := (by have : (2 : Int) < (a0.size : Int) := of_decide_eq_true (by first | (with_reducible assumption) | assumption); omega)
              have hx7 : ∀ h : 2 < a0.size, ((a0[2]'h).toNat : Int) = bt a0 2 := bt_at a0 2
              clear p7
              have qi7 : (2 < (a0.size : Int)) = True := eq_true (of_decide_eq_true (by first | (with_reducible assumption) | assumption))
              replace q7 := eq_true q7
              have p9 : 0 ≤ (2 : Int) := (by omega)
              have q9 : 2 < a0.size := (by have : (2 : Int) < (a0.size : Int) := of_decide_eq_true (by first | (with_reducible assumption) | assumption); omega)
              have hx9 : ∀ h : 2 < a0.size, ((a0[2]'h).toNat : Int) = bt a0 2 := bt_at a0 2
              clear p9
              have qi9 : (2 < (a0.size : Int)) = True := eq_true (of_decide_eq_true (by first | (with_reducible assumption) | assumption))
              replace q9 := eq_true q9
              go_enter Tryd.func47, Tryd.ntmps47
              go_wp2
              go_ret
              exact ⟨by first | rfl | (simp; done) | (simp [*]; done), by repeat (first | exact Drawn0.refl _ | apply Drawn0.step)⟩
            · rw [if_neg c8] at H
              have c8b0 : decide (97 ≤ (bt a0 2)) = false := decide_eq_false c8
              clear c8
              obtain rfl := Option.some.inj H
              have p7 : 0 ≤ (2 : Int) := (by omega)
              have q7 : 2 < a0.size := (by have : (2 : Int) < (a0.size : Int) := of_decide_eq_true (by first | (with_reducible assumption) | assumption); omega)
              have hx7 : ∀ h : 2 < a0.size, ((a0[2]'h).toNat : Int) = bt a0 2 := bt_at a0 2
              clear p7
              have qi7 : (2 < (a0.size : Int)) = True := eq_true (of_decide_eq_true (by first | (with_reducible assumption) | assumption))
              replace q7 := eq_true q7
              go_enter Tryd.func47, Tryd.ntmps47
              go_wp2
              go_ret
              exact ⟨by first | rfl | (simp; done) | (simp [*]; done), by repeat (first | exact Drawn0.refl _ | apply Drawn0.step)⟩
          · rw [if_neg c6] at H
            exact absurd H (by simp)
        · rw [if_neg c5] at H
          have c5b0 : ((a0.extract 0 2).toList == ([120, 45] : List UInt8)) = false := beq_eq_false_iff_ne.mpr c5
          have c5b1 : ((a0.extract 0 2).toList != ([120, 45] : List UInt8)) = true := bne_iff_ne.mpr c5
          obtain rfl := Option.some.inj H
          go_enter Tryd.func47, Tryd.ntmps47
          go_wp2
          go_ret
          exact ⟨by first | rfl | (simp; done) | (simp [*]; done), by repeat (first | exact Drawn0.refl _ | apply Drawn0.step)⟩
      · rw [if_neg c4] at H
        exact absurd H (by simp)
    · rw [if_neg c3] at H
      exact absurd H (by simp)
  · rw [if_neg c2] at H
    have c2b0 : ((a0.size : Int) == 3) = false := beq_eq_false_iff_ne.mpr c2
    have c2b1 : ((a0.size : Int) != 3) = true := bne_iff_ne.mpr c2
    obtain rfl := Option.some.inj H
    go_enter Tryd.func47, Tryd.ntmps47
    go_wp2
    go_ret
    exact ⟨by first | rfl | (simp; done) | (simp [*]; done), by repeat (first | exact Drawn0.refl _ | apply Drawn0.step)⟩

/-! ### spec_sayIn: function 46 -/
def spec_sayIn.l0 : Nat → ByteArray → List ByteArray → Int → Option (Bool)
  | 0, _, _, _ => none
  | k + 1, x0, x1, x5 => if x5 < (x1.length : Int) then (if 0 ≤ x5 then (if (rdOf ByteArray.empty x1 x5).toList = x0.toList then (some true) else (spec_sayIn.l0 k x0 x1 (wrap64 (x5 + 1)))) else (none)) else (some false)
def spec_sayIn.f (k : Nat) (a0 : ByteArray) (l1 : List ByteArray) : Option (Bool) := spec_sayIn.l0 k a0 l1 0
set_option maxHeartbeats 8000000 in
set_option maxRecDepth 100000 in
theorem spec_sayIn.calls (k : Nat) (a0 : ByteArray) (A1 : Option Addr) (c1 : Nat) (l1 : List ByteArray) (r : Bool) (w : World) (hr1 : Kd.C Kd.string w A1 l1.length l1) (hc1 : l1.length ≤ c1) (h : spec_sayIn.f k a0 l1 = some r) :
    Calls Tryd.prog 46 #[.string a0, .slice A1 l1.length c1] w fun e w' => e = .returned (.bool r) ∧ Drawn0 w w' := by
  have HR1 := Aside0.mk hr1
  have HC1 := Aside0.mk hc1
  clear hr1 hc1
  have H : (spec_sayIn.l0 k a0 l1 0) = some r := h
  clear h
  have H' := Aside0.mk H
  clear H
  go_enter Tryd.func46, Tryd.ntmps46
  go_wp2
  go_loopg [5] k (fun kq v5 w' => ∃ (x5_1 : Int), v5 = .int .i64 x5_1 ∧ Aside0 (spec_sayIn.l0 kq a0 l1 x5_1 = some r) ∧ Aside0 (kq ≤ k) ∧ Drawn0 w w')
  case atStart => exact ⟨(0), (by first | rfl | (simp; done) | (simp [*]; done)), H', ⟨Nat.le_refl _⟩, by repeat (first | exact Drawn0.refl _ | apply Drawn0.step)⟩
  case round =>
    clear H'
    try clear c1
    try clear p2
    obtain ⟨x5_1, rfl, HA, HK1, ⟨m1, rfl⟩⟩ := hrel
    cases gk with
    | zero => exact absurd HA.out (by simp [spec_sayIn.l0])
    | succ k1 =>
      have H := HA.out
      clear HA
      simp only [spec_sayIn.l0] at H
      by_cases c3 : x5_1 < (l1.length : Int)
      · rw [if_pos c3] at H
        have c3b0 : decide (x5_1 < (l1.length : Int)) = true := decide_eq_true c3
        clear c3
        by_cases c4 : 0 ≤ x5_1
        · rw [if_pos c4] at H
          have c4b0 : decide (0 ≤ x5_1) = true := decide_eq_true c4
          clear c4
          by_cases c5 : (rdOf ByteArray.empty l1 x5_1).toList = a0.toList
          · rw [if_pos c5] at H
            have c5b0 : ((rdOf ByteArray.empty l1 x5_1).toList == a0.toList) = true := beq_iff_eq.mpr c5
            have c5b1 : ((rdOf ByteArray.empty l1 x5_1).toList != a0.toList) = false := bne_eq_false_iff_eq.mpr c5
            clear c5
            obtain rfl := Option.some.inj H
            have p171 : 0 ≤ (x5_1 : Int) := of_decide_eq_true (by first | (with_reducible assumption) | assumption)
            have q171 : x5_1 < (l1.length : Int) := of_decide_eq_true (by first | (with_reducible assumption) | assumption)
            obtain ⟨ad171, e171, hx171_0⟩ := Kd.at_string HR1.out x5_1 p171 q171
            cases e171
            replace p171 := eq_true p171
            replace q171 := eq_true q171
            go_wp2
            go_ret
            exact ⟨by first | rfl | (simp; done) | (simp [*]; done), by repeat (first | exact Drawn0.refl _ | apply Drawn0.step)⟩
          · rw [if_neg c5] at H
            have c5b0 : ((rdOf ByteArray.empty l1 x5_1).toList == a0.toList) = false := beq_eq_false_iff_ne.mpr c5
            have c5b1 : ((rdOf ByteArray.empty l1 x5_1).toList != a0.toList) = true := bne_iff_ne.mpr c5
            have H' := Aside0.mk H
            clear H
            have p171 : 0 ≤ (x5_1 : Int) := of_decide_eq_true (by first | (with_reducible assumption) | assumption)
            have q171 : x5_1 < (l1.length : Int) := of_decide_eq_true (by first | (with_reducible assumption) | assumption)
            obtain ⟨ad171, e171, hx171_0⟩ := Kd.at_string HR1.out x5_1 p171 q171
            cases e171
            replace p171 := eq_true p171
            replace q171 := eq_true q171
            go_wp2
            go_roundg k1
            case measure => have := HK1.out; omega
            case rel => exact ⟨(wrap64 (x5_1 + 1)), (by first | rfl | (simp; done) | (simp [*]; done)), H', ⟨by have := HK1.out; omega⟩, by repeat (first | exact Drawn0.refl _ | apply Drawn0.step)⟩
        · rw [if_neg c4] at H
          exact absurd H (by simp)
      · rw [if_neg c3] at H
        have c3b0 : decide (x5_1 < (l1.length : Int)) = false := decide_eq_false c3
        clear c3
        obtain rfl := Option.some.inj H
        go_wp2
        go_ret
        exact ⟨by first | rfl | (simp; done) | (simp [*]; done), by repeat (first | exact Drawn0.refl _ | apply Drawn0.step)⟩

end Go.Proofs.YtgeamhmenmomhaaDoor.PT
-- Written by a program over the translation (xprint.py). Lean checks it.
namespace Go.Proofs.YtgeamhmenmomhaaDoor.PT
open Go.RowKit Go.Proofs.YtgeamhmenmomhaaDoorW.PrintWords Go.Proofs.YtgeamhmenmomhaaDoorW.PrintLast Go.Proofs.YtgeamhmenmomhaaDoorW.PrintMore
attribute [local go_sem] max2_int min2_int max_two min_two max_three min_three max_four min_four   -- for this text's walks alone
set_option linter.unusedVariables false
set_option linter.unusedSimpArgs false

/-! ### spec_normPlain: function 36 -/
def spec_normPlain.l0 : Nat → Int → Int → Int → ByteArray → List ByteArray → List (S25) → Option (Bool)
  | 0, _, _, _, _, _, _ => none
  | k + 1, x3, x173000, x173001, x173002, x173003, x173004 => if x3 < (x173003.length : Int) then (if 0 ≤ x3 then ((spec_sayIn.f k (rdOf ByteArray.empty x173003 x3) (([(⟨#[105, 109, 97, 103, 101]⟩ : ByteArray), (⟨#[117, 115, 101, 114]⟩ : ByteArray), (⟨#[104, 111, 115, 116, 110, 97, 109, 101]⟩ : ByteArray), (⟨#[99, 111, 109, 109, 97, 110, 100]⟩ : ByteArray), (⟨#[108, 97, 98, 101, 108, 115]⟩ : ByteArray), (⟨#[101, 110, 118, 105, 114, 111, 110, 109, 101, 110, 116]⟩ : ByteArray), (⟨#[110, 101, 116, 119, 111, 114, 107, 115]⟩ : ByteArray), (⟨#[110, 101, 116, 119, 111, 114, 107, 95, 109, 111, 100, 101]⟩ : ByteArray), (⟨#[100, 101, 112, 101, 110, 100, 115, 95, 111, 110]⟩ : ByteArray), (⟨#[112, 111, 114, 116, 115]⟩ : ByteArray), (⟨#[118, 111, 108, 117, 109, 101, 115]⟩ : ByteArray), (⟨#[108, 105, 110, 107, 115]⟩ : ByteArray), (⟨#[118, 111, 108, 117, 109, 101, 115, 95, 102, 114, 111, 109]⟩ : ByteArray)] : List ByteArray))).bind fun t177 => (if t177 = true then (spec_normPlain.l0 k (wrap64 (x3 + 1)) x173000 x173001 x173002 x173003 x173004) else ((spec_sayExtra.f (rdOf ByteArray.empty x173003 x3)).bind fun t179 => (if t179 = true then (spec_normPlain.l0 k (wrap64 (x3 + 1)) x173000 x173001 x173002 x173003 x173004) else (some false))))) else (none)) else (some (x173000 == 5))
def spec_normPlain.f (k : Nat) (a0_0 : Int) (a0_1 : Int) (a0_2 : ByteArray) (l0_3 : List ByteArray) (l0_4 : List (S25)) : Option (Bool) := spec_normPlain.l0 k 0 a0_0 a0_1 a0_2 l0_3 l0_4
set_option maxHeartbeats 8000000 in
set_option maxRecDepth 100000 in
theorem spec_normPlain.calls (k : Nat) (a0_0 : Int) (a0_1 : Int) (a0_2 : ByteArray) (A0_3 : Option Addr) (c0_3 : Nat) (l0_3 : List ByteArray) (A0_4 : Option Addr) (c0_4 : Nat) (l0_4 : List (S25)) (r : Bool) (w : World) (hr0_3 : Kd.C Kd.string w A0_3 l0_3.length l0_3) (hc0_3 : l0_3.length ≤ c0_3) (hr0_4 : Kd.C k25 w A0_4 l0_4.length l0_4) (hc0_4 : l0_4.length ≤ c0_4) (h : spec_normPlain.f k a0_0 a0_1 a0_2 l0_3 l0_4 = some r) :
    Calls Tryd.prog 36 #[.agg #[.int .i64 a0_0, .int .i64 a0_1, .string a0_2, .slice A0_3 l0_3.length c0_3, .slice A0_4 l0_4.length c0_4]] w fun e w' => e = .returned (.bool r) ∧ Below w.heap.size w w' := by
  have hu25 := Tryd.underlying25
  have HR0_3 := Aside0.mk hr0_3
  have HC0_3 := Aside0.mk hc0_3
  clear hr0_3 hc0_3
  have HR0_4 := Aside0.mk hr0_4
  have HC0_4 := Aside0.mk hc0_4
  clear hr0_4 hc0_4
  have HB := Aside0.mk (Below.refl w.heap.size w)
  have H : (spec_normPlain.l0 k 0 a0_0 a0_1 a0_2 l0_3 l0_4) = some r := h
  clear h
  have H' := Aside0.mk H
  clear H
  go_enter Tryd.func36, Tryd.ntmps36
  go_wp2_with (first | ((with_reducible refine gate_dst (N := 1) rfl ?_); refine box_event ?hg (N := 1) ?hd (cs := #[.int .i64 a0_0, .int .i64 a0_1, .string a0_2, .slice A0_3 l0_3.length c0_3, .slice A0_4 l0_4.length c0_4]) (t := 25) ?hr ?_; (case hd => rfl); (case hg => rfl); (case hr => first | (go_simp; done) | (go_simp; rfl)); intro gb172 hg w2 hbox hb; have n0_ := Aside0.mk (below_step (by repeat (first | (with_reducible first | exact HB.out | apply below_alloc | apply pw_below_drewN | apply below_drew1) | exact HB.out)) hb); have n1_ := Aside0.mk (hbox); have n2_ := Aside0.mk ((by rw [hg]; exact (below_size (by repeat (first | (with_reducible first | exact HB.out | apply below_alloc | apply pw_below_drewN | apply below_drew1) | exact HB.out))) : w.heap.size ≤ gb172)); have n3_ := Aside0.mk ((by rw [hg]; exact (below_size (by repeat (first | (with_reducible first | exact HB.out | apply below_alloc | apply pw_below_drewN | apply below_drew1) | exact HB.out))) : w.heap.size ≤ gb172)); clear HB; have HB := n0_; have BK172 := n1_; have GW172 := n2_; have GE172 := n3_; clear n0_ n1_ n2_ n3_; clear hb hbox hg))
  go_loopg [3] k (fun kq v3 w' => ∃ (x3_1 : Int), v3 = .int .i64 x3_1 ∧ Aside0 (spec_normPlain.l0 kq x3_1 a0_0 a0_1 a0_2 l0_3 l0_4 = some r) ∧ Aside0 (kq ≤ k) ∧ Aside0 (w'.heap[gb172]? = some (.cells #[.int .i64 a0_0, .int .i64 a0_1, .string a0_2, (.slice A0_3 l0_3.length c0_3), (.slice A0_4 l0_4.length c0_4)] 25 (0, 0))) ∧ Aside0 (Below w.heap.size w w'))
  case atStart => exact ⟨(0), (by first | rfl | (simp; done) | (simp [*]; done)), H', ⟨Nat.le_refl _⟩, ⟨by (with_reducible repeat (first | refine blk_drewN ?_ _ | refine blk_drew ?_ | refine blk_alloc ?_ _)); exact BK172.out⟩, ⟨by repeat (first | (with_reducible first | exact HB.out | apply below_alloc | apply pw_below_drewN | apply below_drew1 | refine below_set ?_ GE172.out) | exact HB.out)⟩⟩
  case round =>
    clear H'
    try clear p2
    obtain ⟨x3_1, rfl, HA, HK1, BK172, HB⟩ := hrel
    cases gk with
    | zero => exact absurd HA.out (by simp [spec_normPlain.l0])
    | succ k1 =>
      have H := HA.out
      clear HA
      simp only [spec_normPlain.l0] at H
      by_cases c3 : x3_1 < (l0_3.length : Int)
      · rw [if_pos c3] at H
        have c3b0 : decide (x3_1 < (l0_3.length : Int)) = true := decide_eq_true c3
        clear c3
        by_cases c4 : 0 ≤ x3_1
        · rw [if_pos c4] at H
          have c4b0 : decide (0 ≤ x3_1) = true := decide_eq_true c4
          clear c4
          obtain ⟨y174, hy174⟩ : ∃ y_ : List ByteArray, y_ = (([(⟨#[105, 109, 97, 103, 101]⟩ : ByteArray), (⟨#[117, 115, 101, 114]⟩ : ByteArray), (⟨#[104, 111, 115, 116, 110, 97, 109, 101]⟩ : ByteArray), (⟨#[99, 111, 109, 109, 97, 110, 100]⟩ : ByteArray), (⟨#[108, 97, 98, 101, 108, 115]⟩ : ByteArray), (⟨#[101, 110, 118, 105, 114, 111, 110, 109, 101, 110, 116]⟩ : ByteArray), (⟨#[110, 101, 116, 119, 111, 114, 107, 115]⟩ : ByteArray), (⟨#[110, 101, 116, 119, 111, 114, 107, 95, 109, 111, 100, 101]⟩ : ByteArray), (⟨#[100, 101, 112, 101, 110, 100, 115, 95, 111, 110]⟩ : ByteArray), (⟨#[112, 111, 114, 116, 115]⟩ : ByteArray), (⟨#[118, 111, 108, 117, 109, 101, 115]⟩ : ByteArray), (⟨#[108, 105, 110, 107, 115]⟩ : ByteArray), (⟨#[118, 111, 108, 117, 109, 101, 115, 95, 102, 114, 111, 109]⟩ : ByteArray)] : List ByteArray)) := ⟨_, rfl⟩
          replace H : ((spec_sayIn.f k1 (rdOf ByteArray.empty l0_3 x3_1) y174).bind fun t177 => (if t177 = true then (spec_normPlain.l0 k1 (wrap64 (x3_1 + 1)) a0_0 a0_1 a0_2 l0_3 l0_4) else ((spec_sayExtra.f (rdOf ByteArray.empty l0_3 x3_1)).bind fun t179 => (if t179 = true then (spec_normPlain.l0 k1 (wrap64 (x3_1 + 1)) a0_0 a0_1 a0_2 l0_3 l0_4) else (some false))))) = some r := by first | (rw [hy174]; with_reducible exact H) | (have H2_ := (Option.bind_some _ _).symm.trans H; rw [hy174]; with_reducible exact H2_) | (have H2_ := (Option.bind_some _ _).symm.trans H; with_reducible exact H2_) | with_reducible exact H | (rw [hy174]; exact H) | exact H
          have Ny174 := Aside0.mk hy174
          clear hy174
          replace H := Option.bind_eq_some_iff.mp H
          obtain ⟨t177, A50, H⟩ := H
          replace H : (if t177 = true then (spec_normPlain.l0 k1 (wrap64 (x3_1 + 1)) a0_0 a0_1 a0_2 l0_3 l0_4) else ((spec_sayExtra.f (rdOf ByteArray.empty l0_3 x3_1)).bind fun t179 => (if t179 = true then (spec_normPlain.l0 k1 (wrap64 (x3_1 + 1)) a0_0 a0_1 a0_2 l0_3 l0_4) else (some false)))) = some r := H
          have A5 := Aside0.mk A50
          clear A50
          by_cases c6 : t177 = true
          · subst c6
            have H1 : (spec_normPlain.l0 k1 (wrap64 (x3_1 + 1)) a0_0 a0_1 a0_2 l0_3 l0_4) = some r := by rw [if_pos rfl] at H; exact H
            clear H
            have H := H1
            clear H1
            have H' := Aside0.mk H
            clear H
            have hcz7_0 : wr.cell? ⟨gb172, 0, none⟩ = some (.int .i64 a0_0) := (blk_cell BK172.out 0).trans rfl
            have hcz7_1 : wr.cell? ⟨gb172, 1, none⟩ = some (.int .i64 a0_1) := (blk_cell BK172.out 1).trans rfl
            have hcz7_2 : wr.cell? ⟨gb172, 2, none⟩ = some (.string a0_2) := (blk_cell BK172.out 2).trans rfl
            have hcz7_3 : wr.cell? ⟨gb172, 3, none⟩ = some (.slice A0_3 l0_3.length c0_3) := (blk_cell BK172.out 3).trans rfl
            have hcz7_4 : wr.cell? ⟨gb172, 4, none⟩ = some (.slice A0_4 l0_4.length c0_4) := (blk_cell BK172.out 4).trans rfl
            have hfz7_0 := blk_frozen BK172.out 0
            have hfz7_1 := blk_frozen BK172.out 1
            have hfz7_2 := blk_frozen BK172.out 2
            have hfz7_3 := blk_frozen BK172.out 3
            have hfz7_4 := blk_frozen BK172.out 4
            have p173 : 0 ≤ (x3_1 : Int) := of_decide_eq_true (by first | (with_reducible assumption) | assumption)
            have q173 : x3_1 < (l0_3.length : Int) := of_decide_eq_true (by first | (with_reducible assumption) | assumption)
            obtain ⟨ad173, e173, hx173_0⟩ := Kd.at_string HR0_3.out x3_1 p173 q173
            cases e173
            replace hx173_0 := (HB.out.cell (World.block_lt_of_cell? w _ hx173_0)).trans hx173_0
            replace p173 := eq_true p173
            replace q173 := eq_true q173
            go_wp2_with (first | ((with_reducible refine gate_dst (N := 16) rfl ?_); refine Kd.R_lit Kd.string _ 9 ?hg (N := 16) ?hd (xs := ([(⟨#[105, 109, 97, 103, 101]⟩ : ByteArray), (⟨#[117, 115, 101, 114]⟩ : ByteArray), (⟨#[104, 111, 115, 116, 110, 97, 109, 101]⟩ : ByteArray), (⟨#[99, 111, 109, 109, 97, 110, 100]⟩ : ByteArray), (⟨#[108, 97, 98, 101, 108, 115]⟩ : ByteArray), (⟨#[101, 110, 118, 105, 114, 111, 110, 109, 101, 110, 116]⟩ : ByteArray), (⟨#[110, 101, 116, 119, 111, 114, 107, 115]⟩ : ByteArray), (⟨#[110, 101, 116, 119, 111, 114, 107, 95, 109, 111, 100, 101]⟩ : ByteArray), (⟨#[100, 101, 112, 101, 110, 100, 115, 95, 111, 110]⟩ : ByteArray), (⟨#[112, 111, 114, 116, 115]⟩ : ByteArray), (⟨#[118, 111, 108, 117, 109, 101, 115]⟩ : ByteArray), (⟨#[108, 105, 110, 107, 115]⟩ : ByteArray), (⟨#[118, 111, 108, 117, 109, 101, 115, 95, 102, 114, 111, 109]⟩ : ByteArray)] : List ByteArray)) (inner := [.string (⟨#[105, 109, 97, 103, 101]⟩ : ByteArray), .string (⟨#[117, 115, 101, 114]⟩ : ByteArray), .string (⟨#[104, 111, 115, 116, 110, 97, 109, 101]⟩ : ByteArray), .string (⟨#[99, 111, 109, 109, 97, 110, 100]⟩ : ByteArray), .string (⟨#[108, 97, 98, 101, 108, 115]⟩ : ByteArray), .string (⟨#[101, 110, 118, 105, 114, 111, 110, 109, 101, 110, 116]⟩ : ByteArray), .string (⟨#[110, 101, 116, 119, 111, 114, 107, 115]⟩ : ByteArray), .string (⟨#[110, 101, 116, 119, 111, 114, 107, 95, 109, 111, 100, 101]⟩ : ByteArray), .string (⟨#[100, 101, 112, 101, 110, 100, 115, 95, 111, 110]⟩ : ByteArray), .string (⟨#[112, 111, 114, 116, 115]⟩ : ByteArray), .string (⟨#[118, 111, 108, 117, 109, 101, 115]⟩ : ByteArray), .string (⟨#[108, 105, 110, 107, 115]⟩ : ByteArray), .string (⟨#[118, 111, 108, 117, 109, 101, 115, 95, 102, 114, 111, 109]⟩ : ByteArray)]) (ok := fun _ => True) (okp := fun _ => True) ?hr ?hp (fun _ hk => hk) trivial (Below.refl _ _) (Nat.le_refl _) (by simp) ?_; (case hd => rfl); (case hg => rfl); (case hr => first | (go_simp; done) | (go_simp; rfl)); (case hp => exact (Reps.one (show Kd.M Kd.string _ _ _ (⟨#[105, 109, 97, 103, 101]⟩ : ByteArray) [.string (⟨#[105, 109, 97, 103, 101]⟩ : ByteArray)] from rfl) (Reps.one (show Kd.M Kd.string _ _ _ (⟨#[117, 115, 101, 114]⟩ : ByteArray) [.string (⟨#[117, 115, 101, 114]⟩ : ByteArray)] from rfl) (Reps.one (show Kd.M Kd.string _ _ _ (⟨#[104, 111, 115, 116, 110, 97, 109, 101]⟩ : ByteArray) [.string (⟨#[104, 111, 115, 116, 110, 97, 109, 101]⟩ : ByteArray)] from rfl) (Reps.one (show Kd.M Kd.string _ _ _ (⟨#[99, 111, 109, 109, 97, 110, 100]⟩ : ByteArray) [.string (⟨#[99, 111, 109, 109, 97, 110, 100]⟩ : ByteArray)] from rfl) (Reps.one (show Kd.M Kd.string _ _ _ (⟨#[108, 97, 98, 101, 108, 115]⟩ : ByteArray) [.string (⟨#[108, 97, 98, 101, 108, 115]⟩ : ByteArray)] from rfl) (Reps.one (show Kd.M Kd.string _ _ _ (⟨#[101, 110, 118, 105, 114, 111, 110, 109, 101, 110, 116]⟩ : ByteArray) [.string (⟨#[101, 110, 118, 105, 114, 111, 110, 109, 101, 110, 116]⟩ : ByteArray)] from rfl) (Reps.one (show Kd.M Kd.string _ _ _ (⟨#[110, 101, 116, 119, 111, 114, 107, 115]⟩ : ByteArray) [.string (⟨#[110, 101, 116, 119, 111, 114, 107, 115]⟩ : ByteArray)] from rfl) (Reps.one (show Kd.M Kd.string _ _ _ (⟨#[110, 101, 116, 119, 111, 114, 107, 95, 109, 111, 100, 101]⟩ : ByteArray) [.string (⟨#[110, 101, 116, 119, 111, 114, 107, 95, 109, 111, 100, 101]⟩ : ByteArray)] from rfl) (Reps.one (show Kd.M Kd.string _ _ _ (⟨#[100, 101, 112, 101, 110, 100, 115, 95, 111, 110]⟩ : ByteArray) [.string (⟨#[100, 101, 112, 101, 110, 100, 115, 95, 111, 110]⟩ : ByteArray)] from rfl) (Reps.one (show Kd.M Kd.string _ _ _ (⟨#[112, 111, 114, 116, 115]⟩ : ByteArray) [.string (⟨#[112, 111, 114, 116, 115]⟩ : ByteArray)] from rfl) (Reps.one (show Kd.M Kd.string _ _ _ (⟨#[118, 111, 108, 117, 109, 101, 115]⟩ : ByteArray) [.string (⟨#[118, 111, 108, 117, 109, 101, 115]⟩ : ByteArray)] from rfl) (Reps.one (show Kd.M Kd.string _ _ _ (⟨#[108, 105, 110, 107, 115]⟩ : ByteArray) [.string (⟨#[108, 105, 110, 107, 115]⟩ : ByteArray)] from rfl) (Reps.one (show Kd.M Kd.string _ _ _ (⟨#[118, 111, 108, 117, 109, 101, 115, 95, 102, 114, 111, 109]⟩ : ByteArray) [.string (⟨#[118, 111, 108, 117, 109, 101, 115, 95, 102, 114, 111, 109]⟩ : ByteArray)] from rfl) (Reps.none _ _))))))))))))))); intro v175 w8 ho9 hb hg_ hnew_; clear hg_ hnew_; (first | rw [← Ny174.out] at ho9 | (simp only [Int.reduceToNat] at ho9; rw [← Ny174.out] at ho9)); have n0_ := Aside0.mk (Kd.R_lower ho9 (below_size (by repeat (first | (with_reducible first | exact HB.out | apply below_alloc | apply pw_below_drewN | apply below_drew1 | refine below_set ?_ GE172.out) | exact HB.out)))); have n1_ := Aside0.mk (blk_below (g := gb172) (o := .cells #[.int .i64 a0_0, .int .i64 a0_1, .string a0_2, .slice (some ad173) l0_3.length c0_3, .slice A0_4 l0_4.length c0_4] 25 (0, 0)) (by (with_reducible repeat (first | refine blk_drewN ?_ _ | refine blk_drew ?_ | refine blk_alloc ?_ _)); exact BK172.out) hb); have n2_ := Aside0.mk (below_step (by repeat (first | (with_reducible first | exact HB.out | apply below_alloc | apply pw_below_drewN | apply below_drew1 | refine below_set ?_ GE172.out) | exact HB.out)) hb); clear BK172; clear HB; have HO176 := n0_; have BK172 := n1_; have HB := n2_; clear n0_ n1_ n2_; clear hb ho9; obtain ⟨Ao10, co10, eo10⟩ := Kd.R_slice HO176.out; subst eo10) | ((with_reducible refine gate_callee (f := 46) rfl ?_); refine goesL_ (some 17) rfl rfl Tryd.func46 (by kernel_rfl) rfl #[.string (rdOf ByteArray.empty l0_3 x3_1), .slice Ao10 y174.length co10] rfl (by (try simp only [List.map_toArray, List.map_cons, List.map_nil]); first | done | rfl | (simp only [List.length_drop, List.length_take]; rfl)) ?_; (with_reducible refine (spec_sayIn.calls k1 (rdOf ByteArray.empty l0_3 x3_1) _ _ y174 true _ ?side1 ?side2 A5.out).mono ?_); (case side1 => repeat (first | exact (Kd.R_reads' HO176.out).2.2 | (with_reducible refine Kd.C_alloc ?_ _) | (with_reducible refine Kd.C_drewN ?_ _) | (with_reducible refine Kd.C_drew ?_))); (case side2 => exact (Kd.R_reads' HO176.out).2.1); rintro e w' ⟨rfl, ⟨nd, rfl⟩⟩; refine ⟨_, rfl, ?_⟩))
            go_roundg k1
            case measure => have := HK1.out; omega
            case rel => exact ⟨(wrap64 (x3_1 + 1)), (by first | rfl | (simp; done) | (simp [*]; done)), H', ⟨by have := HK1.out; omega⟩, ⟨by (with_reducible repeat (first | refine blk_drewN ?_ _ | refine blk_drew ?_ | refine blk_alloc ?_ _)); exact BK172.out⟩, ⟨by repeat (first | (with_reducible first | exact HB.out | apply below_alloc | apply pw_below_drewN | apply below_drew1 | refine below_set ?_ GE172.out) | exact HB.out)⟩⟩
          · replace c6 := Bool.eq_false_iff.mpr c6
            subst c6
            have H1 : ((spec_sayExtra.f (rdOf ByteArray.empty l0_3 x3_1)).bind fun t179 => (if t179 = true then (spec_normPlain.l0 k1 (wrap64 (x3_1 + 1)) a0_0 a0_1 a0_2 l0_3 l0_4) else (some false))) = some r := by rw [if_neg (show ¬ (false = true) by decide)] at H; exact H
            clear H
            have H := H1
            clear H1
            replace H := Option.bind_eq_some_iff.mp H
            obtain ⟨t179, A110, H⟩ := H
            replace H : (if t179 = true then (spec_normPlain.l0 k1 (wrap64 (x3_1 + 1)) a0_0 a0_1 a0_2 l0_3 l0_4) else (some false)) = some r := H
            have A11 := Aside0.mk A110
            clear A110
            by_cases c12 : t179 = true
            · subst c12
              have H1 : (spec_normPlain.l0 k1 (wrap64 (x3_1 + 1)) a0_0 a0_1 a0_2 l0_3 l0_4) = some r := by rw [if_pos rfl] at H; exact H
              clear H
              have H := H1
              clear H1
              have H' := Aside0.mk H
              clear H
              have hcz13_0 : wr.cell? ⟨gb172, 0, none⟩ = some (.int .i64 a0_0) := (blk_cell BK172.out 0).trans rfl
              have hcz13_1 : wr.cell? ⟨gb172, 1, none⟩ = some (.int .i64 a0_1) := (blk_cell BK172.out 1).trans rfl
              have hcz13_2 : wr.cell? ⟨gb172, 2, none⟩ = some (.string a0_2) := (blk_cell BK172.out 2).trans rfl
              have hcz13_3 : wr.cell? ⟨gb172, 3, none⟩ = some (.slice A0_3 l0_3.length c0_3) := (blk_cell BK172.out 3).trans rfl
              have hcz13_4 : wr.cell? ⟨gb172, 4, none⟩ = some (.slice A0_4 l0_4.length c0_4) := (blk_cell BK172.out 4).trans rfl
              have hfz13_0 := blk_frozen BK172.out 0
              have hfz13_1 := blk_frozen BK172.out 1
              have hfz13_2 := blk_frozen BK172.out 2
              have hfz13_3 := blk_frozen BK172.out 3
              have hfz13_4 := blk_frozen BK172.out 4
              have p173 : 0 ≤ (x3_1 : Int) := of_decide_eq_true (by first | (with_reducible assumption) | assumption)
              have q173 : x3_1 < (l0_3.length : Int) := of_decide_eq_true (by first | (with_reducible assumption) | assumption)
              obtain ⟨ad173, e173, hx173_0⟩ := Kd.at_string HR0_3.out x3_1 p173 q173
              cases e173
              replace hx173_0 := (HB.out.cell (World.block_lt_of_cell? w _ hx173_0)).trans hx173_0
              replace p173 := eq_true p173
              replace q173 := eq_true q173
              go_wp2_with (first | ((with_reducible refine gate_dst (N := 16) rfl ?_); refine Kd.R_lit Kd.string _ 9 ?hg (N := 16) ?hd (xs := ([(⟨#[105, 109, 97, 103, 101]⟩ : ByteArray), (⟨#[117, 115, 101, 114]⟩ : ByteArray), (⟨#[104, 111, 115, 116, 110, 97, 109, 101]⟩ : ByteArray), (⟨#[99, 111, 109, 109, 97, 110, 100]⟩ : ByteArray), (⟨#[108, 97, 98, 101, 108, 115]⟩ : ByteArray), (⟨#[101, 110, 118, 105, 114, 111, 110, 109, 101, 110, 116]⟩ : ByteArray), (⟨#[110, 101, 116, 119, 111, 114, 107, 115]⟩ : ByteArray), (⟨#[110, 101, 116, 119, 111, 114, 107, 95, 109, 111, 100, 101]⟩ : ByteArray), (⟨#[100, 101, 112, 101, 110, 100, 115, 95, 111, 110]⟩ : ByteArray), (⟨#[112, 111, 114, 116, 115]⟩ : ByteArray), (⟨#[118, 111, 108, 117, 109, 101, 115]⟩ : ByteArray), (⟨#[108, 105, 110, 107, 115]⟩ : ByteArray), (⟨#[118, 111, 108, 117, 109, 101, 115, 95, 102, 114, 111, 109]⟩ : ByteArray)] : List ByteArray)) (inner := [.string (⟨#[105, 109, 97, 103, 101]⟩ : ByteArray), .string (⟨#[117, 115, 101, 114]⟩ : ByteArray), .string (⟨#[104, 111, 115, 116, 110, 97, 109, 101]⟩ : ByteArray), .string (⟨#[99, 111, 109, 109, 97, 110, 100]⟩ : ByteArray), .string (⟨#[108, 97, 98, 101, 108, 115]⟩ : ByteArray), .string (⟨#[101, 110, 118, 105, 114, 111, 110, 109, 101, 110, 116]⟩ : ByteArray), .string (⟨#[110, 101, 116, 119, 111, 114, 107, 115]⟩ : ByteArray), .string (⟨#[110, 101, 116, 119, 111, 114, 107, 95, 109, 111, 100, 101]⟩ : ByteArray), .string (⟨#[100, 101, 112, 101, 110, 100, 115, 95, 111, 110]⟩ : ByteArray), .string (⟨#[112, 111, 114, 116, 115]⟩ : ByteArray), .string (⟨#[118, 111, 108, 117, 109, 101, 115]⟩ : ByteArray), .string (⟨#[108, 105, 110, 107, 115]⟩ : ByteArray), .string (⟨#[118, 111, 108, 117, 109, 101, 115, 95, 102, 114, 111, 109]⟩ : ByteArray)]) (ok := fun _ => True) (okp := fun _ => True) ?hr ?hp (fun _ hk => hk) trivial (Below.refl _ _) (Nat.le_refl _) (by simp) ?_; (case hd => rfl); (case hg => rfl); (case hr => first | (go_simp; done) | (go_simp; rfl)); (case hp => exact (Reps.one (show Kd.M Kd.string _ _ _ (⟨#[105, 109, 97, 103, 101]⟩ : ByteArray) [.string (⟨#[105, 109, 97, 103, 101]⟩ : ByteArray)] from rfl) (Reps.one (show Kd.M Kd.string _ _ _ (⟨#[117, 115, 101, 114]⟩ : ByteArray) [.string (⟨#[117, 115, 101, 114]⟩ : ByteArray)] from rfl) (Reps.one (show Kd.M Kd.string _ _ _ (⟨#[104, 111, 115, 116, 110, 97, 109, 101]⟩ : ByteArray) [.string (⟨#[104, 111, 115, 116, 110, 97, 109, 101]⟩ : ByteArray)] from rfl) (Reps.one (show Kd.M Kd.string _ _ _ (⟨#[99, 111, 109, 109, 97, 110, 100]⟩ : ByteArray) [.string (⟨#[99, 111, 109, 109, 97, 110, 100]⟩ : ByteArray)] from rfl) (Reps.one (show Kd.M Kd.string _ _ _ (⟨#[108, 97, 98, 101, 108, 115]⟩ : ByteArray) [.string (⟨#[108, 97, 98, 101, 108, 115]⟩ : ByteArray)] from rfl) (Reps.one (show Kd.M Kd.string _ _ _ (⟨#[101, 110, 118, 105, 114, 111, 110, 109, 101, 110, 116]⟩ : ByteArray) [.string (⟨#[101, 110, 118, 105, 114, 111, 110, 109, 101, 110, 116]⟩ : ByteArray)] from rfl) (Reps.one (show Kd.M Kd.string _ _ _ (⟨#[110, 101, 116, 119, 111, 114, 107, 115]⟩ : ByteArray) [.string (⟨#[110, 101, 116, 119, 111, 114, 107, 115]⟩ : ByteArray)] from rfl) (Reps.one (show Kd.M Kd.string _ _ _ (⟨#[110, 101, 116, 119, 111, 114, 107, 95, 109, 111, 100, 101]⟩ : ByteArray) [.string (⟨#[110, 101, 116, 119, 111, 114, 107, 95, 109, 111, 100, 101]⟩ : ByteArray)] from rfl) (Reps.one (show Kd.M Kd.string _ _ _ (⟨#[100, 101, 112, 101, 110, 100, 115, 95, 111, 110]⟩ : ByteArray) [.string (⟨#[100, 101, 112, 101, 110, 100, 115, 95, 111, 110]⟩ : ByteArray)] from rfl) (Reps.one (show Kd.M Kd.string _ _ _ (⟨#[112, 111, 114, 116, 115]⟩ : ByteArray) [.string (⟨#[112, 111, 114, 116, 115]⟩ : ByteArray)] from rfl) (Reps.one (show Kd.M Kd.string _ _ _ (⟨#[118, 111, 108, 117, 109, 101, 115]⟩ : ByteArray) [.string (⟨#[118, 111, 108, 117, 109, 101, 115]⟩ : ByteArray)] from rfl) (Reps.one (show Kd.M Kd.string _ _ _ (⟨#[108, 105, 110, 107, 115]⟩ : ByteArray) [.string (⟨#[108, 105, 110, 107, 115]⟩ : ByteArray)] from rfl) (Reps.one (show Kd.M Kd.string _ _ _ (⟨#[118, 111, 108, 117, 109, 101, 115, 95, 102, 114, 111, 109]⟩ : ByteArray) [.string (⟨#[118, 111, 108, 117, 109, 101, 115, 95, 102, 114, 111, 109]⟩ : ByteArray)] from rfl) (Reps.none _ _))))))))))))))); intro v175 w14 ho15 hb hg_ hnew_; clear hg_ hnew_; (first | rw [← Ny174.out] at ho15 | (simp only [Int.reduceToNat] at ho15; rw [← Ny174.out] at ho15)); have n0_ := Aside0.mk (Kd.R_lower ho15 (below_size (by repeat (first | (with_reducible first | exact HB.out | apply below_alloc | apply pw_below_drewN | apply below_drew1 | refine below_set ?_ GE172.out) | exact HB.out)))); have n1_ := Aside0.mk (blk_below (g := gb172) (o := .cells #[.int .i64 a0_0, .int .i64 a0_1, .string a0_2, .slice (some ad173) l0_3.length c0_3, .slice A0_4 l0_4.length c0_4] 25 (0, 0)) (by (with_reducible repeat (first | refine blk_drewN ?_ _ | refine blk_drew ?_ | refine blk_alloc ?_ _)); exact BK172.out) hb); have n2_ := Aside0.mk (below_step (by repeat (first | (with_reducible first | exact HB.out | apply below_alloc | apply pw_below_drewN | apply below_drew1 | refine below_set ?_ GE172.out) | exact HB.out)) hb); clear BK172; clear HB; have HO176 := n0_; have BK172 := n1_; have HB := n2_; clear n0_ n1_ n2_; clear hb ho15; obtain ⟨Ao16, co16, eo16⟩ := Kd.R_slice HO176.out; subst eo16) | ((with_reducible refine gate_callee (f := 46) rfl ?_); refine goesL_ (some 17) rfl rfl Tryd.func46 (by kernel_rfl) rfl #[.string (rdOf ByteArray.empty l0_3 x3_1), .slice Ao16 y174.length co16] rfl (by (try simp only [List.map_toArray, List.map_cons, List.map_nil]); first | done | rfl | (simp only [List.length_drop, List.length_take]; rfl)) ?_; (with_reducible refine (spec_sayIn.calls k1 (rdOf ByteArray.empty l0_3 x3_1) _ _ y174 false _ ?side1 ?side2 A5.out).mono ?_); (case side1 => repeat (first | exact (Kd.R_reads' HO176.out).2.2 | (with_reducible refine Kd.C_alloc ?_ _) | (with_reducible refine Kd.C_drewN ?_ _) | (with_reducible refine Kd.C_drew ?_))); (case side2 => exact (Kd.R_reads' HO176.out).2.1); rintro e w' ⟨rfl, ⟨nd, rfl⟩⟩; refine ⟨_, rfl, ?_⟩; have hcz17_0 : w14.cell? ⟨gb172, 0, none⟩ = some (.int .i64 a0_0) := (blk_cell BK172.out 0).trans rfl; have hcz17_1 : w14.cell? ⟨gb172, 1, none⟩ = some (.int .i64 a0_1) := (blk_cell BK172.out 1).trans rfl; have hcz17_2 : w14.cell? ⟨gb172, 2, none⟩ = some (.string a0_2) := (blk_cell BK172.out 2).trans rfl; have hcz17_3 : w14.cell? ⟨gb172, 3, none⟩ = some (.slice (some ad173) l0_3.length c0_3) := (blk_cell BK172.out 3).trans rfl; have hcz17_4 : w14.cell? ⟨gb172, 4, none⟩ = some (.slice A0_4 l0_4.length c0_4) := (blk_cell BK172.out 4).trans rfl; have hfz17_0 := blk_frozen BK172.out 0; have hfz17_1 := blk_frozen BK172.out 1; have hfz17_2 := blk_frozen BK172.out 2; have hfz17_3 := blk_frozen BK172.out 3; have hfz17_4 := blk_frozen BK172.out 4; have p178 : 0 ≤ (x3_1 : Int) := of_decide_eq_true (by first | (with_reducible assumption) | assumption); have q178 : x3_1 < (l0_3.length : Int) := of_decide_eq_true (by first | (with_reducible assumption) | assumption); obtain ⟨ad178, e178, hx178_0⟩ := Kd.at_string HR0_3.out x3_1 p178 q178; obtain rfl : ad173 = ad178 := (by injection e178); replace hx178_0 := (HB.out.cell (World.block_lt_of_cell? w _ hx178_0)).trans hx178_0; replace p178 := eq_true p178; replace q178 := eq_true q178) | (go_at_call 47; (with_reducible refine (spec_sayExtra.calls (rdOf ByteArray.empty l0_3 x3_1) true _ A11.out).mono ?_); rintro e w' ⟨rfl, ⟨nd, rfl⟩⟩))
              go_roundg k1
              case measure => have := HK1.out; omega
              case rel => exact ⟨(wrap64 (x3_1 + 1)), (by first | rfl | (simp; done) | (simp [*]; done)), H', ⟨by have := HK1.out; omega⟩, ⟨by (with_reducible repeat (first | refine blk_drewN ?_ _ | refine blk_drew ?_ | refine blk_alloc ?_ _)); exact BK172.out⟩, ⟨by repeat (first | (with_reducible first | exact HB.out | apply below_alloc | apply pw_below_drewN | apply below_drew1 | refine below_set ?_ GE172.out) | exact HB.out)⟩⟩
            · replace c12 := Bool.eq_false_iff.mpr c12
              subst c12
              have H1 : (some false) = some r := by rw [if_neg (show ¬ (false = true) by decide)] at H; exact H
              clear H
              have H := H1
              clear H1
              obtain rfl := Option.some.inj H
              have hcz18_0 : wr.cell? ⟨gb172, 0, none⟩ = some (.int .i64 a0_0) := (blk_cell BK172.out 0).trans rfl
              have hcz18_1 : wr.cell? ⟨gb172, 1, none⟩ = some (.int .i64 a0_1) := (blk_cell BK172.out 1).trans rfl
              have hcz18_2 : wr.cell? ⟨gb172, 2, none⟩ = some (.string a0_2) := (blk_cell BK172.out 2).trans rfl
              have hcz18_3 : wr.cell? ⟨gb172, 3, none⟩ = some (.slice A0_3 l0_3.length c0_3) := (blk_cell BK172.out 3).trans rfl
              have hcz18_4 : wr.cell? ⟨gb172, 4, none⟩ = some (.slice A0_4 l0_4.length c0_4) := (blk_cell BK172.out 4).trans rfl
              have hfz18_0 := blk_frozen BK172.out 0
              have hfz18_1 := blk_frozen BK172.out 1
              have hfz18_2 := blk_frozen BK172.out 2
              have hfz18_3 := blk_frozen BK172.out 3
              have hfz18_4 := blk_frozen BK172.out 4
              have p173 : 0 ≤ (x3_1 : Int) := of_decide_eq_true (by first | (with_reducible assumption) | assumption)
              have q173 : x3_1 < (l0_3.length : Int) := of_decide_eq_true (by first | (with_reducible assumption) | assumption)
              obtain ⟨ad173, e173, hx173_0⟩ := Kd.at_string HR0_3.out x3_1 p173 q173
              cases e173
              replace hx173_0 := (HB.out.cell (World.block_lt_of_cell? w _ hx173_0)).trans hx173_0
              replace p173 := eq_true p173
              replace q173 := eq_true q173
              go_wp2_with (first | ((with_reducible refine gate_dst (N := 16) rfl ?_); refine Kd.R_lit Kd.string _ 9 ?hg (N := 16) ?hd (xs := ([(⟨#[105, 109, 97, 103, 101]⟩ : ByteArray), (⟨#[117, 115, 101, 114]⟩ : ByteArray), (⟨#[104, 111, 115, 116, 110, 97, 109, 101]⟩ : ByteArray), (⟨#[99, 111, 109, 109, 97, 110, 100]⟩ : ByteArray), (⟨#[108, 97, 98, 101, 108, 115]⟩ : ByteArray), (⟨#[101, 110, 118, 105, 114, 111, 110, 109, 101, 110, 116]⟩ : ByteArray), (⟨#[110, 101, 116, 119, 111, 114, 107, 115]⟩ : ByteArray), (⟨#[110, 101, 116, 119, 111, 114, 107, 95, 109, 111, 100, 101]⟩ : ByteArray), (⟨#[100, 101, 112, 101, 110, 100, 115, 95, 111, 110]⟩ : ByteArray), (⟨#[112, 111, 114, 116, 115]⟩ : ByteArray), (⟨#[118, 111, 108, 117, 109, 101, 115]⟩ : ByteArray), (⟨#[108, 105, 110, 107, 115]⟩ : ByteArray), (⟨#[118, 111, 108, 117, 109, 101, 115, 95, 102, 114, 111, 109]⟩ : ByteArray)] : List ByteArray)) (inner := [.string (⟨#[105, 109, 97, 103, 101]⟩ : ByteArray), .string (⟨#[117, 115, 101, 114]⟩ : ByteArray), .string (⟨#[104, 111, 115, 116, 110, 97, 109, 101]⟩ : ByteArray), .string (⟨#[99, 111, 109, 109, 97, 110, 100]⟩ : ByteArray), .string (⟨#[108, 97, 98, 101, 108, 115]⟩ : ByteArray), .string (⟨#[101, 110, 118, 105, 114, 111, 110, 109, 101, 110, 116]⟩ : ByteArray), .string (⟨#[110, 101, 116, 119, 111, 114, 107, 115]⟩ : ByteArray), .string (⟨#[110, 101, 116, 119, 111, 114, 107, 95, 109, 111, 100, 101]⟩ : ByteArray), .string (⟨#[100, 101, 112, 101, 110, 100, 115, 95, 111, 110]⟩ : ByteArray), .string (⟨#[112, 111, 114, 116, 115]⟩ : ByteArray), .string (⟨#[118, 111, 108, 117, 109, 101, 115]⟩ : ByteArray), .string (⟨#[108, 105, 110, 107, 115]⟩ : ByteArray), .string (⟨#[118, 111, 108, 117, 109, 101, 115, 95, 102, 114, 111, 109]⟩ : ByteArray)]) (ok := fun _ => True) (okp := fun _ => True) ?hr ?hp (fun _ hk => hk) trivial (Below.refl _ _) (Nat.le_refl _) (by simp) ?_; (case hd => rfl); (case hg => rfl); (case hr => first | (go_simp; done) | (go_simp; rfl)); (case hp => exact (Reps.one (show Kd.M Kd.string _ _ _ (⟨#[105, 109, 97, 103, 101]⟩ : ByteArray) [.string (⟨#[105, 109, 97, 103, 101]⟩ : ByteArray)] from rfl) (Reps.one (show Kd.M Kd.string _ _ _ (⟨#[117, 115, 101, 114]⟩ : ByteArray) [.string (⟨#[117, 115, 101, 114]⟩ : ByteArray)] from rfl) (Reps.one (show Kd.M Kd.string _ _ _ (⟨#[104, 111, 115, 116, 110, 97, 109, 101]⟩ : ByteArray) [.string (⟨#[104, 111, 115, 116, 110, 97, 109, 101]⟩ : ByteArray)] from rfl) (Reps.one (show Kd.M Kd.string _ _ _ (⟨#[99, 111, 109, 109, 97, 110, 100]⟩ : ByteArray) [.string (⟨#[99, 111, 109, 109, 97, 110, 100]⟩ : ByteArray)] from rfl) (Reps.one (show Kd.M Kd.string _ _ _ (⟨#[108, 97, 98, 101, 108, 115]⟩ : ByteArray) [.string (⟨#[108, 97, 98, 101, 108, 115]⟩ : ByteArray)] from rfl) (Reps.one (show Kd.M Kd.string _ _ _ (⟨#[101, 110, 118, 105, 114, 111, 110, 109, 101, 110, 116]⟩ : ByteArray) [.string (⟨#[101, 110, 118, 105, 114, 111, 110, 109, 101, 110, 116]⟩ : ByteArray)] from rfl) (Reps.one (show Kd.M Kd.string _ _ _ (⟨#[110, 101, 116, 119, 111, 114, 107, 115]⟩ : ByteArray) [.string (⟨#[110, 101, 116, 119, 111, 114, 107, 115]⟩ : ByteArray)] from rfl) (Reps.one (show Kd.M Kd.string _ _ _ (⟨#[110, 101, 116, 119, 111, 114, 107, 95, 109, 111, 100, 101]⟩ : ByteArray) [.string (⟨#[110, 101, 116, 119, 111, 114, 107, 95, 109, 111, 100, 101]⟩ : ByteArray)] from rfl) (Reps.one (show Kd.M Kd.string _ _ _ (⟨#[100, 101, 112, 101, 110, 100, 115, 95, 111, 110]⟩ : ByteArray) [.string (⟨#[100, 101, 112, 101, 110, 100, 115, 95, 111, 110]⟩ : ByteArray)] from rfl) (Reps.one (show Kd.M Kd.string _ _ _ (⟨#[112, 111, 114, 116, 115]⟩ : ByteArray) [.string (⟨#[112, 111, 114, 116, 115]⟩ : ByteArray)] from rfl) (Reps.one (show Kd.M Kd.string _ _ _ (⟨#[118, 111, 108, 117, 109, 101, 115]⟩ : ByteArray) [.string (⟨#[118, 111, 108, 117, 109, 101, 115]⟩ : ByteArray)] from rfl) (Reps.one (show Kd.M Kd.string _ _ _ (⟨#[108, 105, 110, 107, 115]⟩ : ByteArray) [.string (⟨#[108, 105, 110, 107, 115]⟩ : ByteArray)] from rfl) (Reps.one (show Kd.M Kd.string _ _ _ (⟨#[118, 111, 108, 117, 109, 101, 115, 95, 102, 114, 111, 109]⟩ : ByteArray) [.string (⟨#[118, 111, 108, 117, 109, 101, 115, 95, 102, 114, 111, 109]⟩ : ByteArray)] from rfl) (Reps.none _ _))))))))))))))); intro v175 w19 ho20 hb hg_ hnew_; clear hg_ hnew_; (first | rw [← Ny174.out] at ho20 | (simp only [Int.reduceToNat] at ho20; rw [← Ny174.out] at ho20)); have n0_ := Aside0.mk (Kd.R_lower ho20 (below_size (by repeat (first | (with_reducible first | exact HB.out | apply below_alloc | apply pw_below_drewN | apply below_drew1 | refine below_set ?_ GE172.out) | exact HB.out)))); have n1_ := Aside0.mk (blk_below (g := gb172) (o := .cells #[.int .i64 a0_0, .int .i64 a0_1, .string a0_2, .slice (some ad173) l0_3.length c0_3, .slice A0_4 l0_4.length c0_4] 25 (0, 0)) (by (with_reducible repeat (first | refine blk_drewN ?_ _ | refine blk_drew ?_ | refine blk_alloc ?_ _)); exact BK172.out) hb); have n2_ := Aside0.mk (below_step (by repeat (first | (with_reducible first | exact HB.out | apply below_alloc | apply pw_below_drewN | apply below_drew1 | refine below_set ?_ GE172.out) | exact HB.out)) hb); clear BK172; clear HB; have HO176 := n0_; have BK172 := n1_; have HB := n2_; clear n0_ n1_ n2_; clear hb ho20; obtain ⟨Ao21, co21, eo21⟩ := Kd.R_slice HO176.out; subst eo21) | ((with_reducible refine gate_callee (f := 46) rfl ?_); refine goesL_ (some 17) rfl rfl Tryd.func46 (by kernel_rfl) rfl #[.string (rdOf ByteArray.empty l0_3 x3_1), .slice Ao21 y174.length co21] rfl (by (try simp only [List.map_toArray, List.map_cons, List.map_nil]); first | done | rfl | (simp only [List.length_drop, List.length_take]; rfl)) ?_; (with_reducible refine (spec_sayIn.calls k1 (rdOf ByteArray.empty l0_3 x3_1) _ _ y174 false _ ?side1 ?side2 A5.out).mono ?_); (case side1 => repeat (first | exact (Kd.R_reads' HO176.out).2.2 | (with_reducible refine Kd.C_alloc ?_ _) | (with_reducible refine Kd.C_drewN ?_ _) | (with_reducible refine Kd.C_drew ?_))); (case side2 => exact (Kd.R_reads' HO176.out).2.1); rintro e w' ⟨rfl, ⟨nd, rfl⟩⟩; refine ⟨_, rfl, ?_⟩; have hcz22_0 : w19.cell? ⟨gb172, 0, none⟩ = some (.int .i64 a0_0) := (blk_cell BK172.out 0).trans rfl; have hcz22_1 : w19.cell? ⟨gb172, 1, none⟩ = some (.int .i64 a0_1) := (blk_cell BK172.out 1).trans rfl; have hcz22_2 : w19.cell? ⟨gb172, 2, none⟩ = some (.string a0_2) := (blk_cell BK172.out 2).trans rfl; have hcz22_3 : w19.cell? ⟨gb172, 3, none⟩ = some (.slice (some ad173) l0_3.length c0_3) := (blk_cell BK172.out 3).trans rfl; have hcz22_4 : w19.cell? ⟨gb172, 4, none⟩ = some (.slice A0_4 l0_4.length c0_4) := (blk_cell BK172.out 4).trans rfl; have hfz22_0 := blk_frozen BK172.out 0; have hfz22_1 := blk_frozen BK172.out 1; have hfz22_2 := blk_frozen BK172.out 2; have hfz22_3 := blk_frozen BK172.out 3; have hfz22_4 := blk_frozen BK172.out 4; have p178 : 0 ≤ (x3_1 : Int) := of_decide_eq_true (by first | (with_reducible assumption) | assumption); have q178 : x3_1 < (l0_3.length : Int) := of_decide_eq_true (by first | (with_reducible assumption) | assumption); obtain ⟨ad178, e178, hx178_0⟩ := Kd.at_string HR0_3.out x3_1 p178 q178; obtain rfl : ad173 = ad178 := (by injection e178); replace hx178_0 := (HB.out.cell (World.block_lt_of_cell? w _ hx178_0)).trans hx178_0; replace p178 := eq_true p178; replace q178 := eq_true q178) | (go_at_call 47; (with_reducible refine (spec_sayExtra.calls (rdOf ByteArray.empty l0_3 x3_1) false _ A11.out).mono ?_); rintro e w' ⟨rfl, ⟨nd, rfl⟩⟩))
              go_ret
              exact ⟨by first | rfl | (simp [errW_none, errW_some] <;> rfl) | (simp [*, errW_none, errW_some] <;> rfl), by repeat (first | (with_reducible first | exact HB.out | apply below_alloc | apply pw_below_drewN | apply below_drew1 | refine below_set ?_ GE172.out) | exact HB.out)⟩
        · rw [if_neg c4] at H
          exact absurd H (by simp)
      · rw [if_neg c3] at H
        have c3b0 : decide (x3_1 < (l0_3.length : Int)) = false := decide_eq_false c3
        clear c3
        obtain rfl := Option.some.inj H
        have hcz23_0 : wr.cell? ⟨gb172, 0, none⟩ = some (.int .i64 a0_0) := (blk_cell BK172.out 0).trans rfl
        have hcz23_1 : wr.cell? ⟨gb172, 1, none⟩ = some (.int .i64 a0_1) := (blk_cell BK172.out 1).trans rfl
        have hcz23_2 : wr.cell? ⟨gb172, 2, none⟩ = some (.string a0_2) := (blk_cell BK172.out 2).trans rfl
        have hcz23_3 : wr.cell? ⟨gb172, 3, none⟩ = some (.slice A0_3 l0_3.length c0_3) := (blk_cell BK172.out 3).trans rfl
        have hcz23_4 : wr.cell? ⟨gb172, 4, none⟩ = some (.slice A0_4 l0_4.length c0_4) := (blk_cell BK172.out 4).trans rfl
        have hfz23_0 := blk_frozen BK172.out 0
        have hfz23_1 := blk_frozen BK172.out 1
        have hfz23_2 := blk_frozen BK172.out 2
        have hfz23_3 := blk_frozen BK172.out 3
        have hfz23_4 := blk_frozen BK172.out 4
        go_wp2
        go_ret
        exact ⟨by first | rfl | (simp [errW_none, errW_some] <;> rfl) | (simp [*, errW_none, errW_some] <;> rfl), by repeat (first | (with_reducible first | exact HB.out | apply below_alloc | apply pw_below_drewN | apply below_drew1 | refine below_set ?_ GE172.out) | exact HB.out)⟩

end Go.Proofs.YtgeamhmenmomhaaDoor.PT
