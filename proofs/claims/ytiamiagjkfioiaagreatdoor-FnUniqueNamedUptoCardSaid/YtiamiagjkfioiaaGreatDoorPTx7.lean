-- Written by a program over the translation (xprint.py). Lean checks it.
import Derived.Test.YtiamiagjkfioiaaGreatDoorPTx0
import Derived.Test.YtiamiagjkfioiaaGreatDoorPTx4
import Derived.Test.YtiamiagjkfioiaaGreatDoorPTx5
namespace Go.Proofs.YtiamiagjkfioiaaGreatDoor.PT
open Go.RowKit Go.Proofs.YtiamiagjkfioiaaGreatDoorW.PrintWords Go.Proofs.YtiamiagjkfioiaaGreatDoorW.PrintLast Go.Proofs.YtiamiagjkfioiaaGreatDoorW.PrintMore
attribute [local go_sem] max2_int min2_int max_two min_two max_three min_three max_four min_four   -- for this text's walks alone
set_option linter.unusedVariables false
set_option linter.unusedSimpArgs false

/-! ### spec_UniqueNamed: function 12 -/
mutual
def spec_UniqueNamed.l0 : Nat → List ByteArray → List ByteArray → Int → Option (List ByteArray)
  | 0, _, _, _ => none
  | k + 1, x0, x3, x4 => if x4 < (x0.length : Int) then (if 0 ≤ x4 then ((spec_mergeSplit.f k (rdOf ByteArray.empty x0 x4)).bind fun bt190 => (spec_UniqueNamed.l1 k x0 x3 x4 bt190.1 (x3.length : Int) 0)) else (none)) else (some x3)
def spec_UniqueNamed.l1 : Nat → List ByteArray → List ByteArray → Int → ByteArray → Int → Int → Option (List ByteArray)
  | 0, _, _, _, _, _, _ => none
  | k + 1, x0, x3, x4, x5, x7, x8 => if x8 < (x3.length : Int) then (if 0 ≤ x8 then ((spec_mergeSplit.f k (rdOf ByteArray.empty x3 x8)).bind fun bt202 => (if bt202.1.toList = x5.toList then (spec_UniqueNamed.l1 k x0 x3 x4 x5 x8 (wrap64 (x8 + 1))) else (spec_UniqueNamed.l1 k x0 x3 x4 x5 x7 (wrap64 (x8 + 1))))) else (none)) else (if x7 = (x3.length : Int) then (if x3.length < 8796093022208 then ((some (x3 ++ [(⟨#[]⟩ : ByteArray)] : List ByteArray)).bind fun y213 => (if 0 ≤ x4 then (if x4 < (x0.length : Int) then (if 0 ≤ x7 then (if x7 < (y213.length : Int) then (spec_UniqueNamed.l0 k x0 (y213.set (x7 : Int).toNat (rdOf ByteArray.empty x0 x4)) (wrap64 (x4 + 1))) else (none)) else (none)) else (none)) else (none))) else (none)) else (if 0 ≤ x4 then (if x4 < (x0.length : Int) then (if 0 ≤ x7 then (if x7 < (x3.length : Int) then (spec_UniqueNamed.l0 k x0 (x3.set (x7 : Int).toNat (rdOf ByteArray.empty x0 x4)) (wrap64 (x4 + 1))) else (none)) else (none)) else (none)) else (none)))
end
def spec_UniqueNamed.f (k : Nat) (l0 : List ByteArray) : Option (List ByteArray) := spec_UniqueNamed.l0 k l0 ([] : List ByteArray) 0
theorem spec_UniqueNamed.mono_l : ∀ k, (∀ y0 y1 y2, LeO (spec_UniqueNamed.l0 k y0 y1 y2) (spec_UniqueNamed.l0 (k + 1) y0 y1 y2)) ∧ (∀ y0 y1 y2 y3 y4 y5, LeO (spec_UniqueNamed.l1 k y0 y1 y2 y3 y4 y5) (spec_UniqueNamed.l1 (k + 1) y0 y1 y2 y3 y4 y5))
  | 0 => ⟨fun _ _ _ r h => by simp [spec_UniqueNamed.l0] at h, fun _ _ _ _ _ _ r h => by simp [spec_UniqueNamed.l1] at h⟩
  | k + 1 => by
    obtain ⟨ih0, ih1⟩ := spec_UniqueNamed.mono_l k
    refine ⟨?_, ?_⟩
    · intro y0 y1 y2
      unfold spec_UniqueNamed.l0
      repeat' first
      | (with_reducible exact ih0 _ _ _)
      | (with_reducible exact ih1 _ _ _ _ _ _)
      | (with_reducible exact spec_mergeSplit.mono _ _)
      | (with_reducible exact LeO.refl _)
      | (with_reducible exact LeO.none _)
      | (with_reducible refine LeO.ite ?_ ?_)
      | (with_reducible refine LeO.bind ?_ (fun _ => ?_))
      | exact ih0 _ _ _
      | exact ih1 _ _ _ _ _ _
      | exact spec_mergeSplit.mono _ _
      | exact LeO.none _
      | refine LeO.ite ?_ ?_
      | refine LeO.bind ?_ (fun _ => ?_)
    · intro y0 y1 y2 y3 y4 y5
      unfold spec_UniqueNamed.l1
      repeat' first
      | (with_reducible exact ih0 _ _ _)
      | (with_reducible exact ih1 _ _ _ _ _ _)
      | (with_reducible exact spec_mergeSplit.mono _ _)
      | (with_reducible exact LeO.refl _)
      | (with_reducible exact LeO.none _)
      | (with_reducible refine LeO.ite ?_ ?_)
      | (with_reducible refine LeO.bind ?_ (fun _ => ?_))
      | exact ih0 _ _ _
      | exact ih1 _ _ _ _ _ _
      | exact spec_mergeSplit.mono _ _
      | exact LeO.none _
      | refine LeO.ite ?_ ?_
      | refine LeO.bind ?_ (fun _ => ?_)
theorem spec_UniqueNamed.mono : ∀ a0 k, LeO (spec_UniqueNamed.f k a0) (spec_UniqueNamed.f (k + 1) a0) := by
  intro a0 k
  obtain ⟨ih0, ih1⟩ := spec_UniqueNamed.mono_l k
  unfold spec_UniqueNamed.f
  repeat' first
      | (with_reducible exact ih0 _ _ _)
      | (with_reducible exact ih1 _ _ _ _ _ _)
      | (with_reducible exact spec_mergeSplit.mono _ _)
      | (with_reducible exact LeO.refl _)
      | (with_reducible exact LeO.none _)
      | (with_reducible refine LeO.ite ?_ ?_)
      | (with_reducible refine LeO.bind ?_ (fun _ => ?_))
      | exact ih0 _ _ _
      | exact ih1 _ _ _ _ _ _
      | exact spec_mergeSplit.mono _ _
      | exact LeO.none _
      | refine LeO.ite ?_ ?_
      | refine LeO.bind ?_ (fun _ => ?_)
set_option maxHeartbeats 8000000 in
set_option maxRecDepth 100000 in
theorem spec_UniqueNamed.calls (k : Nat) (A0 : Option Addr) (c0 : Nat) (l0 : List ByteArray) (r : List ByteArray) (w : World) (hr0 : Kd.C Kd.string w A0 l0.length l0) (hc0 : l0.length ≤ c0) (h : spec_UniqueNamed.f k l0 = some r) :
    Calls Tryz.prog 12 #[.slice A0 l0.length c0] w fun e w' => ∃ v0_ : Value, e = .returned (v0_) ∧ Kd.R Kd.string 9 w' w.heap.size (fun _ => True) v0_ r ∧ Below w.heap.size w w' := by
  have hu26 := Tryz.underlying26
  have HR0 := Aside0.mk hr0
  have HC0 := Aside0.mk hc0
  clear hr0 hc0
  have HB := Aside0.mk (Below.refl w.heap.size w)
  have H : (spec_UniqueNamed.l0 k l0 ([] : List ByteArray) 0) = some r := h
  clear h
  have H' := Aside0.mk H
  clear H
  go_enter Tryz.func12, Tryz.ntmps12
  go_wp2
  go_loopg [3, 4] k (fun kq v3 v4 w' => ∃ (x3_1 : List ByteArray) (x4_1 : Int), v4 = .int .i64 x4_1 ∧ Aside0 (spec_UniqueNamed.l0 kq l0 x3_1 x4_1 = some r) ∧ Aside0 (kq ≤ k) ∧ Aside0 (Kd.R Kd.string 9 w' w.heap.size (fun _ => True) v3 x3_1) ∧ Aside0 (Below w.heap.size w w'))
  case atStart => exact ⟨(([] : List ByteArray)), (0), (by first | rfl | (simp; done) | (simp [*]; done)), H', ⟨Nat.le_refl _⟩, ⟨by first | exact Kd.R_nil _ _ _ _ _ | exact Kd.N_nil _ _ _ _ _ | exact Kd.V_nil _ _ _ _ _ | exact Kd.Q_nil _ _ _ _ _ | exact Kd.S_nil _ _ _ _ _⟩, ⟨by repeat (first | (with_reducible first | exact HB.out | apply below_alloc | apply pw_below_drewN | apply below_drew1) | exact HB.out)⟩⟩
  case round =>
    clear H'
    try clear c1
    obtain ⟨x3_1, x4_1, rfl, HA, HK1, HO_3, HB⟩ := hrel
    cases gk with
    | zero => exact absurd HA.out (by simp [spec_UniqueNamed.l0])
    | succ k1 =>
      have H := HA.out
      clear HA
      simp only [spec_UniqueNamed.l0] at H
      by_cases c2 : x4_1 < (l0.length : Int)
      · rw [if_pos c2] at H
        have c2b0 : decide (x4_1 < (l0.length : Int)) = true := decide_eq_true c2
        clear c2
        by_cases c3 : 0 ≤ x4_1
        · rw [if_pos c3] at H
          have c3b0 : decide (0 ≤ x4_1) = true := decide_eq_true c3
          clear c3
          replace H := Option.bind_eq_some_iff.mp H
          obtain ⟨⟨t190, t191, t192, t193, t194, t197⟩, A40, H⟩ := H
          replace H : (spec_UniqueNamed.l1 k1 l0 x3_1 x4_1 t190 (x3_1.length : Int) 0) = some r := H
          have A4 := Aside0.mk A40
          clear A40
          have H' := Aside0.mk H
          clear H
          have p189 : 0 ≤ (x4_1 : Int) := of_decide_eq_true (by first | (with_reducible assumption) | assumption)
          have q189 : x4_1 < (l0.length : Int) := of_decide_eq_true (by first | (with_reducible assumption) | assumption)
          obtain ⟨ad189, e189, hx189_0⟩ := Kd.at_string HR0.out x4_1 p189 q189
          cases e189
          replace hx189_0 := (HB.out.cell (World.block_lt_of_cell? w _ hx189_0)).trans hx189_0
          replace p189 := eq_true p189
          replace q189 := eq_true q189
          go_wp2_with (first | ((with_reducible refine gate_callee (f := 32) rfl ?_); refine goesL_ (some 22) rfl rfl Tryz.func32 (by kernel_rfl) rfl #[.string (rdOf ByteArray.empty l0 x4_1)] rfl (by (try simp only [List.map_toArray, List.map_cons, List.map_nil]); first | done | rfl | (simp only [List.length_drop, List.length_take]; rfl)) ?_; (with_reducible refine (spec_mergeSplit.calls k1 (rdOf ByteArray.empty l0 x4_1) t190 t191 t192 t193 t194 t197 _ A4.out).mono ?_); rintro e w5 ⟨v195, v198, rfl, ho0, ho1, hb⟩; refine ⟨_, rfl, ?_⟩; have n0_ := Aside0.mk (Kd.R_elder' (by (with_reducible repeat (first | apply Kd.R_alloc | apply Kd.R_drewN | apply Kd.R_drew)); exact HO_3.out) (Kd.R_base ho0) hb); have n1_ := Aside0.mk (Kd.R_lower (Kd.R_new' ho0 (Kd.R_lt (by (with_reducible repeat (first | apply Kd.R_alloc | apply Kd.R_drewN | apply Kd.R_drew)); exact HO_3.out))) (below_size (by repeat (first | (with_reducible first | exact HB.out | apply below_alloc | apply pw_below_drewN | apply below_drew1) | exact HB.out)))); have n2_ := Aside0.mk (Kd.R_lower (Kd.R_new' ho1 (Kd.R_lt (by (with_reducible repeat (first | apply Kd.R_alloc | apply Kd.R_drewN | apply Kd.R_drew)); exact HO_3.out))) (below_size (by repeat (first | (with_reducible first | exact HB.out | apply below_alloc | apply pw_below_drewN | apply below_drew1) | exact HB.out)))); have n3_ := Aside0.mk (below_step (by repeat (first | (with_reducible first | exact HB.out | apply below_alloc | apply pw_below_drewN | apply below_drew1) | exact HB.out)) hb); clear HO_3; clear HB; have HO_3 := n0_; have HO196 := n1_; have HO199 := n2_; have HB := n3_; clear n0_ n1_ n2_ n3_; (try clear hb); (try clear hb2); (try clear hk); (try clear hi); (try clear ho0); (try clear ho1)) | ((with_reducible refine gate_dst (N := 6) rfl ?_); refine box_event ?hg (N := 6) ?hd (cs := #[.int .i64 0, .int .i64 0, .string (⟨#[]⟩ : ByteArray), .slice none 0 0, .slice none 0 0]) (t := 26) ?hr ?_; (case hd => rfl); (case hg => rfl); (case hr => first | (go_simp; done) | (go_simp; rfl)); intro gb200 hg w6 hbox hb; have n0_ := Aside0.mk (Kd.R_below (by (with_reducible repeat (first | apply Kd.R_alloc | apply Kd.R_drewN | apply Kd.R_drew)); exact HO_3.out) hb); have n1_ := Aside0.mk (Kd.R_below (by (with_reducible repeat (first | apply Kd.R_alloc | apply Kd.R_drewN | apply Kd.R_drew)); exact HO196.out) hb); have n2_ := Aside0.mk (Kd.R_below (Kd.R_elderB (by (with_reducible repeat (first | apply Kd.R_alloc | apply Kd.R_drewN | apply Kd.R_drew)); exact HO199.out) gb200 (Nat.le_of_eq hg.symm)) hb); have n3_ := Aside0.mk (below_step (by repeat (first | (with_reducible first | exact HB.out | apply below_alloc | apply pw_below_drewN | apply below_drew1) | exact HB.out)) hb); have n4_ := Aside0.mk (hbox); have n5_ := Aside0.mk ((by rw [hg]; exact (below_size (by repeat (first | (with_reducible first | exact HB.out | apply below_alloc | apply pw_below_drewN | apply below_drew1) | exact HB.out))) : w.heap.size ≤ gb200)); have n6_ := Aside0.mk ((by rw [hg]; exact (below_size (by repeat (first | (with_reducible first | exact HB.out | apply below_alloc | apply pw_below_drewN | apply below_drew1) | exact HB.out))) : w.heap.size ≤ gb200)); clear HO_3; clear HO196; clear HO199; clear HB; have HO_3 := n0_; have HO196 := n1_; have HO199 := n2_; have HB := n3_; have BK200 := n4_; have GW200 := n5_; have GE200 := n6_; clear n0_ n1_ n2_ n3_ n4_ n5_ n6_; clear hb hbox hg; have hcz7_0 : w6.cell? ⟨gb200, 0, none⟩ = some (.int .i64 0) := (blk_cell BK200.out 0).trans rfl; have hcz7_1 : w6.cell? ⟨gb200, 1, none⟩ = some (.int .i64 0) := (blk_cell BK200.out 1).trans rfl; have hcz7_2 : w6.cell? ⟨gb200, 2, none⟩ = some (.string (⟨#[]⟩ : ByteArray)) := (blk_cell BK200.out 2).trans rfl; have hcz7_3 : w6.cell? ⟨gb200, 3, none⟩ = some (.slice none 0 0) := (blk_cell BK200.out 3).trans rfl; have hcz7_4 : w6.cell? ⟨gb200, 4, none⟩ = some (.slice none 0 0) := (blk_cell BK200.out 4).trans rfl; have hfz7_0 := blk_frozen BK200.out 0; have hfz7_1 := blk_frozen BK200.out 1; have hfz7_2 := blk_frozen BK200.out 2; have hfz7_3 := blk_frozen BK200.out 3; have hfz7_4 := blk_frozen BK200.out 4; obtain ⟨Ao8, co8, eo8⟩ := Kd.R_slice HO196.out; subst eo8; obtain ⟨Ao9, co9, eo9⟩ := Kd.R_slice HO199.out; subst eo9; obtain ⟨Ao10, co10, eo10⟩ := Kd.R_slice HO_3.out; subst eo10))
          go_loopg [7, 8] k1 (fun kq v7 v8 w' => ∃ (x7_2 : Int) (x8_2 : Int), v7 = .int .i64 x7_2 ∧ v8 = .int .i64 x8_2 ∧ Aside0 (spec_UniqueNamed.l1 kq l0 x3_1 x4_1 t190 x7_2 x8_2 = some r) ∧ Aside0 (kq ≤ k1) ∧ Aside0 (Kd.R Kd.string 9 w' w.heap.size (fun k_ => some k_ ≠ ((.slice Ao8 t194.length co8) : Value).ownBlock) (.slice Ao10 x3_1.length co10) x3_1) ∧ Aside0 (Kd.R Kd.string 9 w' w.heap.size (fun k_ => some k_ ≠ ((.slice Ao10 x3_1.length co10) : Value).ownBlock) (.slice Ao8 t194.length co8) t194) ∧ Aside0 (Kd.R k26 26 w' w.heap.size (fun k_ => some k_ ≠ ((.slice Ao10 x3_1.length co10) : Value).ownBlock ∧ some k_ ≠ ((.slice Ao8 t194.length co8) : Value).ownBlock ∧ k_ ≠ gb200) (.slice Ao9 t197.length co9) t197) ∧ Aside0 (w'.heap[gb200]? = some (.cells #[.int .i64 t191, .int .i64 t192, .string t193, (.slice Ao8 t194.length co8), (.slice Ao9 t197.length co9)] 26 (0, 0))) ∧ Aside0 (Below w.heap.size w w'))
          case atStart => exact ⟨((x3_1.length : Int)), (0), (by first | rfl | (simp; done) | (simp [*]; done)), (by first | rfl | (simp; done) | (simp [*]; done)), H', ⟨Nat.le_refl _⟩, ⟨by (with_reducible repeat (first | apply Kd.R_alloc | apply Kd.R_drewN | apply Kd.R_drew)); exact Kd.R_mono (Kd.R_far (p := ⟨gb200, 4, none⟩) (Kd.R_far (p := ⟨gb200, 3, none⟩) (Kd.R_far (p := ⟨gb200, 2, none⟩) (Kd.R_far (p := ⟨gb200, 1, none⟩) (Kd.R_far (p := ⟨gb200, 0, none⟩) (Kd.R_types HO_3.out BK200.out (by decide)) (fun _ hk => hk.2) (.int .i64 t191)) (fun _ hk => hk.2) (.int .i64 t192)) (fun _ hk => hk.2) (.string t193)) (fun _ hk => hk.2) (.slice Ao8 t194.length co8)) (fun _ hk => hk.2) (.slice Ao9 t197.length co9)) (fun _ hk => hk.1.2)⟩, ⟨by (with_reducible repeat (first | apply Kd.R_alloc | apply Kd.R_drewN | apply Kd.R_drew)); exact Kd.R_mono (Kd.R_far (p := ⟨gb200, 4, none⟩) (Kd.R_far (p := ⟨gb200, 3, none⟩) (Kd.R_far (p := ⟨gb200, 2, none⟩) (Kd.R_far (p := ⟨gb200, 1, none⟩) (Kd.R_far (p := ⟨gb200, 0, none⟩) (Kd.R_types HO196.out BK200.out (by decide)) (fun _ hk => hk.2) (.int .i64 t191)) (fun _ hk => hk.2) (.int .i64 t192)) (fun _ hk => hk.2) (.string t193)) (fun _ hk => hk.2) (.slice Ao8 t194.length co8)) (fun _ hk => hk.2) (.slice Ao9 t197.length co9)) (fun _ hk => hk.1.2)⟩, ⟨by (with_reducible repeat (first | apply Kd.R_alloc | apply Kd.R_drewN | apply Kd.R_drew)); exact Kd.R_mono (Kd.R_far (p := ⟨gb200, 4, none⟩) (Kd.R_far (p := ⟨gb200, 3, none⟩) (Kd.R_far (p := ⟨gb200, 2, none⟩) (Kd.R_far (p := ⟨gb200, 1, none⟩) (Kd.R_far (p := ⟨gb200, 0, none⟩) (Kd.R_mono HO199.out (fun k_ hk => (⟨hk, hk.2⟩ : _ ∧ k_ ≠ gb200))) (fun _ hk => hk.2) (.int .i64 t191)) (fun _ hk => hk.2) (.int .i64 t192)) (fun _ hk => hk.2) (.string t193)) (fun _ hk => hk.2) (.slice Ao8 t194.length co8)) (fun _ hk => hk.2) (.slice Ao9 t197.length co9)) (fun _ hk => ⟨hk.1.1.2, ⟨hk.1.1.1, hk.1.2⟩⟩)⟩, ⟨by (with_reducible repeat (first | refine blk_drewN ?_ _ | refine blk_drew ?_ | refine blk_alloc ?_ _)); refine blk_put (cs := #[.int .i64 t191, .int .i64 t192, .string t193, .slice Ao8 t194.length co8, .slice none 0 0]) ?_ 4 _ rfl; (with_reducible repeat (first | refine blk_drewN ?_ _ | refine blk_drew ?_ | refine blk_alloc ?_ _)); refine blk_put (cs := #[.int .i64 t191, .int .i64 t192, .string t193, .slice none 0 0, .slice none 0 0]) ?_ 3 _ rfl; (with_reducible repeat (first | refine blk_drewN ?_ _ | refine blk_drew ?_ | refine blk_alloc ?_ _)); refine blk_put (cs := #[.int .i64 t191, .int .i64 t192, .string (⟨#[]⟩ : ByteArray), .slice none 0 0, .slice none 0 0]) ?_ 2 _ rfl; (with_reducible repeat (first | refine blk_drewN ?_ _ | refine blk_drew ?_ | refine blk_alloc ?_ _)); refine blk_put (cs := #[.int .i64 t191, .int .i64 0, .string (⟨#[]⟩ : ByteArray), .slice none 0 0, .slice none 0 0]) ?_ 1 _ rfl; (with_reducible repeat (first | refine blk_drewN ?_ _ | refine blk_drew ?_ | refine blk_alloc ?_ _)); refine blk_put (cs := #[.int .i64 0, .int .i64 0, .string (⟨#[]⟩ : ByteArray), .slice none 0 0, .slice none 0 0]) ?_ 0 _ rfl; (with_reducible repeat (first | refine blk_drewN ?_ _ | refine blk_drew ?_ | refine blk_alloc ?_ _)); exact BK200.out⟩, ⟨by repeat (first | (with_reducible first | exact HB.out | apply below_alloc | apply pw_below_drewN | apply below_drew1 | refine below_set ?_ GE200.out) | exact HB.out)⟩⟩
          case round =>
            clear H'
            try clear c1
            try clear p1
            try clear q1
            try clear hx1
            try clear c2
            try clear c2b0
            try clear p2
            try clear c3
            try clear c3b0
            try clear hcz7_0
            try clear hcz7_1
            try clear hcz7_2
            try clear hcz7_3
            try clear hcz7_4
            try clear hfz7_0
            try clear hfz7_1
            try clear hfz7_2
            try clear hfz7_3
            try clear hfz7_4
            try clear hx189_0
            try clear p189
            try clear q189
            obtain ⟨x7_2, x8_2, rfl, rfl, HA, HK2, HO_3, HO_201003, HO_201004, BK200, HB⟩ := hrel
            cases gk with
            | zero => exact absurd HA.out (by simp [spec_UniqueNamed.l1])
            | succ k2 =>
              have H := HA.out
              clear HA
              simp only [spec_UniqueNamed.l1] at H
              by_cases c11 : x8_2 < (x3_1.length : Int)
              · rw [if_pos c11] at H
                have c11b0 : decide (x8_2 < (x3_1.length : Int)) = true := decide_eq_true c11
                clear c11
                by_cases c12 : 0 ≤ x8_2
                · rw [if_pos c12] at H
                  have c12b0 : decide (0 ≤ x8_2) = true := decide_eq_true c12
                  clear c12
                  replace H := Option.bind_eq_some_iff.mp H
                  obtain ⟨⟨t202, t203, t204, t205, t206, t209⟩, A130, H⟩ := H
                  replace H : (if t202.toList = t190.toList then (spec_UniqueNamed.l1 k2 l0 x3_1 x4_1 t190 x8_2 (wrap64 (x8_2 + 1))) else (spec_UniqueNamed.l1 k2 l0 x3_1 x4_1 t190 x7_2 (wrap64 (x8_2 + 1)))) = some r := H
                  have A13 := Aside0.mk A130
                  clear A130
                  by_cases c14 : t202.toList = t190.toList
                  · rw [if_pos c14] at H
                    have c14b0 : (t202.toList == t190.toList) = true := beq_iff_eq.mpr c14
                    have c14b1 : (t202.toList != t190.toList) = false := bne_eq_false_iff_eq.mpr c14
                    clear c14
                    have H' := Aside0.mk H
                    clear H
                    have p201 : 0 ≤ (x8_2 : Int) := of_decide_eq_true (by first | (with_reducible assumption) | assumption)
                    have q201 : x8_2 < (x3_1.length : Int) := of_decide_eq_true (by first | (with_reducible assumption) | assumption)
                    obtain ⟨ad201, e201, hx201_0⟩ := Kd.at_string (Kd.R_reads' HO_3.out).2.2 x8_2 p201 q201
                    cases e201
                    replace p201 := eq_true p201
                    replace q201 := eq_true q201
                    go_wp2_with (first | ((with_reducible refine gate_callee (f := 32) rfl ?_); refine goesL_ (some 38) rfl rfl Tryz.func32 (by kernel_rfl) rfl #[.string (rdOf ByteArray.empty x3_1 x8_2)] rfl (by (try simp only [List.map_toArray, List.map_cons, List.map_nil]); first | done | rfl | (simp only [List.length_drop, List.length_take]; rfl)) ?_; (with_reducible refine (spec_mergeSplit.calls k2 (rdOf ByteArray.empty x3_1 x8_2) t202 t203 t204 t205 t206 t209 _ A13.out).mono ?_); rintro e w15 ⟨v207, v210, rfl, ho0, ho1, hb⟩; refine ⟨_, rfl, ?_⟩; have n0_ := Aside0.mk (Kd.R_elder' (by (with_reducible repeat (first | apply Kd.R_alloc | apply Kd.R_drewN | apply Kd.R_drew)); exact HO_3.out) (Kd.R_base ho0) hb); have n1_ := Aside0.mk (Kd.R_elder' (by (with_reducible repeat (first | apply Kd.R_alloc | apply Kd.R_drewN | apply Kd.R_drew)); exact HO_201003.out) (Kd.R_base ho0) hb); have n2_ := Aside0.mk (Kd.R_mono (Kd.R_told (Kd.R_told (Kd.R_old (by (with_reducible repeat (first | apply Kd.R_alloc | apply Kd.R_drewN | apply Kd.R_drew)); exact HO_201004.out) hb) (Kd.R_base ho0)) (Kd.R_base ho1)) (fun _ h_ => h_.1)); have n3_ := Aside0.mk (Kd.R_lower (Kd.R_new' (Kd.R_new' ho0 (Kd.R_lt (by (with_reducible repeat (first | apply Kd.R_alloc | apply Kd.R_drewN | apply Kd.R_drew)); exact HO_3.out))) (Kd.R_lt (by (with_reducible repeat (first | apply Kd.R_alloc | apply Kd.R_drewN | apply Kd.R_drew)); exact HO_201003.out))) (below_size (by repeat (first | (with_reducible first | exact HB.out | apply below_alloc | apply pw_below_drewN | apply below_drew1 | refine below_set ?_ GE200.out) | exact HB.out)))); have n4_ := Aside0.mk (Kd.R_lower (Kd.R_newB (Kd.R_new' (Kd.R_new' (Kd.R_new' ho1 (Kd.R_lt (by (with_reducible repeat (first | apply Kd.R_alloc | apply Kd.R_drewN | apply Kd.R_drew)); exact HO_3.out))) (Kd.R_lt (by (with_reducible repeat (first | apply Kd.R_alloc | apply Kd.R_drewN | apply Kd.R_drew)); exact HO_201003.out))) (Kd.R_lt (by (with_reducible repeat (first | apply Kd.R_alloc | apply Kd.R_drewN | apply Kd.R_drew)); exact HO_201004.out))) (g := gb200) (o := .cells #[.int .i64 t191, .int .i64 t192, .string t193, .slice Ao8 t194.length co8, .slice Ao9 t197.length co9] 26 (0, 0)) (by (with_reducible repeat (first | refine blk_drewN ?_ _ | refine blk_drew ?_ | refine blk_alloc ?_ _)); exact BK200.out)) (below_size (by repeat (first | (with_reducible first | exact HB.out | apply below_alloc | apply pw_below_drewN | apply below_drew1 | refine below_set ?_ GE200.out) | exact HB.out)))); have n5_ := Aside0.mk (blk_below (g := gb200) (o := .cells #[.int .i64 t191, .int .i64 t192, .string t193, .slice Ao8 t194.length co8, .slice Ao9 t197.length co9] 26 (0, 0)) (by (with_reducible repeat (first | refine blk_drewN ?_ _ | refine blk_drew ?_ | refine blk_alloc ?_ _)); exact BK200.out) hb); have n6_ := Aside0.mk (below_step (by repeat (first | (with_reducible first | exact HB.out | apply below_alloc | apply pw_below_drewN | apply below_drew1 | refine below_set ?_ GE200.out) | exact HB.out)) hb); clear HO_3; clear HO_201003; clear HO_201004; clear BK200; clear HB; have HO_3 := n0_; have HO_201003 := n1_; have HO_201004 := n2_; have HO208 := n3_; have HO211 := n4_; have BK200 := n5_; have HB := n6_; clear n0_ n1_ n2_ n3_ n4_ n5_ n6_; (try clear hb); (try clear hb2); (try clear hk); (try clear hi); (try clear ho0); (try clear ho1)) | ((with_reducible refine gate_dst (N := 10) rfl ?_); refine box_event ?hg (N := 10) ?hd (cs := #[.int .i64 0, .int .i64 0, .string (⟨#[]⟩ : ByteArray), .slice none 0 0, .slice none 0 0]) (t := 26) ?hr ?_; (case hd => rfl); (case hg => rfl); (case hr => first | (go_simp; done) | (go_simp; rfl)); intro gb212 hg w16 hbox hb; have n0_ := Aside0.mk (Kd.R_below (by (with_reducible repeat (first | apply Kd.R_alloc | apply Kd.R_drewN | apply Kd.R_drew)); exact HO_3.out) hb); have n1_ := Aside0.mk (Kd.R_below (by (with_reducible repeat (first | apply Kd.R_alloc | apply Kd.R_drewN | apply Kd.R_drew)); exact HO_201003.out) hb); have n2_ := Aside0.mk (Kd.R_below (Kd.R_elderB (by (with_reducible repeat (first | apply Kd.R_alloc | apply Kd.R_drewN | apply Kd.R_drew)); exact HO_201004.out) gb212 (Nat.le_of_eq hg.symm)) hb); have n3_ := Aside0.mk (Kd.R_below (by (with_reducible repeat (first | apply Kd.R_alloc | apply Kd.R_drewN | apply Kd.R_drew)); exact HO208.out) hb); have n4_ := Aside0.mk (Kd.R_below (Kd.R_elderB (by (with_reducible repeat (first | apply Kd.R_alloc | apply Kd.R_drewN | apply Kd.R_drew)); exact HO211.out) gb212 (Nat.le_of_eq hg.symm)) hb); have n5_ := Aside0.mk (blk_below (g := gb200) (o := .cells #[.int .i64 t191, .int .i64 t192, .string t193, .slice Ao8 t194.length co8, .slice Ao9 t197.length co9] 26 (0, 0)) (by (with_reducible repeat (first | refine blk_drewN ?_ _ | refine blk_drew ?_ | refine blk_alloc ?_ _)); exact BK200.out) hb); have n6_ := Aside0.mk (below_step (by repeat (first | (with_reducible first | exact HB.out | apply below_alloc | apply pw_below_drewN | apply below_drew1 | refine below_set ?_ GE200.out) | exact HB.out)) hb); have n7_ := Aside0.mk (hbox); have n8_ := Aside0.mk ((by rw [hg]; exact (below_size (by repeat (first | (with_reducible first | exact HB.out | apply below_alloc | apply pw_below_drewN | apply below_drew1 | refine below_set ?_ GE200.out) | exact HB.out))) : w.heap.size ≤ gb212)); have n9_ := Aside0.mk ((by rw [hg]; exact (below_size (by repeat (first | (with_reducible first | exact HB.out | apply below_alloc | apply pw_below_drewN | apply below_drew1 | refine below_set ?_ GE200.out) | exact HB.out))) : w.heap.size ≤ gb212)); have n10_ := Aside0.mk ((by rw [hg]; exact Nat.ne_of_lt (blk_lt (g := gb200) (o := .cells #[.int .i64 t191, .int .i64 t192, .string t193, .slice Ao8 t194.length co8, .slice Ao9 t197.length co9] 26 (0, 0)) (by (with_reducible repeat (first | refine blk_drewN ?_ _ | refine blk_drew ?_ | refine blk_alloc ?_ _)); exact BK200.out)) : gb200 ≠ gb212)); have n11_ := Aside0.mk ((by rw [hg]; exact Nat.ne_of_gt (blk_lt (g := gb200) (o := .cells #[.int .i64 t191, .int .i64 t192, .string t193, .slice Ao8 t194.length co8, .slice Ao9 t197.length co9] 26 (0, 0)) (by (with_reducible repeat (first | refine blk_drewN ?_ _ | refine blk_drew ?_ | refine blk_alloc ?_ _)); exact BK200.out)) : gb212 ≠ gb200)); clear HO_3; clear HO_201003; clear HO_201004; clear HO208; clear HO211; clear BK200; clear HB; have HO_3 := n0_; have HO_201003 := n1_; have HO_201004 := n2_; have HO208 := n3_; have HO211 := n4_; have BK200 := n5_; have HB := n6_; have BK212 := n7_; have GW212 := n8_; have GE212 := n9_; have NB200_212 := n10_; have NB212_200 := n11_; clear n0_ n1_ n2_ n3_ n4_ n5_ n6_ n7_ n8_ n9_ n10_ n11_; clear hb hbox hg; have hnb17 := NB212_200.out; have hnc17 := NB200_212.out; have hcz18_0 : w16.cell? ⟨gb212, 0, none⟩ = some (.int .i64 0) := (blk_cell BK212.out 0).trans rfl; have hcz18_1 : w16.cell? ⟨gb212, 1, none⟩ = some (.int .i64 0) := (blk_cell BK212.out 1).trans rfl; have hcz18_2 : w16.cell? ⟨gb212, 2, none⟩ = some (.string (⟨#[]⟩ : ByteArray)) := (blk_cell BK212.out 2).trans rfl; have hcz18_3 : w16.cell? ⟨gb212, 3, none⟩ = some (.slice none 0 0) := (blk_cell BK212.out 3).trans rfl; have hcz18_4 : w16.cell? ⟨gb212, 4, none⟩ = some (.slice none 0 0) := (blk_cell BK212.out 4).trans rfl; have hfz18_0 := blk_frozen BK212.out 0; have hfz18_1 := blk_frozen BK212.out 1; have hfz18_2 := blk_frozen BK212.out 2; have hfz18_3 := blk_frozen BK212.out 3; have hfz18_4 := blk_frozen BK212.out 4; obtain ⟨Ao19, co19, eo19⟩ := Kd.R_slice HO208.out; subst eo19; obtain ⟨Ao20, co20, eo20⟩ := Kd.R_slice HO211.out; subst eo20))
                    go_roundg k2
                    case measure => have := HK1.out; have := HK2.out; omega
                    case rel => exact ⟨(x8_2), (wrap64 (x8_2 + 1)), (by first | rfl | (simp; done) | (simp [*]; done)), (by first | rfl | (simp; done) | (simp [*]; done)), H', ⟨by have := HK1.out; have := HK2.out; omega⟩, ⟨by (with_reducible repeat (first | apply Kd.R_alloc | apply Kd.R_drewN | apply Kd.R_drew)); exact Kd.R_mono (Kd.R_far (p := ⟨gb212, 4, none⟩) (Kd.R_far (p := ⟨gb212, 3, none⟩) (Kd.R_far (p := ⟨gb212, 2, none⟩) (Kd.R_far (p := ⟨gb212, 1, none⟩) (Kd.R_far (p := ⟨gb212, 0, none⟩) (Kd.R_types HO_3.out BK212.out (by decide)) (fun _ hk => hk.2) (.int .i64 t203)) (fun _ hk => hk.2) (.int .i64 t204)) (fun _ hk => hk.2) (.string t205)) (fun _ hk => hk.2) (.slice Ao19 t206.length co19)) (fun _ hk => hk.2) (.slice Ao20 t209.length co20)) (fun _ hk => hk.1.1)⟩, ⟨by (with_reducible repeat (first | apply Kd.R_alloc | apply Kd.R_drewN | apply Kd.R_drew)); exact Kd.R_mono (Kd.R_far (p := ⟨gb212, 4, none⟩) (Kd.R_far (p := ⟨gb212, 3, none⟩) (Kd.R_far (p := ⟨gb212, 2, none⟩) (Kd.R_far (p := ⟨gb212, 1, none⟩) (Kd.R_far (p := ⟨gb212, 0, none⟩) (Kd.R_types HO_201003.out BK212.out (by decide)) (fun _ hk => hk.2) (.int .i64 t203)) (fun _ hk => hk.2) (.int .i64 t204)) (fun _ hk => hk.2) (.string t205)) (fun _ hk => hk.2) (.slice Ao19 t206.length co19)) (fun _ hk => hk.2) (.slice Ao20 t209.length co20)) (fun _ hk => hk.1.1)⟩, ⟨by (with_reducible repeat (first | apply Kd.R_alloc | apply Kd.R_drewN | apply Kd.R_drew)); exact Kd.R_mono (Kd.R_far (p := ⟨gb212, 4, none⟩) (Kd.R_far (p := ⟨gb212, 3, none⟩) (Kd.R_far (p := ⟨gb212, 2, none⟩) (Kd.R_far (p := ⟨gb212, 1, none⟩) (Kd.R_far (p := ⟨gb212, 0, none⟩) (Kd.R_mono HO_201004.out (fun k_ hk => (⟨hk, hk.2⟩ : _ ∧ k_ ≠ gb212))) (fun _ hk => hk.2) (.int .i64 t203)) (fun _ hk => hk.2) (.int .i64 t204)) (fun _ hk => hk.2) (.string t205)) (fun _ hk => hk.2) (.slice Ao19 t206.length co19)) (fun _ hk => hk.2) (.slice Ao20 t209.length co20)) (fun _ hk => ⟨hk.1.1.1.1.1, ⟨hk.1.1.1.1.2.1, hk.1.1.1.1.2.2⟩⟩)⟩, ⟨by (with_reducible repeat (first | refine blk_drewN ?_ _ | refine blk_drew ?_ | refine blk_alloc ?_ _)); refine blk_far ?_ NB200_212.out _; (with_reducible repeat (first | refine blk_drewN ?_ _ | refine blk_drew ?_ | refine blk_alloc ?_ _)); refine blk_far ?_ NB200_212.out _; (with_reducible repeat (first | refine blk_drewN ?_ _ | refine blk_drew ?_ | refine blk_alloc ?_ _)); refine blk_far ?_ NB200_212.out _; (with_reducible repeat (first | refine blk_drewN ?_ _ | refine blk_drew ?_ | refine blk_alloc ?_ _)); refine blk_far ?_ NB200_212.out _; (with_reducible repeat (first | refine blk_drewN ?_ _ | refine blk_drew ?_ | refine blk_alloc ?_ _)); refine blk_far ?_ NB200_212.out _; (with_reducible repeat (first | refine blk_drewN ?_ _ | refine blk_drew ?_ | refine blk_alloc ?_ _)); exact BK200.out⟩, ⟨by repeat (first | (with_reducible first | exact HB.out | apply below_alloc | apply pw_below_drewN | apply below_drew1 | refine below_set ?_ GE200.out | refine below_set ?_ GE212.out) | exact HB.out)⟩⟩
                  · rw [if_neg c14] at H
                    have c14b0 : (t202.toList == t190.toList) = false := beq_eq_false_iff_ne.mpr c14
                    have c14b1 : (t202.toList != t190.toList) = true := bne_iff_ne.mpr c14
                    have H' := Aside0.mk H
                    clear H
                    have p201 : 0 ≤ (x8_2 : Int) := of_decide_eq_true (by first | (with_reducible assumption) | assumption)
                    have q201 : x8_2 < (x3_1.length : Int) := of_decide_eq_true (by first | (with_reducible assumption) | assumption)
                    obtain ⟨ad201, e201, hx201_0⟩ := Kd.at_string (Kd.R_reads' HO_3.out).2.2 x8_2 p201 q201
                    cases e201
                    replace p201 := eq_true p201
                    replace q201 := eq_true q201
                    go_wp2_with (first | ((with_reducible refine gate_callee (f := 32) rfl ?_); refine goesL_ (some 38) rfl rfl Tryz.func32 (by kernel_rfl) rfl #[.string (rdOf ByteArray.empty x3_1 x8_2)] rfl (by (try simp only [List.map_toArray, List.map_cons, List.map_nil]); first | done | rfl | (simp only [List.length_drop, List.length_take]; rfl)) ?_; (with_reducible refine (spec_mergeSplit.calls k2 (rdOf ByteArray.empty x3_1 x8_2) t202 t203 t204 t205 t206 t209 _ A13.out).mono ?_); rintro e w21 ⟨v207, v210, rfl, ho0, ho1, hb⟩; refine ⟨_, rfl, ?_⟩; have n0_ := Aside0.mk (Kd.R_elder' (by (with_reducible repeat (first | apply Kd.R_alloc | apply Kd.R_drewN | apply Kd.R_drew)); exact HO_3.out) (Kd.R_base ho0) hb); have n1_ := Aside0.mk (Kd.R_elder' (by (with_reducible repeat (first | apply Kd.R_alloc | apply Kd.R_drewN | apply Kd.R_drew)); exact HO_201003.out) (Kd.R_base ho0) hb); have n2_ := Aside0.mk (Kd.R_mono (Kd.R_told (Kd.R_told (Kd.R_old (by (with_reducible repeat (first | apply Kd.R_alloc | apply Kd.R_drewN | apply Kd.R_drew)); exact HO_201004.out) hb) (Kd.R_base ho0)) (Kd.R_base ho1)) (fun _ h_ => h_.1)); have n3_ := Aside0.mk (Kd.R_lower (Kd.R_new' (Kd.R_new' ho0 (Kd.R_lt (by (with_reducible repeat (first | apply Kd.R_alloc | apply Kd.R_drewN | apply Kd.R_drew)); exact HO_3.out))) (Kd.R_lt (by (with_reducible repeat (first | apply Kd.R_alloc | apply Kd.R_drewN | apply Kd.R_drew)); exact HO_201003.out))) (below_size (by repeat (first | (with_reducible first | exact HB.out | apply below_alloc | apply pw_below_drewN | apply below_drew1 | refine below_set ?_ GE200.out) | exact HB.out)))); have n4_ := Aside0.mk (Kd.R_lower (Kd.R_newB (Kd.R_new' (Kd.R_new' (Kd.R_new' ho1 (Kd.R_lt (by (with_reducible repeat (first | apply Kd.R_alloc | apply Kd.R_drewN | apply Kd.R_drew)); exact HO_3.out))) (Kd.R_lt (by (with_reducible repeat (first | apply Kd.R_alloc | apply Kd.R_drewN | apply Kd.R_drew)); exact HO_201003.out))) (Kd.R_lt (by (with_reducible repeat (first | apply Kd.R_alloc | apply Kd.R_drewN | apply Kd.R_drew)); exact HO_201004.out))) (g := gb200) (o := .cells #[.int .i64 t191, .int .i64 t192, .string t193, .slice Ao8 t194.length co8, .slice Ao9 t197.length co9] 26 (0, 0)) (by (with_reducible repeat (first | refine blk_drewN ?_ _ | refine blk_drew ?_ | refine blk_alloc ?_ _)); exact BK200.out)) (below_size (by repeat (first | (with_reducible first | exact HB.out | apply below_alloc | apply pw_below_drewN | apply below_drew1 | refine below_set ?_ GE200.out) | exact HB.out)))); have n5_ := Aside0.mk (blk_below (g := gb200) (o := .cells #[.int .i64 t191, .int .i64 t192, .string t193, .slice Ao8 t194.length co8, .slice Ao9 t197.length co9] 26 (0, 0)) (by (with_reducible repeat (first | refine blk_drewN ?_ _ | refine blk_drew ?_ | refine blk_alloc ?_ _)); exact BK200.out) hb); have n6_ := Aside0.mk (below_step (by repeat (first | (with_reducible first | exact HB.out | apply below_alloc | apply pw_below_drewN | apply below_drew1 | refine below_set ?_ GE200.out) | exact HB.out)) hb); clear HO_3; clear HO_201003; clear HO_201004; clear BK200; clear HB; have HO_3 := n0_; have HO_201003 := n1_; have HO_201004 := n2_; have HO208 := n3_; have HO211 := n4_; have BK200 := n5_; have HB := n6_; clear n0_ n1_ n2_ n3_ n4_ n5_ n6_; (try clear hb); (try clear hb2); (try clear hk); (try clear hi); (try clear ho0); (try clear ho1)) | ((with_reducible refine gate_dst (N := 10) rfl ?_); refine box_event ?hg (N := 10) ?hd (cs := #[.int .i64 0, .int .i64 0, .string (⟨#[]⟩ : ByteArray), .slice none 0 0, .slice none 0 0]) (t := 26) ?hr ?_; (case hd => rfl); (case hg => rfl); (case hr => first | (go_simp; done) | (go_simp; rfl)); intro gb212 hg w22 hbox hb; have n0_ := Aside0.mk (Kd.R_below (by (with_reducible repeat (first | apply Kd.R_alloc | apply Kd.R_drewN | apply Kd.R_drew)); exact HO_3.out) hb); have n1_ := Aside0.mk (Kd.R_below (by (with_reducible repeat (first | apply Kd.R_alloc | apply Kd.R_drewN | apply Kd.R_drew)); exact HO_201003.out) hb); have n2_ := Aside0.mk (Kd.R_below (Kd.R_elderB (by (with_reducible repeat (first | apply Kd.R_alloc | apply Kd.R_drewN | apply Kd.R_drew)); exact HO_201004.out) gb212 (Nat.le_of_eq hg.symm)) hb); have n3_ := Aside0.mk (Kd.R_below (by (with_reducible repeat (first | apply Kd.R_alloc | apply Kd.R_drewN | apply Kd.R_drew)); exact HO208.out) hb); have n4_ := Aside0.mk (Kd.R_below (Kd.R_elderB (by (with_reducible repeat (first | apply Kd.R_alloc | apply Kd.R_drewN | apply Kd.R_drew)); exact HO211.out) gb212 (Nat.le_of_eq hg.symm)) hb); have n5_ := Aside0.mk (blk_below (g := gb200) (o := .cells #[.int .i64 t191, .int .i64 t192, .string t193, .slice Ao8 t194.length co8, .slice Ao9 t197.length co9] 26 (0, 0)) (by (with_reducible repeat (first | refine blk_drewN ?_ _ | refine blk_drew ?_ | refine blk_alloc ?_ _)); exact BK200.out) hb); have n6_ := Aside0.mk (below_step (by repeat (first | (with_reducible first | exact HB.out | apply below_alloc | apply pw_below_drewN | apply below_drew1 | refine below_set ?_ GE200.out) | exact HB.out)) hb); have n7_ := Aside0.mk (hbox); have n8_ := Aside0.mk ((by rw [hg]; exact (below_size (by repeat (first | (with_reducible first | exact HB.out | apply below_alloc | apply pw_below_drewN | apply below_drew1 | refine below_set ?_ GE200.out) | exact HB.out))) : w.heap.size ≤ gb212)); have n9_ := Aside0.mk ((by rw [hg]; exact (below_size (by repeat (first | (with_reducible first | exact HB.out | apply below_alloc | apply pw_below_drewN | apply below_drew1 | refine below_set ?_ GE200.out) | exact HB.out))) : w.heap.size ≤ gb212)); have n10_ := Aside0.mk ((by rw [hg]; exact Nat.ne_of_lt (blk_lt (g := gb200) (o := .cells #[.int .i64 t191, .int .i64 t192, .string t193, .slice Ao8 t194.length co8, .slice Ao9 t197.length co9] 26 (0, 0)) (by (with_reducible repeat (first | refine blk_drewN ?_ _ | refine blk_drew ?_ | refine blk_alloc ?_ _)); exact BK200.out)) : gb200 ≠ gb212)); have n11_ := Aside0.mk ((by rw [hg]; exact Nat.ne_of_gt (blk_lt (g := gb200) (o := .cells #[.int .i64 t191, .int .i64 t192, .string t193, .slice Ao8 t194.length co8, .slice Ao9 t197.length co9] 26 (0, 0)) (by (with_reducible repeat (first | refine blk_drewN ?_ _ | refine blk_drew ?_ | refine blk_alloc ?_ _)); exact BK200.out)) : gb212 ≠ gb200)); clear HO_3; clear HO_201003; clear HO_201004; clear HO208; clear HO211; clear BK200; clear HB; have HO_3 := n0_; have HO_201003 := n1_; have HO_201004 := n2_; have HO208 := n3_; have HO211 := n4_; have BK200 := n5_; have HB := n6_; have BK212 := n7_; have GW212 := n8_; have GE212 := n9_; have NB200_212 := n10_; have NB212_200 := n11_; clear n0_ n1_ n2_ n3_ n4_ n5_ n6_ n7_ n8_ n9_ n10_ n11_; clear hb hbox hg; have hnb23 := NB212_200.out; have hnc23 := NB200_212.out; have hcz24_0 : w22.cell? ⟨gb212, 0, none⟩ = some (.int .i64 0) := (blk_cell BK212.out 0).trans rfl; have hcz24_1 : w22.cell? ⟨gb212, 1, none⟩ = some (.int .i64 0) := (blk_cell BK212.out 1).trans rfl; have hcz24_2 : w22.cell? ⟨gb212, 2, none⟩ = some (.string (⟨#[]⟩ : ByteArray)) := (blk_cell BK212.out 2).trans rfl; have hcz24_3 : w22.cell? ⟨gb212, 3, none⟩ = some (.slice none 0 0) := (blk_cell BK212.out 3).trans rfl; have hcz24_4 : w22.cell? ⟨gb212, 4, none⟩ = some (.slice none 0 0) := (blk_cell BK212.out 4).trans rfl; have hfz24_0 := blk_frozen BK212.out 0; have hfz24_1 := blk_frozen BK212.out 1; have hfz24_2 := blk_frozen BK212.out 2; have hfz24_3 := blk_frozen BK212.out 3; have hfz24_4 := blk_frozen BK212.out 4; obtain ⟨Ao25, co25, eo25⟩ := Kd.R_slice HO208.out; subst eo25; obtain ⟨Ao26, co26, eo26⟩ := Kd.R_slice HO211.out; subst eo26))
                    go_roundg k2
                    case measure => have := HK1.out; have := HK2.out; omega
                    case rel => exact ⟨(x7_2), (wrap64 (x8_2 + 1)), (by first | rfl | (simp; done) | (simp [*]; done)), (by first | rfl | (simp; done) | (simp [*]; done)), H', ⟨by have := HK1.out; have := HK2.out; omega⟩, ⟨by (with_reducible repeat (first | apply Kd.R_alloc | apply Kd.R_drewN | apply Kd.R_drew)); exact Kd.R_mono (Kd.R_far (p := ⟨gb212, 4, none⟩) (Kd.R_far (p := ⟨gb212, 3, none⟩) (Kd.R_far (p := ⟨gb212, 2, none⟩) (Kd.R_far (p := ⟨gb212, 1, none⟩) (Kd.R_far (p := ⟨gb212, 0, none⟩) (Kd.R_types HO_3.out BK212.out (by decide)) (fun _ hk => hk.2) (.int .i64 t203)) (fun _ hk => hk.2) (.int .i64 t204)) (fun _ hk => hk.2) (.string t205)) (fun _ hk => hk.2) (.slice Ao25 t206.length co25)) (fun _ hk => hk.2) (.slice Ao26 t209.length co26)) (fun _ hk => hk.1.1)⟩, ⟨by (with_reducible repeat (first | apply Kd.R_alloc | apply Kd.R_drewN | apply Kd.R_drew)); exact Kd.R_mono (Kd.R_far (p := ⟨gb212, 4, none⟩) (Kd.R_far (p := ⟨gb212, 3, none⟩) (Kd.R_far (p := ⟨gb212, 2, none⟩) (Kd.R_far (p := ⟨gb212, 1, none⟩) (Kd.R_far (p := ⟨gb212, 0, none⟩) (Kd.R_types HO_201003.out BK212.out (by decide)) (fun _ hk => hk.2) (.int .i64 t203)) (fun _ hk => hk.2) (.int .i64 t204)) (fun _ hk => hk.2) (.string t205)) (fun _ hk => hk.2) (.slice Ao25 t206.length co25)) (fun _ hk => hk.2) (.slice Ao26 t209.length co26)) (fun _ hk => hk.1.1)⟩, ⟨by (with_reducible repeat (first | apply Kd.R_alloc | apply Kd.R_drewN | apply Kd.R_drew)); exact Kd.R_mono (Kd.R_far (p := ⟨gb212, 4, none⟩) (Kd.R_far (p := ⟨gb212, 3, none⟩) (Kd.R_far (p := ⟨gb212, 2, none⟩) (Kd.R_far (p := ⟨gb212, 1, none⟩) (Kd.R_far (p := ⟨gb212, 0, none⟩) (Kd.R_mono HO_201004.out (fun k_ hk => (⟨hk, hk.2⟩ : _ ∧ k_ ≠ gb212))) (fun _ hk => hk.2) (.int .i64 t203)) (fun _ hk => hk.2) (.int .i64 t204)) (fun _ hk => hk.2) (.string t205)) (fun _ hk => hk.2) (.slice Ao25 t206.length co25)) (fun _ hk => hk.2) (.slice Ao26 t209.length co26)) (fun _ hk => ⟨hk.1.1.1.1.1, ⟨hk.1.1.1.1.2.1, hk.1.1.1.1.2.2⟩⟩)⟩, ⟨by (with_reducible repeat (first | refine blk_drewN ?_ _ | refine blk_drew ?_ | refine blk_alloc ?_ _)); refine blk_far ?_ NB200_212.out _; (with_reducible repeat (first | refine blk_drewN ?_ _ | refine blk_drew ?_ | refine blk_alloc ?_ _)); refine blk_far ?_ NB200_212.out _; (with_reducible repeat (first | refine blk_drewN ?_ _ | refine blk_drew ?_ | refine blk_alloc ?_ _)); refine blk_far ?_ NB200_212.out _; (with_reducible repeat (first | refine blk_drewN ?_ _ | refine blk_drew ?_ | refine blk_alloc ?_ _)); refine blk_far ?_ NB200_212.out _; (with_reducible repeat (first | refine blk_drewN ?_ _ | refine blk_drew ?_ | refine blk_alloc ?_ _)); refine blk_far ?_ NB200_212.out _; (with_reducible repeat (first | refine blk_drewN ?_ _ | refine blk_drew ?_ | refine blk_alloc ?_ _)); exact BK200.out⟩, ⟨by repeat (first | (with_reducible first | exact HB.out | apply below_alloc | apply pw_below_drewN | apply below_drew1 | refine below_set ?_ GE200.out | refine below_set ?_ GE212.out) | exact HB.out)⟩⟩
                · rw [if_neg c12] at H
                  exact absurd H (by simp)
              · rw [if_neg c11] at H
                have c11b0 : decide (x8_2 < (x3_1.length : Int)) = false := decide_eq_false c11
                clear c11
                by_cases c27 : x7_2 = (x3_1.length : Int)
                · rw [if_pos c27] at H
                  have c27b0 : (x7_2 == (x3_1.length : Int)) = true := beq_iff_eq.mpr c27
                  have c27b1 : (x7_2 != (x3_1.length : Int)) = false := bne_eq_false_iff_eq.mpr c27
                  clear c27
                  by_cases c28 : x3_1.length < 8796093022208
                  · rw [if_pos c28] at H
                    have LMc28 := Aside0.mk c28
                    clear c28
                    obtain ⟨y213, hy213⟩ : ∃ y_ : List ByteArray, y_ = (x3_1 ++ [(⟨#[]⟩ : ByteArray)]) := ⟨_, rfl⟩
                    replace H : (if 0 ≤ x4_1 then (if x4_1 < (l0.length : Int) then (if 0 ≤ x7_2 then (if x7_2 < (y213.length : Int) then (spec_UniqueNamed.l0 k2 l0 (y213.set (x7_2 : Int).toNat (rdOf ByteArray.empty l0 x4_1)) (wrap64 (x4_1 + 1))) else (none)) else (none)) else (none)) else (none)) = some r := by first | (rw [hy213]; with_reducible exact H) | (have H2_ := (Option.bind_some _ _).symm.trans H; rw [hy213]; with_reducible exact H2_) | (have H2_ := (Option.bind_some _ _).symm.trans H; with_reducible exact H2_) | with_reducible exact H | (rw [hy213]; exact H) | exact H
                    have Ny213 := Aside0.mk hy213
                    clear hy213
                    by_cases c29 : 0 ≤ x4_1
                    · rw [if_pos c29] at H
                      have c29b0 : decide (0 ≤ x4_1) = true := decide_eq_true c29
                      clear c29
                      by_cases c30 : x4_1 < (l0.length : Int)
                      · rw [if_pos c30] at H
                        have c30b0 : decide (x4_1 < (l0.length : Int)) = true := decide_eq_true c30
                        clear c30
                        by_cases c31 : 0 ≤ x7_2
                        · rw [if_pos c31] at H
                          have c31b0 : decide (0 ≤ x7_2) = true := decide_eq_true c31
                          clear c31
                          by_cases c32 : x7_2 < (y213.length : Int)
                          · rw [if_pos c32] at H
                            have c32b0 : decide (x7_2 < (y213.length : Int)) = true := decide_eq_true c32
                            clear c32
                            obtain ⟨y217, hy217⟩ : ∃ y_ : List ByteArray, y_ = (y213.set (x7_2 : Int).toNat (rdOf ByteArray.empty l0 x4_1)) := ⟨_, rfl⟩
                            replace H : (spec_UniqueNamed.l0 k2 l0 y217 (wrap64 (x4_1 + 1))) = some r := by first | (rw [hy217]; with_reducible exact H) | (have H2_ := (Option.bind_some _ _).symm.trans H; rw [hy217]; with_reducible exact H2_) | (have H2_ := (Option.bind_some _ _).symm.trans H; with_reducible exact H2_) | with_reducible exact H | (rw [hy217]; exact H) | exact H
                            have Ny217 := Aside0.mk hy217
                            clear hy217
                            have H' := Aside0.mk H
                            clear H
                            go_wp2_with (first | ((with_reducible refine gate_builtin (b := .append) (xs := #[.tmp 49, .tmp 50]) rfl ?_); at_builtin; refine Kd.R_append Kd.string (w0 := w) w.heap.size rfl (.tmp 49) (.tmp 50) 22 9 (.string ⟨#[]⟩) 16 rfl Tryz.underlying22 info9 rfl (by decide) (by omega) (.slice Ao10 x3_1.length co10) x3_1 (⟨#[]⟩ : ByteArray) [.string (⟨#[]⟩ : ByteArray)] (fun k_ => some k_ ≠ (.slice Ao8 t194.length co8 : Value).ownBlock) (fun _ => False) rfl rfl ?aP (fun _ hk => hk.elim) ?aF ?aO ?aB ?aS ?aL ?_; (case aP => exact rfl); (case aB => exact (by repeat (first | (with_reducible first | exact HB.out | apply below_alloc | apply pw_below_drewN | apply below_drew1 | refine below_set ?_ GE200.out) | exact HB.out))); (case aF => exact (fun k_ hk => Kd.fresh' (Kd.R_lt (by (with_reducible repeat (first | apply Kd.R_alloc | apply Kd.R_drewN | apply Kd.R_drew)); exact HO_201003.out)) k_ hk)); (case aO => exact (by (with_reducible repeat (first | apply Kd.R_alloc | apply Kd.R_drewN | apply Kd.R_drew)); exact HO_3.out)); (case aS => exact (below_size (by repeat (first | (with_reducible first | exact HB.out | apply below_alloc | apply pw_below_drewN | apply below_drew1 | refine below_set ?_ GE200.out) | exact HB.out)))); (case aL => have := LMc28.out; omega); intro v214 w34 ho hb hg hat; rw [← Ny213.out] at ho; have n0_ := Aside0.mk (Kd.R_after (ok := (fun _ => True)) (by (with_reducible repeat (first | apply Kd.R_alloc | apply Kd.R_drewN | apply Kd.R_drew)); exact Kd.R_mono HO_201003.out (fun _ hk => ⟨trivial, hk⟩)) hg hat); have n1_ := Aside0.mk (Kd.R_after (ok := (fun k_ => some k_ ≠ (.slice Ao8 t194.length co8 : Value).ownBlock ∧ k_ ≠ gb200)) (by (with_reducible repeat (first | apply Kd.R_alloc | apply Kd.R_drewN | apply Kd.R_drew)); exact Kd.R_mono HO_201004.out (fun _ hk => ⟨⟨hk.2.1, hk.2.2⟩, hk.1⟩)) hg hat); have n2_ := Aside0.mk (blk_grown (g := gb200) (o := .cells #[.int .i64 t191, .int .i64 t192, .string t193, .slice Ao8 t194.length co8, .slice Ao9 t197.length co9] 26 (0, 0)) (by (with_reducible repeat (first | refine blk_drewN ?_ _ | refine blk_drew ?_ | refine blk_alloc ?_ _)); exact BK200.out) hg (Kd.R_ne HO_3.out BK200.out (by decide))); have n3_ := Aside0.mk (hb); have n4_ := Aside0.mk (ho); clear HO_201003; clear HO_201004; clear BK200; clear HB; clear HO_3; have HO_201003 := n0_; have HO_201004 := n1_; have BK200 := n2_; have HB := n3_; have HO215 := n4_; clear n0_ n1_ n2_ n3_ n4_; clear ho hb hg hat; have p216 : 0 ≤ (x4_1 : Int) := of_decide_eq_true (by first | (with_reducible assumption) | assumption); have q216 : x4_1 < (l0.length : Int) := of_decide_eq_true (by first | (with_reducible assumption) | assumption); obtain ⟨ad216, e216, hx216_0⟩ := Kd.at_string HR0.out x4_1 p216 q216; obtain rfl : ad189 = ad216 := (by injection e216); replace hx216_0 := (HB.out.cell (World.block_lt_of_cell? w _ hx216_0)).trans hx216_0; replace p216 := eq_true p216; replace q216 := eq_true q216; have p33 : 0 ≤ (x7_2 : Int) := of_decide_eq_true (by first | (with_reducible assumption) | assumption); have q33 : (x7_2 : Int) < ((y213.length : Int) : Int) := of_decide_eq_true (by first | (with_reducible assumption) | assumption); obtain ⟨go33, co33, eo33, gb33, gl33, cl33, HG33⟩ := Kd.R_form HO215.out (by omega); (first | cases eo33 | (injection eo33 with ea_ en_ ec_; (first | subst ea_ | (injection ea_ with ea_; subst ea_)); subst ec_; clear en_)); have GB33 := Aside0.mk gb33; have GG33 := Aside0.mk HG33; clear gb33 gl33 HG33; obtain ⟨hx33_0, hf33_0⟩ := Kd.R_celln (⟨#[]⟩ : ByteArray) HO215.out (x7_2 : Int) p33 q33; replace p33 := eq_true p33; replace q33 := eq_true q33; obtain ⟨hy35_, hz35_⟩ := Kd.R_celln (⟨#[]⟩ : ByteArray) HO215.out (x7_2 : Int) (of_decide_eq_true (by first | (with_reducible assumption) | assumption)) (of_decide_eq_true (by first | (with_reducible assumption) | assumption)); have HP35 := Kd.R_putg HO215.out (x7_2 : Int) (rdOf ByteArray.empty l0 x4_1)) | ((with_reducible refine gate_store (t := 9) (p := 58) rfl ?_); refine store_event (t := 9) (p := 58) (v := ?vo_w36) (w1 := (w34.setCell ⟨go33, (x7_2 : Int).toNat, none⟩ (.string (rdOf ByteArray.empty l0 x4_1)))) ?hg ?ho ?hn ?hr ?_; (case ho => rfl); (case hg => rfl); (case hn => rfl); (case hr => first | (go_simp; done) | (go_simp; rfl)); intro w36 hw; have hg : w34.grownBy w36 (some go33) := (by rw [hw]; exact HP35.2); have hp_ : Kd.R Kd.string 9 w36 w.heap.size (fun k_ => some k_ ≠ (.slice Ao8 t194.length co8 : Value).ownBlock) (.slice (some ⟨go33, 0, none⟩) y213.length co33) y217 := (by rw [hw, Ny217.out]; exact HP35.1); clear HP35; have n0_ := Aside0.mk (Kd.R_after (v := (.slice (some ⟨go33, 0, none⟩) y213.length co33)) (v1 := (.slice (some ⟨go33, 0, none⟩) y213.length co33)) (ok := (fun _ => True)) (by (with_reducible repeat (first | apply Kd.R_alloc | apply Kd.R_drewN | apply Kd.R_drew)); exact HO_201003.out) hg (.inl rfl)); have n1_ := Aside0.mk (Kd.R_after (v := (.slice (some ⟨go33, 0, none⟩) y213.length co33)) (v1 := (.slice (some ⟨go33, 0, none⟩) y213.length co33)) (ok := (fun k_ => some k_ ≠ (.slice Ao8 t194.length co8 : Value).ownBlock ∧ k_ ≠ gb200)) (by (with_reducible repeat (first | apply Kd.R_alloc | apply Kd.R_drewN | apply Kd.R_drew)); exact HO_201004.out) hg (.inl rfl)); have n2_ := Aside0.mk (blk_grown (g := gb200) (o := .cells #[.int .i64 t191, .int .i64 t192, .string t193, .slice Ao8 t194.length co8, .slice Ao9 t197.length co9] 26 (0, 0)) (by (with_reducible repeat (first | refine blk_drewN ?_ _ | refine blk_drew ?_ | refine blk_alloc ?_ _)); exact BK200.out) hg (Kd.R_ne HO215.out BK200.out (by decide))); have n3_ := Aside0.mk (hp_); have n4_ := Aside0.mk ((by rw [hw]; exact below_set (HB.out) GB33.out : Below w.heap.size w w36)); clear HO_201003; clear HO_201004; clear BK200; clear HO215; clear HB; have HO_201003 := n0_; have HO_201004 := n1_; have BK200 := n2_; have HO215 := n3_; have HB := n4_; clear n0_ n1_ n2_ n3_ n4_; clear hg hw hp_))
                            go_roundg k2
                            case measure => have := HK1.out; have := HK2.out; omega
                            case rel => exact ⟨(y217), (wrap64 (x4_1 + 1)), (by first | rfl | (simp; done) | (simp [*]; done)), H', ⟨by have := HK1.out; have := HK2.out; omega⟩, ⟨by (with_reducible repeat (first | apply Kd.R_alloc | apply Kd.R_drewN | apply Kd.R_drew)); exact Kd.R_mono HO215.out (fun _ hk => trivial)⟩, ⟨by repeat (first | (with_reducible first | exact HB.out | apply below_alloc | apply pw_below_drewN | apply below_drew1 | refine below_set ?_ GE200.out) | exact HB.out)⟩⟩
                          · rw [if_neg c32] at H
                            exact absurd H (by simp)
                        · rw [if_neg c31] at H
                          exact absurd H (by simp)
                      · rw [if_neg c30] at H
                        exact absurd H (by simp)
                    · rw [if_neg c29] at H
                      exact absurd H (by simp)
                  · rw [if_neg c28] at H
                    exact absurd H (by simp)
                · rw [if_neg c27] at H
                  have c27b0 : (x7_2 == (x3_1.length : Int)) = false := beq_eq_false_iff_ne.mpr c27
                  have c27b1 : (x7_2 != (x3_1.length : Int)) = true := bne_iff_ne.mpr c27
                  by_cases c37 : 0 ≤ x4_1
                  · rw [if_pos c37] at H
                    have c37b0 : decide (0 ≤ x4_1) = true := decide_eq_true c37
                    clear c37
                    by_cases c38 : x4_1 < (l0.length : Int)
                    · rw [if_pos c38] at H
                      have c38b0 : decide (x4_1 < (l0.length : Int)) = true := decide_eq_true c38
                      clear c38
                      by_cases c39 : 0 ≤ x7_2
                      · rw [if_pos c39] at H
                        have c39b0 : decide (0 ≤ x7_2) = true := decide_eq_true c39
                        clear c39
                        by_cases c40 : x7_2 < (x3_1.length : Int)
                        · rw [if_pos c40] at H
                          have c40b0 : decide (x7_2 < (x3_1.length : Int)) = true := decide_eq_true c40
                          clear c40
                          obtain ⟨y219, hy219⟩ : ∃ y_ : List ByteArray, y_ = (x3_1.set (x7_2 : Int).toNat (rdOf ByteArray.empty l0 x4_1)) := ⟨_, rfl⟩
                          replace H : (spec_UniqueNamed.l0 k2 l0 y219 (wrap64 (x4_1 + 1))) = some r := by first | (rw [hy219]; with_reducible exact H) | (have H2_ := (Option.bind_some _ _).symm.trans H; rw [hy219]; with_reducible exact H2_) | (have H2_ := (Option.bind_some _ _).symm.trans H; with_reducible exact H2_) | with_reducible exact H | (rw [hy219]; exact H) | exact H
                          have Ny219 := Aside0.mk hy219
                          clear hy219
                          have H' := Aside0.mk H
                          clear H
                          have p218 : 0 ≤ (x4_1 : Int) := of_decide_eq_true (by first | (with_reducible assumption) | assumption)
                          have q218 : x4_1 < (l0.length : Int) := of_decide_eq_true (by first | (with_reducible assumption) | assumption)
                          obtain ⟨ad218, e218, hx218_0⟩ := Kd.at_string HR0.out x4_1 p218 q218
                          obtain rfl : ad189 = ad218 := (by injection e218)
                          replace hx218_0 := (HB.out.cell (World.block_lt_of_cell? w _ hx218_0)).trans hx218_0
                          replace p218 := eq_true p218
                          replace q218 := eq_true q218
                          have p41 : 0 ≤ (x7_2 : Int) := of_decide_eq_true (by first | (with_reducible assumption) | assumption)
                          have q41 : (x7_2 : Int) < ((x3_1.length : Int) : Int) := of_decide_eq_true (by first | (with_reducible assumption) | assumption)
                          obtain ⟨go41, co41, eo41, gb41, gl41, cl41, HG41⟩ := Kd.R_form HO_3.out (by omega)
                          (first | cases eo41 | (injection eo41 with ea_ en_ ec_; (first | subst ea_ | (injection ea_ with ea_; subst ea_)); subst ec_; clear en_))
                          have GB41 := Aside0.mk gb41
                          have GG41 := Aside0.mk HG41
                          clear gb41 gl41 HG41
                          obtain ⟨hx41_0, hf41_0⟩ := Kd.R_celln (⟨#[]⟩ : ByteArray) HO_3.out (x7_2 : Int) p41 q41
                          replace p41 := eq_true p41
                          replace q41 := eq_true q41
                          have HP42 := Kd.R_putg HO_3.out (x7_2 : Int) (rdOf ByteArray.empty l0 x4_1)
                          go_wp2_with (first | ((with_reducible refine gate_store (t := 9) (p := 58) rfl ?_); refine store_event (t := 9) (p := 58) (v := ?vo_w43) (w1 := (wr.setCell ⟨go41, (x7_2 : Int).toNat, none⟩ (.string (rdOf ByteArray.empty l0 x4_1)))) ?hg ?ho ?hn ?hr ?_; (case ho => rfl); (case hg => rfl); (case hn => rfl); (case hr => first | (go_simp; done) | (go_simp; rfl)); intro w43 hw; have hg : wr.grownBy w43 (some go41) := (by rw [hw]; exact HP42.2); have hp_ : Kd.R Kd.string 9 w43 w.heap.size (fun k_ => some k_ ≠ (.slice Ao8 t194.length co8 : Value).ownBlock) (.slice (some ⟨go41, 0, none⟩) x3_1.length co10) y219 := (by rw [hw, Ny219.out]; exact HP42.1); clear HP42; have n0_ := Aside0.mk (hp_); have n1_ := Aside0.mk (Kd.R_after (v := (.slice (some ⟨go41, 0, none⟩) x3_1.length co10)) (v1 := (.slice (some ⟨go41, 0, none⟩) x3_1.length co10)) (ok := (fun _ => True)) (by (with_reducible repeat (first | apply Kd.R_alloc | apply Kd.R_drewN | apply Kd.R_drew)); exact Kd.R_mono HO_201003.out (fun _ hk => ⟨trivial, hk⟩)) hg (.inl rfl)); have n2_ := Aside0.mk (Kd.R_after (v := (.slice (some ⟨go41, 0, none⟩) x3_1.length co10)) (v1 := (.slice (some ⟨go41, 0, none⟩) x3_1.length co10)) (ok := (fun k_ => some k_ ≠ (.slice Ao8 t194.length co8 : Value).ownBlock ∧ k_ ≠ gb200)) (by (with_reducible repeat (first | apply Kd.R_alloc | apply Kd.R_drewN | apply Kd.R_drew)); exact Kd.R_mono HO_201004.out (fun _ hk => ⟨⟨hk.2.1, hk.2.2⟩, hk.1⟩)) hg (.inl rfl)); have n3_ := Aside0.mk (blk_grown (g := gb200) (o := .cells #[.int .i64 t191, .int .i64 t192, .string t193, .slice Ao8 t194.length co8, .slice Ao9 t197.length co9] 26 (0, 0)) (by (with_reducible repeat (first | refine blk_drewN ?_ _ | refine blk_drew ?_ | refine blk_alloc ?_ _)); exact BK200.out) hg (Kd.R_ne HO_3.out BK200.out (by decide))); have n4_ := Aside0.mk ((by rw [hw]; exact below_set (HB.out) GB41.out : Below w.heap.size w w43)); clear HO_3; clear HO_201003; clear HO_201004; clear BK200; clear HB; have HO_3 := n0_; have HO_201003 := n1_; have HO_201004 := n2_; have BK200 := n3_; have HB := n4_; clear n0_ n1_ n2_ n3_ n4_; clear hg hw hp_))
                          go_roundg k2
                          case measure => have := HK1.out; have := HK2.out; omega
                          case rel => exact ⟨(y219), (wrap64 (x4_1 + 1)), (by first | rfl | (simp; done) | (simp [*]; done)), H', ⟨by have := HK1.out; have := HK2.out; omega⟩, ⟨by (with_reducible repeat (first | apply Kd.R_alloc | apply Kd.R_drewN | apply Kd.R_drew)); exact Kd.R_mono HO_3.out (fun _ hk => trivial)⟩, ⟨by repeat (first | (with_reducible first | exact HB.out | apply below_alloc | apply pw_below_drewN | apply below_drew1 | refine below_set ?_ GE200.out) | exact HB.out)⟩⟩
                        · rw [if_neg c40] at H
                          exact absurd H (by simp)
                      · rw [if_neg c39] at H
                        exact absurd H (by simp)
                    · rw [if_neg c38] at H
                      exact absurd H (by simp)
                  · rw [if_neg c37] at H
                    exact absurd H (by simp)
        · rw [if_neg c3] at H
          exact absurd H (by simp)
      · rw [if_neg c2] at H
        have c2b0 : decide (x4_1 < (l0.length : Int)) = false := decide_eq_false c2
        clear c2
        obtain rfl := Option.some.inj H
        go_wp2
        go_ret
        exact ⟨_, by first | rfl | (simp [errW_none, errW_some] <;> rfl) | (simp [*, errW_none, errW_some] <;> rfl), by (with_reducible repeat (first | apply Kd.R_alloc | apply Kd.R_drewN | apply Kd.R_drew)); exact HO_3.out, by repeat (first | (with_reducible first | exact HB.out | apply below_alloc | apply pw_below_drewN | apply below_drew1) | exact HB.out)⟩

/-! ### spec_Texts: function 10 -/
def spec_Texts.l0 : Nat → List ByteArray → Int → Int → Int → ByteArray → List (S26) → Option (Int × Int × ByteArray × List ByteArray × (List (S26)))
  | 0, _, _, _, _, _, _ => none
  | k + 1, x0, x4, x222000, x222001, x222002, x222004 => if x4 < (x0.length : Int) then (if 0 ≤ x4 then ((spec_T.f (rdOf ByteArray.empty x0 x4)).bind fun bt223 => (if x222004.length < 1759218604441 then (spec_Texts.l0 k x0 (wrap64 (x4 + 1)) x222000 x222001 x222002 (x222004 ++ [(⟨bt223.1, bt223.2.1, bt223.2.2.1, bt223.2.2.2.1, bt223.2.2.2.2⟩ : S26)])) else (none))) else (none)) else (some (x222000, x222001, x222002, ([] : List ByteArray), x222004))
def spec_Texts.f (k : Nat) (l0 : List ByteArray) : Option (Int × Int × ByteArray × List ByteArray × (List (S26))) := spec_Texts.l0 k l0 0 4 0 (⟨#[]⟩ : ByteArray) ([] : List (S26))
theorem spec_Texts.mono_l : ∀ k, (∀ y0 y1 y2 y3 y4 y5, LeO (spec_Texts.l0 k y0 y1 y2 y3 y4 y5) (spec_Texts.l0 (k + 1) y0 y1 y2 y3 y4 y5))
  | 0 => fun _ _ _ _ _ _ r h => by simp [spec_Texts.l0] at h
  | k + 1 => by
    have ih0 := spec_Texts.mono_l k
    · intro y0 y1 y2 y3 y4 y5
      unfold spec_Texts.l0
      repeat' first
      | (with_reducible exact ih0 _ _ _ _ _ _)
      | (with_reducible exact LeO.refl _)
      | (with_reducible exact LeO.none _)
      | (with_reducible refine LeO.ite ?_ ?_)
      | (with_reducible refine LeO.bind ?_ (fun _ => ?_))
      | exact ih0 _ _ _ _ _ _
      | exact LeO.none _
      | refine LeO.ite ?_ ?_
      | refine LeO.bind ?_ (fun _ => ?_)
theorem spec_Texts.mono : ∀ a0 k, LeO (spec_Texts.f k a0) (spec_Texts.f (k + 1) a0) := by
  intro a0 k
  have ih0 := spec_Texts.mono_l k
  unfold spec_Texts.f
  repeat' first
      | (with_reducible exact ih0 _ _ _ _ _ _)
      | (with_reducible exact LeO.refl _)
      | (with_reducible exact LeO.none _)
      | (with_reducible refine LeO.ite ?_ ?_)
      | (with_reducible refine LeO.bind ?_ (fun _ => ?_))
      | exact ih0 _ _ _ _ _ _
      | exact LeO.none _
      | refine LeO.ite ?_ ?_
      | refine LeO.bind ?_ (fun _ => ?_)
def spec_Texts.T5 : Bool × List (List Nat × List Nat) := (true, [([], []), ([0], [0]), ([], []), ([], []), ([2, 3], [2, 3]), ([4], [4]), ([5], [5]), ([6], [6]), ([1, 7, 6], [1, 7]), ([0, 1, 2, 3, 4, 5, 6, 7, 8], []), ([9, 8, 8, 0, 1, 2, 3, 4, 5, 6, 7, 8], [8, 9])])
def spec_Texts.B5 : List Nat := [0, 1, 0, 0, 12, 28, 60, 124, 255, 511, 1023]
theorem spec_Texts.tab5 : rtab .any (opsOf Tryz.f10 5) = spec_Texts.T5 := by kernel_rfl
theorem spec_Texts.bits5 : waitsOk spec_Texts.T5.2 spec_Texts.B5 = true := by kernel_rfl
set_option maxHeartbeats 8000000 in
set_option maxRecDepth 100000 in
theorem spec_Texts.calls (k : Nat) (A0 : Option Addr) (c0 : Nat) (l0 : List ByteArray) (r1 : Int) (r2 : Int) (r3 : ByteArray) (r4 : List ByteArray) (r5 : List (S26)) (w : World) (hr0 : Kd.C Kd.string w A0 l0.length l0) (hc0 : l0.length ≤ c0) (h : spec_Texts.f k l0 = some (r1, r2, r3, r4, r5)) :
    Calls Tryz.prog 10 #[.slice A0 l0.length c0] w fun e w' => ∃ v3_ v4_ : Value, e = .returned (.agg #[.int .i64 r1, .int .i64 r2, .string r3, v3_, v4_]) ∧ Kd.R Kd.string 9 w' w.heap.size (fun _ => True) v3_ r4 ∧ Kd.R k26 26 w' w.heap.size (fun k_ => some k_ ≠ (v3_ : Value).ownBlock) v4_ r5 ∧ Below w.heap.size w w' := by
  have hu26 := Tryz.underlying26
  have HR0 := Aside0.mk hr0
  have HC0 := Aside0.mk hc0
  clear hr0 hc0
  have HB := Aside0.mk (Below.refl w.heap.size w)
  have H : (spec_Texts.l0 k l0 0 4 0 (⟨#[]⟩ : ByteArray) ([] : List (S26))) = some (r1, r2, r3, r4, r5) := h
  clear h
  have H' := Aside0.mk H
  clear H
  go_enter Tryz.func10, Tryz.ntmps10
  go_wp2_with (first | ((with_reducible refine gate_dst (N := 2) rfl ?_); refine box_event ?hg (N := 2) ?hd (cs := #[.int .i64 0, .int .i64 0, .string (⟨#[]⟩ : ByteArray), .slice none 0 0, .slice none 0 0]) (t := 26) ?hr ?_; (case hd => rfl); (case hg => rfl); (case hr => first | (go_simp; done) | (go_simp; rfl)); intro gb220 hg w2 hbox hb; have n0_ := Aside0.mk (below_step (by repeat (first | (with_reducible first | exact HB.out | apply below_alloc | apply pw_below_drewN | apply below_drew1) | exact HB.out)) hb); have n1_ := Aside0.mk (hbox); have n2_ := Aside0.mk ((by rw [hg]; exact (below_size (by repeat (first | (with_reducible first | exact HB.out | apply below_alloc | apply pw_below_drewN | apply below_drew1) | exact HB.out))) : w.heap.size ≤ gb220)); have n3_ := Aside0.mk ((by rw [hg]; exact (below_size (by repeat (first | (with_reducible first | exact HB.out | apply below_alloc | apply pw_below_drewN | apply below_drew1) | exact HB.out))) : w.heap.size ≤ gb220)); clear HB; have HB := n0_; have BK220 := n1_; have GW220 := n2_; have GE220 := n3_; clear n0_ n1_ n2_ n3_; clear hb hbox hg) | ((with_reducible refine gate_dst (N := 3) rfl ?_); refine box_event ?hg (N := 3) ?hd (cs := #[.int .i64 0, .int .i64 0, .string (⟨#[]⟩ : ByteArray), .slice none 0 0, .slice none 0 0]) (t := 26) ?hr ?_; (case hd => rfl); (case hg => rfl); (case hr => first | (go_simp; done) | (go_simp; rfl)); intro gb221 hg w3 hbox hb; have n0_ := Aside0.mk (blk_below (g := gb220) (o := .cells #[.int .i64 0, .int .i64 0, .string (⟨#[]⟩ : ByteArray), .slice none 0 0, .slice none 0 0] 26 (0, 0)) (by (with_reducible repeat (first | refine blk_drewN ?_ _ | refine blk_drew ?_ | refine blk_alloc ?_ _)); exact BK220.out) hb); have n1_ := Aside0.mk (below_step (by repeat (first | (with_reducible first | exact HB.out | apply below_alloc | apply pw_below_drewN | apply below_drew1 | refine below_set ?_ GE220.out) | exact HB.out)) hb); have n2_ := Aside0.mk (hbox); have n3_ := Aside0.mk ((by rw [hg]; exact (below_size (by repeat (first | (with_reducible first | exact HB.out | apply below_alloc | apply pw_below_drewN | apply below_drew1 | refine below_set ?_ GE220.out) | exact HB.out))) : w.heap.size ≤ gb221)); have n4_ := Aside0.mk ((by rw [hg]; exact (below_size (by repeat (first | (with_reducible first | exact HB.out | apply below_alloc | apply pw_below_drewN | apply below_drew1 | refine below_set ?_ GE220.out) | exact HB.out))) : w.heap.size ≤ gb221)); have n5_ := Aside0.mk ((by rw [hg]; exact Nat.ne_of_lt (blk_lt (g := gb220) (o := .cells #[.int .i64 0, .int .i64 0, .string (⟨#[]⟩ : ByteArray), .slice none 0 0, .slice none 0 0] 26 (0, 0)) (by (with_reducible repeat (first | refine blk_drewN ?_ _ | refine blk_drew ?_ | refine blk_alloc ?_ _)); exact BK220.out)) : gb220 ≠ gb221)); have n6_ := Aside0.mk ((by rw [hg]; exact Nat.ne_of_gt (blk_lt (g := gb220) (o := .cells #[.int .i64 0, .int .i64 0, .string (⟨#[]⟩ : ByteArray), .slice none 0 0, .slice none 0 0] 26 (0, 0)) (by (with_reducible repeat (first | refine blk_drewN ?_ _ | refine blk_drew ?_ | refine blk_alloc ?_ _)); exact BK220.out)) : gb221 ≠ gb220)); clear BK220; clear HB; have BK220 := n0_; have HB := n1_; have BK221 := n2_; have GW221 := n3_; have GE221 := n4_; have NB220_221 := n5_; have NB221_220 := n6_; clear n0_ n1_ n2_ n3_ n4_ n5_ n6_; clear hb hbox hg; have hnb4 := NB221_220.out; have hnc4 := NB220_221.out; have hcz5_0 : w3.cell? ⟨gb221, 0, none⟩ = some (.int .i64 0) := (blk_cell BK221.out 0).trans rfl; have hcz5_1 : w3.cell? ⟨gb221, 1, none⟩ = some (.int .i64 0) := (blk_cell BK221.out 1).trans rfl; have hcz5_2 : w3.cell? ⟨gb221, 2, none⟩ = some (.string (⟨#[]⟩ : ByteArray)) := (blk_cell BK221.out 2).trans rfl; have hcz5_3 : w3.cell? ⟨gb221, 3, none⟩ = some (.slice none 0 0) := (blk_cell BK221.out 3).trans rfl; have hcz5_4 : w3.cell? ⟨gb221, 4, none⟩ = some (.slice none 0 0) := (blk_cell BK221.out 4).trans rfl; have hfz5_0 := blk_frozen BK221.out 0; have hfz5_1 := blk_frozen BK221.out 1; have hfz5_2 := blk_frozen BK221.out 2; have hfz5_3 := blk_frozen BK221.out 3; have hfz5_4 := blk_frozen BK221.out 4))
  go_loopg [4] k (fun kq v4 w' => ∃ (x4_1 : Int) (x222004_1 : List (S26)) (u222004 : Value), v4 = .int .i64 x4_1 ∧ Aside0 (spec_Texts.l0 kq l0 x4_1 4 0 (⟨#[]⟩ : ByteArray) x222004_1 = some (r1, r2, r3, r4, r5)) ∧ Aside0 (kq ≤ k) ∧ Aside0 (Kd.R k26 26 w' w.heap.size (fun k_ => k_ ≠ gb220 ∧ k_ ≠ gb221) u222004 x222004_1) ∧ Aside0 (w'.heap[gb220]? = some (.cells #[.int .i64 0, .int .i64 0, .string (⟨#[]⟩ : ByteArray), (.slice none 0 0), (.slice none 0 0)] 26 (0, 0))) ∧ Aside0 (w'.heap[gb221]? = some (.cells #[.int .i64 4, .int .i64 0, .string (⟨#[]⟩ : ByteArray), (.slice none 0 0), u222004] 26 (0, 0))) ∧ Aside0 (Below w.heap.size w w'))
  case atStart => exact ⟨(0), (([] : List (S26))), (.slice none 0 0), (by first | rfl | (simp; done) | (simp [*]; done)), H', ⟨Nat.le_refl _⟩, ⟨by first | exact Kd.R_nil _ _ _ _ _ | exact Kd.N_nil _ _ _ _ _ | exact Kd.V_nil _ _ _ _ _ | exact Kd.Q_nil _ _ _ _ _ | exact Kd.S_nil _ _ _ _ _⟩, ⟨by (with_reducible repeat (first | refine blk_drewN ?_ _ | refine blk_drew ?_ | refine blk_alloc ?_ _)); refine blk_far ?_ NB220_221.out _; (with_reducible repeat (first | refine blk_drewN ?_ _ | refine blk_drew ?_ | refine blk_alloc ?_ _)); refine blk_far ?_ NB220_221.out _; (with_reducible repeat (first | refine blk_drewN ?_ _ | refine blk_drew ?_ | refine blk_alloc ?_ _)); refine blk_far ?_ NB220_221.out _; (with_reducible repeat (first | refine blk_drewN ?_ _ | refine blk_drew ?_ | refine blk_alloc ?_ _)); refine blk_far ?_ NB220_221.out _; (with_reducible repeat (first | refine blk_drewN ?_ _ | refine blk_drew ?_ | refine blk_alloc ?_ _)); refine blk_far ?_ NB220_221.out _; (with_reducible repeat (first | refine blk_drewN ?_ _ | refine blk_drew ?_ | refine blk_alloc ?_ _)); exact BK220.out⟩, ⟨by (with_reducible repeat (first | refine blk_drewN ?_ _ | refine blk_drew ?_ | refine blk_alloc ?_ _)); refine blk_put (cs := #[.int .i64 4, .int .i64 0, .string (⟨#[]⟩ : ByteArray), .slice none 0 0, .slice none 0 0]) ?_ 4 _ rfl; (with_reducible repeat (first | refine blk_drewN ?_ _ | refine blk_drew ?_ | refine blk_alloc ?_ _)); refine blk_put (cs := #[.int .i64 4, .int .i64 0, .string (⟨#[]⟩ : ByteArray), .slice none 0 0, .slice none 0 0]) ?_ 3 _ rfl; (with_reducible repeat (first | refine blk_drewN ?_ _ | refine blk_drew ?_ | refine blk_alloc ?_ _)); refine blk_put (cs := #[.int .i64 4, .int .i64 0, .string (⟨#[]⟩ : ByteArray), .slice none 0 0, .slice none 0 0]) ?_ 2 _ rfl; (with_reducible repeat (first | refine blk_drewN ?_ _ | refine blk_drew ?_ | refine blk_alloc ?_ _)); refine blk_put (cs := #[.int .i64 4, .int .i64 0, .string (⟨#[]⟩ : ByteArray), .slice none 0 0, .slice none 0 0]) ?_ 1 _ rfl; (with_reducible repeat (first | refine blk_drewN ?_ _ | refine blk_drew ?_ | refine blk_alloc ?_ _)); refine blk_put (cs := #[.int .i64 0, .int .i64 0, .string (⟨#[]⟩ : ByteArray), .slice none 0 0, .slice none 0 0]) ?_ 0 _ rfl; (with_reducible repeat (first | refine blk_drewN ?_ _ | refine blk_drew ?_ | refine blk_alloc ?_ _)); exact BK221.out⟩, ⟨by repeat (first | (with_reducible first | exact HB.out | apply below_alloc | apply pw_below_drewN | apply below_drew1 | refine below_set ?_ GE220.out | refine below_set ?_ GE221.out) | exact HB.out)⟩⟩
  case round =>
    clear H'
    try clear c1
    try clear p2
    try clear c4
    try clear hcz5_0
    try clear hcz5_1
    try clear hcz5_2
    try clear hcz5_3
    try clear hcz5_4
    try clear hfz5_0
    try clear hfz5_1
    try clear hfz5_2
    try clear hfz5_3
    try clear hfz5_4
    obtain ⟨x4_1, x222004_1, u222004, rfl, HA, HK1, HO_222004, BK220, BK221, HB⟩ := hrel
    cases gk with
    | zero => exact absurd HA.out (by simp [spec_Texts.l0])
    | succ k1 =>
      have H := HA.out
      clear HA
      simp only [spec_Texts.l0] at H
      by_cases c6 : x4_1 < (l0.length : Int)
      · rw [if_pos c6] at H
        have c6b0 : decide (x4_1 < (l0.length : Int)) = true := decide_eq_true c6
        clear c6
        by_cases c7 : 0 ≤ x4_1
        · rw [if_pos c7] at H
          have c7b0 : decide (0 ≤ x4_1) = true := decide_eq_true c7
          clear c7
          replace H := Option.bind_eq_some_iff.mp H
          obtain ⟨⟨t223, t224, t225, t226, t229⟩, A80, H⟩ := H
          replace H : (if x222004_1.length < 1759218604441 then (spec_Texts.l0 k1 l0 (wrap64 (x4_1 + 1)) 4 0 (⟨#[]⟩ : ByteArray) (x222004_1 ++ [(⟨t223, t224, t225, t226, t229⟩ : S26)])) else (none)) = some (r1, r2, r3, r4, r5) := H
          have A8 := Aside0.mk A80
          clear A80
          by_cases c9 : x222004_1.length < 1759218604441
          · rw [if_pos c9] at H
            have LMc9 := Aside0.mk c9
            clear c9
            obtain ⟨y232, hy232⟩ : ∃ y_ : List (S26), y_ = (x222004_1 ++ [(⟨t223, t224, t225, t226, t229⟩ : S26)]) := ⟨_, rfl⟩
            replace H : (spec_Texts.l0 k1 l0 (wrap64 (x4_1 + 1)) 4 0 (⟨#[]⟩ : ByteArray) y232) = some (r1, r2, r3, r4, r5) := by first | (rw [hy232]; with_reducible exact H) | (have H2_ := (Option.bind_some _ _).symm.trans H; rw [hy232]; with_reducible exact H2_) | (have H2_ := (Option.bind_some _ _).symm.trans H; with_reducible exact H2_) | with_reducible exact H | (rw [hy232]; exact H) | exact H
            have Ny232 := Aside0.mk hy232
            clear hy232
            have H' := Aside0.mk H
            clear H
            try go_wp2
            have n0_ := Aside0.mk (Kd.R_drew HO_222004.out)
            have n1_ := Aside0.mk (blk_drew BK220.out)
            have n2_ := Aside0.mk (blk_drew BK221.out)
            have n3_ := Aside0.mk (below_drew1 HB.out)
            clear HO_222004
            clear BK220
            clear BK221
            clear HB
            have HO_222004 := n0_
            have BK220 := n1_
            have BK221 := n2_
            have HB := n3_
            clear n0_ n1_ n2_ n3_
            have p222 : 0 ≤ (x4_1 : Int) := of_decide_eq_true (by first | (with_reducible assumption) | assumption)
            have q222 : x4_1 < (l0.length : Int) := of_decide_eq_true (by first | (with_reducible assumption) | assumption)
            obtain ⟨ad222, e222, hx222_0⟩ := Kd.at_string HR0.out x4_1 p222 q222
            have hw222_0 := hx222_0
            cases e222
            replace hx222_0 := (HB.out.cell (World.block_lt_of_cell? w _ hx222_0)).trans hx222_0
            replace p222 := eq_true p222
            replace q222 := eq_true q222
            refine start_ (n := 11) (S := fun w' => w'.cell? ⟨gb221, 0, none⟩ = some (.int .i64 4) ∧ w'.cell? ⟨gb221, 1, none⟩ = some (.int .i64 0) ∧ w'.cell? ⟨gb221, 2, none⟩ = some (.string (⟨#[]⟩ : ByteArray)) ∧ w'.cell? ⟨gb221, 3, none⟩ = some (.slice none 0 0) ∧ w'.cell? ⟨gb221, 4, none⟩ = some (u222004) ∧ w'.cell? (ad222.add (x4_1).toNat) = some (.string (rdOf ByteArray.empty l0 x4_1))) (ds := [10]) #[false, false, false, false, false, false, false, false, false, false, false] (by kernel_rfl) rfl rfl ⟨(blk_cell BK221.out 0).trans rfl, (blk_cell BK221.out 1).trans rfl, (blk_cell BK221.out 2).trans rfl, (blk_cell BK221.out 3).trans rfl, (blk_cell BK221.out 4).trans rfl, ((HB.out.cell (World.block_lt_of_cell? w _ hw222_0)).trans hw222_0)⟩ (fun hHeld => ?_); refine with_tabW spec_Texts.tab5 spec_Texts.bits5 (fun HT_ HW_ => ?_)
            generalize wr.drew = w10 at HO_222004 BK220 BK221 HB hx222_0 hHeld ⊢
            refine pure_ (i := 0) (N := some 12) (v := ?_) (a' := ?_) #[true, false, false, false, false, false, false, false, false, false, false] rfl rfl (any_of HT_.out (by kernel_rfl)) (fun _ _ _ h => h) (Or.inl ⟨by rfl, ?_⟩) ?_ ?_
            rotate_left
            · intro w'
              go_simp
              with_reducible rfl
            rotate_left
            · simp only [Act.put, List.setIfInBounds_toArray, List.set_cons_zero, List.set_cons_succ, i64_w, i32_w]
              rfl
            refine pure_ (i := 2) (N := some 14) (v := ?_) (a' := ?_) #[true, false, true, false, false, false, false, false, false, false, false] rfl rfl (any_of HT_.out (by kernel_rfl)) (fun _ _ _ h => h) (Or.inl ⟨by rfl, ?_⟩) ?_ ?_
            rotate_left
            · intro w'
              go_simp
              with_reducible rfl
            rotate_left
            · simp only [Act.put, List.setIfInBounds_toArray, List.set_cons_zero, List.set_cons_succ, i64_w, i32_w]
              rfl
            refine pure_ (i := 3) (N := some 15) (v := ?_) (a' := ?_) #[true, false, true, true, false, false, false, false, false, false, false] rfl rfl (any_of HT_.out (by kernel_rfl)) (fun _ _ _ h => h) (Or.inl ⟨by rfl, ?_⟩) ?_ ?_
            rotate_left
            · intro w'
              go_simp
              with_reducible rfl
            rotate_left
            · simp only [Act.put, List.setIfInBounds_toArray, List.set_cons_zero, List.set_cons_succ, i64_w, i32_w]
              rfl
            refine pure_ (i := 4) (N := some 16) (v := ?_) (a' := ?_) #[true, false, true, true, true, false, false, false, false, false, false] rfl rfl (any_of HT_.out (by kernel_rfl)) (fun _ _ _ h => h) (Or.inl ⟨by rfl, ?_⟩) ?_ ?_
            rotate_left
            · intro w'
              go_simp
              with_reducible rfl
            rotate_left
            · simp only [Act.put, List.setIfInBounds_toArray, List.set_cons_zero, List.set_cons_succ, i64_w, i32_w]
              rfl
            refine take_ (i := 1) (N := some 13) (v := ?_) (a' := ?_) #[true, true, true, true, true, false, false, false, false, false, false] rfl rfl (take_ofW HT_.out HW_.out (by kernel_rfl)) (fun _ _ _ h => h) (Or.inl ⟨by rfl, ?_⟩) hHeld ?_ ?_
            rotate_left
            · rintro w' ⟨s0, s1, s2, s3, s4, s5⟩
              go_simp
              with_reducible rfl
            rotate_left
            · simp only [Act.put, List.setIfInBounds_toArray, List.set_cons_zero, List.set_cons_succ, i64_w, i32_w]
              rfl
            refine take_ (i := 5) (N := some 17) (v := ?_) (a' := ?_) #[true, true, true, true, true, true, false, false, false, false, false] rfl rfl (take_ofW HT_.out HW_.out (by kernel_rfl)) (fun _ _ _ h => h) (Or.inl ⟨by rfl, ?_⟩) hHeld ?_ ?_
            rotate_left
            · rintro w' ⟨s0, s1, s2, s3, s4, s5⟩
              go_simp
              with_reducible rfl
            rotate_left
            · simp only [Act.put, List.setIfInBounds_toArray, List.set_cons_zero, List.set_cons_succ, i64_w, i32_w]
              rfl
            refine one_ (i := 6) (N := some 18) #[true, true, true, true, true, true, true, false, false, false, false] rfl rfl (one_of HT_.out (by kernel_rfl)) (by decide) (fun K hK => ?_)
            refine goes_ Tryz.func26 (by kernel_rfl) rfl #[.string (rdOf ByteArray.empty l0 x4_1)] (by rfl) rfl rfl (by (try simp only [List.map_toArray, List.map_cons, List.map_nil]); first | done | rfl | (simp only [List.length_drop, List.length_take]; rfl)) ?_
            with_reducible refine (spec_T.calls (rdOf ByteArray.empty l0 x4_1) t223 t224 t225 t226 t229 _ A8.out).mono ?_
            rintro e w11 ⟨v227, v230, rfl, ho0, ho1, hb⟩
            refine ⟨_, rfl, ?_⟩
            have n0_ := Aside0.mk (Kd.R_mono (Kd.R_told (Kd.R_told (Kd.R_old (by (with_reducible repeat (first | apply Kd.R_alloc | apply Kd.R_drewN | apply Kd.R_drew)); exact HO_222004.out) hb) (Kd.R_base ho0)) (Kd.R_base ho1)) (fun _ h_ => h_.1))
            have n1_ := Aside0.mk (Kd.R_lower ho0 (below_size (by repeat (first | (with_reducible first | exact HB.out | apply below_alloc | apply pw_below_drewN | apply below_drew1 | refine below_set ?_ GE220.out | refine below_set ?_ GE221.out) | exact HB.out))))
            have n2_ := Aside0.mk (Kd.R_lower (Kd.R_newB (Kd.R_newB (Kd.R_new' ho1 (Kd.R_lt (by (with_reducible repeat (first | apply Kd.R_alloc | apply Kd.R_drewN | apply Kd.R_drew)); exact HO_222004.out))) (g := gb220) (o := .cells #[.int .i64 0, .int .i64 0, .string (⟨#[]⟩ : ByteArray), .slice none 0 0, .slice none 0 0] 26 (0, 0)) (by (with_reducible repeat (first | refine blk_drewN ?_ _ | refine blk_drew ?_ | refine blk_alloc ?_ _)); exact BK220.out)) (g := gb221) (o := .cells #[.int .i64 4, .int .i64 0, .string (⟨#[]⟩ : ByteArray), .slice none 0 0, u222004] 26 (0, 0)) (by (with_reducible repeat (first | refine blk_drewN ?_ _ | refine blk_drew ?_ | refine blk_alloc ?_ _)); exact BK221.out)) (below_size (by repeat (first | (with_reducible first | exact HB.out | apply below_alloc | apply pw_below_drewN | apply below_drew1 | refine below_set ?_ GE220.out | refine below_set ?_ GE221.out) | exact HB.out))))
            have n3_ := Aside0.mk (blk_below (g := gb220) (o := .cells #[.int .i64 0, .int .i64 0, .string (⟨#[]⟩ : ByteArray), .slice none 0 0, .slice none 0 0] 26 (0, 0)) (by (with_reducible repeat (first | refine blk_drewN ?_ _ | refine blk_drew ?_ | refine blk_alloc ?_ _)); exact BK220.out) hb)
            have n4_ := Aside0.mk (blk_below (g := gb221) (o := .cells #[.int .i64 4, .int .i64 0, .string (⟨#[]⟩ : ByteArray), .slice none 0 0, u222004] 26 (0, 0)) (by (with_reducible repeat (first | refine blk_drewN ?_ _ | refine blk_drew ?_ | refine blk_alloc ?_ _)); exact BK221.out) hb)
            have n5_ := Aside0.mk (below_step (by repeat (first | (with_reducible first | exact HB.out | apply below_alloc | apply pw_below_drewN | apply below_drew1 | refine below_set ?_ GE220.out | refine below_set ?_ GE221.out) | exact HB.out)) hb)
            clear HO_222004
            clear BK220
            clear BK221
            clear HB
            have HO_222004 := n0_
            have HO228 := n1_
            have HO231 := n2_
            have BK220 := n3_
            have BK221 := n4_
            have HB := n5_
            clear n0_ n1_ n2_ n3_ n4_ n5_
            (try clear hb)
            (try clear hb2)
            (try clear hk)
            (try clear hi)
            (try clear ho0)
            (try clear ho1)
            obtain ⟨Ao13, co13, eo13⟩ := Kd.R_slice HO228.out
            (first | subst eo13 | (injection eo13 with f1_ f2_ f3_; have f4_ := f1_.symm; have f5_ := f3_.symm; clear f1_ f2_ f3_; subst f4_; subst f5_))
            obtain ⟨Ao14, co14, eo14⟩ := Kd.R_slice HO231.out
            (first | subst eo14 | (injection eo14 with f1_ f2_ f3_; have f4_ := f1_.symm; have f5_ := f3_.symm; clear f1_ f2_ f3_; subst f4_; subst f5_))
            refine hK.out _ _ ⟨(blk_cell BK221.out 0).trans rfl, (blk_cell BK221.out 1).trans rfl, (blk_cell BK221.out 2).trans rfl, (blk_cell BK221.out 3).trans rfl, (blk_cell BK221.out 4).trans rfl, ((HB.out.cell (World.block_lt_of_cell? w _ hw222_0)).trans hw222_0)⟩ (fun hHeld => ?_)
            clear hK K
            refine norm_ (a' := ?_) ?_ ?_
            rotate_left
            · show Act.put _ (some 18) _ = _
              simp only [Act.put, List.setIfInBounds_toArray, List.set_cons_zero, List.set_cons_succ, i64_w, i32_w]
              rfl
            refine one_ (i := 7) (N := some 19) #[true, true, true, true, true, true, true, true, false, false, false] rfl rfl (one_of HT_.out (by kernel_rfl)) (by decide) (fun K hK => ?_)
            refine value_ (w1 := ?_) (v := ?_) (by rfl) rfl ?_ ?_
            rotate_left 2
            · go_simp
              constructor
              · rfl
              · rfl
            refine hK.out _ _ ⟨(blk_cell (blk_alloc BK221.out _) 0).trans rfl, (blk_cell (blk_alloc BK221.out _) 1).trans rfl, (blk_cell (blk_alloc BK221.out _) 2).trans rfl, (blk_cell (blk_alloc BK221.out _) 3).trans rfl, (blk_cell (blk_alloc BK221.out _) 4).trans rfl, (World.cell?_alloc_lt _ _ _ (World.block_lt_of_cell? _ _ (((HB.out.cell (World.block_lt_of_cell? w _ hw222_0)).trans hw222_0)))).trans (((HB.out.cell (World.block_lt_of_cell? w _ hw222_0)).trans hw222_0))⟩ (fun hHeld => ?_)
            clear hK K
            refine norm_ (a' := ?_) ?_ ?_
            rotate_left
            · show Act.put _ (some 19) _ = _
              simp only [Act.put, List.setIfInBounds_toArray, List.set_cons_zero, List.set_cons_succ, i64_w, i32_w]
              rfl
            refine one_ (i := 8) (N := some 20) #[true, true, true, true, true, true, true, true, true, false, false] rfl rfl (one_of HT_.out (by kernel_rfl)) (by decide) (fun K hK => ?_)
            refine Kd.R_append_step k26 (w0 := w) w.heap.size (by rfl) (.tmp 13) (.tmp 19) 24 26 (.agg #[(.int .i64 0), (.int .i64 0), (.string ⟨#[]⟩), (.slice none 0 0), (.slice none 0 0)]) 80 rfl Tryz.underlying24 info26 rfl (by decide) (by omega) u222004 x222004_1 (⟨t223, t224, t225, t226, t229⟩ : S26) [.int .i64 t223, .int .i64 t224, .string t225, .slice Ao13 t226.length co13, .slice Ao14 t229.length co14] (fun k_ => k_ ≠ gb220 ∧ k_ ≠ gb221) (fun k_ => ((fun k_ => k_ ≠ gb220 ∧ k_ ≠ gb221)) k_ ∧ some k_ ≠ (u222004 : Value).ownBlock) rfl rfl ?aP (fun _ hk => hk) ?aF ?aO ?aB ?aS ?aL ?_
            (case aP => exact k26_mkM _ _ _ (⟨t223, t224, t225, t226, t229⟩ : S26) (Kd.R_mono (Kd.R_types (Kd.R_types (Kd.R_apart' (HO228.out) (Kd.R_typed HO_222004.out) (by decide)) BK220.out (by decide)) BK221.out (by decide)) (fun k_ hk => ⟨⟨hk.1.2, hk.2⟩, hk.1.1.2⟩)) (Kd.R_mono (HO231.out) (fun k_ hk => ⟨⟨hk.1.2, hk.2⟩, hk.1.1.2⟩)))
            (case aB => exact (by repeat (first | (with_reducible first | exact HB.out | apply below_alloc | apply pw_below_drewN | apply below_drew1 | refine below_set ?_ GE220.out | refine below_set ?_ GE221.out) | exact HB.out)))
            (case aF => exact (fun k_ hk => ⟨Kd.freshB (g := gb220) (o := .cells #[.int .i64 0, .int .i64 0, .string (⟨#[]⟩ : ByteArray), .slice none 0 0, .slice none 0 0] 26 (0, 0)) (by (with_reducible repeat (first | refine blk_drewN ?_ _ | refine blk_drew ?_ | refine blk_alloc ?_ _)); exact BK220.out) k_ hk, Kd.freshB (g := gb221) (o := .cells #[.int .i64 4, .int .i64 0, .string (⟨#[]⟩ : ByteArray), .slice none 0 0, u222004] 26 (0, 0)) (by (with_reducible repeat (first | refine blk_drewN ?_ _ | refine blk_drew ?_ | refine blk_alloc ?_ _)); exact BK221.out) k_ hk⟩))
            (case aO => exact (by (with_reducible repeat (first | apply Kd.R_alloc | apply Kd.R_drewN | apply Kd.R_drew)); exact Kd.R_mono HO_222004.out (fun _ hk => ⟨hk.1.1.1, hk.1.1.2⟩)))
            (case aS => exact (below_size (by repeat (first | (with_reducible first | exact HB.out | apply below_alloc | apply pw_below_drewN | apply below_drew1 | refine below_set ?_ GE220.out | refine below_set ?_ GE221.out) | exact HB.out))))
            (case aL => have := LMc9.out; omega)
            intro v233 w12 ho hb hg hat
            rw [← Ny232.out] at ho
            have n0_ := Aside0.mk (blk_grown (g := gb220) (o := .cells #[.int .i64 0, .int .i64 0, .string (⟨#[]⟩ : ByteArray), .slice none 0 0, .slice none 0 0] 26 (0, 0)) (by (with_reducible repeat (first | refine blk_drewN ?_ _ | refine blk_drew ?_ | refine blk_alloc ?_ _)); exact BK220.out) hg (Kd.R_away HO_222004.out (fun _ hk => hk.1.1.1)))
            have n1_ := Aside0.mk (blk_grown (g := gb221) (o := .cells #[.int .i64 4, .int .i64 0, .string (⟨#[]⟩ : ByteArray), .slice none 0 0, u222004] 26 (0, 0)) (by (with_reducible repeat (first | refine blk_drewN ?_ _ | refine blk_drew ?_ | refine blk_alloc ?_ _)); exact BK221.out) hg (Kd.R_away HO_222004.out (fun _ hk => hk.1.1.2)))
            have n2_ := Aside0.mk (hb)
            have n3_ := Aside0.mk (ho)
            clear BK220
            clear BK221
            clear HB
            clear HO_222004
            clear HO228
            clear HO231
            have BK220 := n0_
            have BK221 := n1_
            have HB := n2_
            have HO234 := n3_
            clear n0_ n1_ n2_ n3_
            clear ho hb hg hat
            obtain ⟨Ao15, co15, eo15⟩ := Kd.R_slice HO234.out
            (first | subst eo15 | (injection eo15 with f1_ f2_ f3_; have f4_ := f1_.symm; have f5_ := f3_.symm; clear f1_ f2_ f3_; subst f4_; subst f5_))
            refine hK.out _ _ ⟨(blk_cell BK221.out 0).trans rfl, (blk_cell BK221.out 1).trans rfl, (blk_cell BK221.out 2).trans rfl, (blk_cell BK221.out 3).trans rfl, (blk_cell BK221.out 4).trans rfl, ((HB.out.cell (World.block_lt_of_cell? w _ hw222_0)).trans hw222_0)⟩ (fun hHeld => ?_)
            clear hK K
            refine norm_ (a' := ?_) ?_ ?_
            rotate_left
            · show Act.put _ (some 20) _ = _
              simp only [Act.put, List.setIfInBounds_toArray, List.set_cons_zero, List.set_cons_succ, i64_w, i32_w]
              rfl
            refine pure_ (i := 9) (N := some 21) (v := ?_) (a' := ?_) #[true, true, true, true, true, true, true, true, true, true, false] rfl rfl (any_of HT_.out (by kernel_rfl)) (fun _ _ _ h => h) (Or.inl ⟨by rfl, ?_⟩) ?_ ?_
            rotate_left
            · intro w'
              go_simp
              with_reducible rfl
            rotate_left
            · simp only [Act.put, List.setIfInBounds_toArray, List.set_cons_zero, List.set_cons_succ, i64_w, i32_w]
              rfl
            refine last_ (i := 10) (N := none) #[true, true, true, true, true, true, true, true, true, true, true] rfl rfl (one_of HT_.out (by kernel_rfl)) (by decide) (fun K hK => ?_)
            have hs16 : w12.cell? ⟨gb221, 4, none⟩ = some (u222004) := (blk_cell BK221.out 4).trans rfl
            have hfs16 := blk_frozen BK221.out 4
            have hns16_0 := NB220_221.out
            have hms16_0 := NB221_220.out
            refine skip_ (w1 := ?_) (by rfl) rfl ?_ ?_
            rotate_left
            · go_simp
              rfl
            refine hK.out _ _ ?_
            clear hK K
            refine done_ (done_of HT_.out (by kernel_rfl)) ?_
            try go_wp2
            go_roundg k1
            case measure => have := HK1.out; omega
            case rel => exact ⟨(wrap64 (x4_1 + 1)), (y232), (.slice Ao15 y232.length co15), (by first | rfl | (simp; done) | (simp [*]; done)), H', ⟨by have := HK1.out; omega⟩, ⟨by (with_reducible repeat (first | apply Kd.R_alloc | apply Kd.R_drewN | apply Kd.R_drew)); exact Kd.R_mono (Kd.R_far (p := ⟨gb221, 4, none⟩) (Kd.R_mono HO234.out (fun k_ hk => (⟨hk, hk.2⟩ : _ ∧ k_ ≠ gb221))) (fun _ hk => hk.2) (.slice Ao15 y232.length co15)) (fun _ hk => ⟨hk.1.1, hk.1.2⟩)⟩, ⟨by (with_reducible repeat (first | refine blk_drewN ?_ _ | refine blk_drew ?_ | refine blk_alloc ?_ _)); refine blk_far ?_ NB220_221.out _; (with_reducible repeat (first | refine blk_drewN ?_ _ | refine blk_drew ?_ | refine blk_alloc ?_ _)); exact BK220.out⟩, ⟨by (with_reducible repeat (first | refine blk_drewN ?_ _ | refine blk_drew ?_ | refine blk_alloc ?_ _)); refine blk_put (cs := #[.int .i64 4, .int .i64 0, .string (⟨#[]⟩ : ByteArray), .slice none 0 0, u222004]) ?_ 4 _ rfl; (with_reducible repeat (first | refine blk_drewN ?_ _ | refine blk_drew ?_ | refine blk_alloc ?_ _)); exact BK221.out⟩, ⟨by repeat (first | (with_reducible first | exact HB.out | apply below_alloc | apply pw_below_drewN | apply below_drew1 | refine below_set ?_ GE220.out | refine below_set ?_ GE221.out) | exact HB.out)⟩⟩
          · rw [if_neg c9] at H
            exact absurd H (by simp)
        · rw [if_neg c7] at H
          exact absurd H (by simp)
      · rw [if_neg c6] at H
        have c6b0 : decide (x4_1 < (l0.length : Int)) = false := decide_eq_false c6
        clear c6
        simp only [Option.some.injEq, Prod.mk.injEq] at H
        obtain ⟨rfl, rfl, rfl, rfl, rfl⟩ := H
        have hnb17 := NB221_220.out
        have hnc17 := NB220_221.out
        have hcz18_0 : wr.cell? ⟨gb221, 0, none⟩ = some (.int .i64 4) := (blk_cell BK221.out 0).trans rfl
        have hcz18_1 : wr.cell? ⟨gb221, 1, none⟩ = some (.int .i64 0) := (blk_cell BK221.out 1).trans rfl
        have hcz18_2 : wr.cell? ⟨gb221, 2, none⟩ = some (.string (⟨#[]⟩ : ByteArray)) := (blk_cell BK221.out 2).trans rfl
        have hcz18_3 : wr.cell? ⟨gb221, 3, none⟩ = some (.slice none 0 0) := (blk_cell BK221.out 3).trans rfl
        have hcz18_4 : wr.cell? ⟨gb221, 4, none⟩ = some (u222004) := (blk_cell BK221.out 4).trans rfl
        have hfz18_0 := blk_frozen BK221.out 0
        have hfz18_1 := blk_frozen BK221.out 1
        have hfz18_2 := blk_frozen BK221.out 2
        have hfz18_3 := blk_frozen BK221.out 3
        have hfz18_4 := blk_frozen BK221.out 4
        have hcz19_0 : wr.cell? ⟨gb220, 0, none⟩ = some (.int .i64 0) := (blk_cell BK220.out 0).trans rfl
        have hcz19_1 : wr.cell? ⟨gb220, 1, none⟩ = some (.int .i64 0) := (blk_cell BK220.out 1).trans rfl
        have hcz19_2 : wr.cell? ⟨gb220, 2, none⟩ = some (.string (⟨#[]⟩ : ByteArray)) := (blk_cell BK220.out 2).trans rfl
        have hcz19_3 : wr.cell? ⟨gb220, 3, none⟩ = some (.slice none 0 0) := (blk_cell BK220.out 3).trans rfl
        have hcz19_4 : wr.cell? ⟨gb220, 4, none⟩ = some (.slice none 0 0) := (blk_cell BK220.out 4).trans rfl
        have hfz19_0 := blk_frozen BK220.out 0
        have hfz19_1 := blk_frozen BK220.out 1
        have hfz19_2 := blk_frozen BK220.out 2
        have hfz19_3 := blk_frozen BK220.out 3
        have hfz19_4 := blk_frozen BK220.out 4
        obtain ⟨Ao20, co20, eo20⟩ := Kd.R_slice HO_222004.out
        subst eo20
        go_wp2
        refine bodyPost_ret (results_cell_row rfl _ _ gb220 26 #[.int .i64 4, .int .i64 0, .string (⟨#[]⟩ : ByteArray), .slice none 0 0, .slice Ao20 x222004_1.length co20] (0, 0) _ rfl (by (with_reducible repeat (first | refine blk_drewN ?_ _ | refine blk_drew ?_ | refine blk_alloc ?_ _)); refine blk_put (cs := #[.int .i64 4, .int .i64 0, .string (⟨#[]⟩ : ByteArray), .slice none 0 0, .slice none 0 0]) ?_ 4 _ rfl; (with_reducible repeat (first | refine blk_drewN ?_ _ | refine blk_drew ?_ | refine blk_alloc ?_ _)); refine blk_put (cs := #[.int .i64 4, .int .i64 0, .string (⟨#[]⟩ : ByteArray), .slice none 0 0, .slice none 0 0]) ?_ 3 _ rfl; (with_reducible repeat (first | refine blk_drewN ?_ _ | refine blk_drew ?_ | refine blk_alloc ?_ _)); refine blk_put (cs := #[.int .i64 4, .int .i64 0, .string (⟨#[]⟩ : ByteArray), .slice none 0 0, .slice none 0 0]) ?_ 2 _ rfl; (with_reducible repeat (first | refine blk_drewN ?_ _ | refine blk_drew ?_ | refine blk_alloc ?_ _)); refine blk_put (cs := #[.int .i64 4, .int .i64 0, .string (⟨#[]⟩ : ByteArray), .slice none 0 0, .slice none 0 0]) ?_ 1 _ rfl; (with_reducible repeat (first | refine blk_drewN ?_ _ | refine blk_drew ?_ | refine blk_alloc ?_ _)); refine blk_put (cs := #[.int .i64 0, .int .i64 0, .string (⟨#[]⟩ : ByteArray), .slice none 0 0, .slice none 0 0]) ?_ 0 _ rfl; (with_reducible repeat (first | refine blk_drewN ?_ _ | refine blk_drew ?_ | refine blk_alloc ?_ _)); exact BK220.out) Tryz.underlying26 rfl (by kernel_rfl)) rfl ?_
        exact ⟨_, _, by first | rfl | (simp [errW_none, errW_some] <;> rfl) | (simp [*, errW_none, errW_some] <;> rfl), by first | exact Kd.R_nil _ _ _ _ _ | exact Kd.N_nil _ _ _ _ _ | exact Kd.V_nil _ _ _ _ _ | exact Kd.Q_nil _ _ _ _ _ | exact Kd.S_nil _ _ _ _ _, by (with_reducible repeat (first | apply Kd.R_alloc | apply Kd.R_drewN | apply Kd.R_drew)); exact Kd.R_mono (Kd.R_far (p := ⟨gb220, 4, none⟩) (Kd.R_far (p := ⟨gb220, 3, none⟩) (Kd.R_far (p := ⟨gb220, 2, none⟩) (Kd.R_far (p := ⟨gb220, 1, none⟩) (Kd.R_far (p := ⟨gb220, 0, none⟩) (Kd.R_mono HO_222004.out (fun k_ hk => (⟨hk, hk.1⟩ : _ ∧ k_ ≠ gb220))) (fun _ hk => hk.2) (.int .i64 4)) (fun _ hk => hk.2) (.int .i64 0)) (fun _ hk => hk.2) (.string (⟨#[]⟩ : ByteArray))) (fun _ hk => hk.2) (.slice none 0 0)) (fun _ hk => hk.2) (.slice Ao20 x222004_1.length co20)) (fun _ hk => (by simp [Value.ownBlock])), by repeat (first | (with_reducible first | exact HB.out | apply below_alloc | apply pw_below_drewN | apply below_drew1 | refine below_set ?_ GE220.out | refine below_set ?_ GE221.out) | exact HB.out)⟩

end Go.Proofs.YtiamiagjkfioiaaGreatDoor.PT
