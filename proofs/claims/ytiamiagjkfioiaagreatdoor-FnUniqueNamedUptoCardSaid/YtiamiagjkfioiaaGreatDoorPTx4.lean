-- Written by a program over the translation (xprint.py). Lean checks it.
import Derived.Test.YtiamiagjkfioiaaGreatDoorPTx0
namespace Go.Proofs.YtiamiagjkfioiaaGreatDoor.PT
open Go.RowKit Go.Proofs.YtiamiagjkfioiaaGreatDoorW.PrintWords Go.Proofs.YtiamiagjkfioiaaGreatDoorW.PrintLast Go.Proofs.YtiamiagjkfioiaaGreatDoorW.PrintMore
attribute [local go_sem] max2_int min2_int max_two min_two max_three min_three max_four min_four   -- for this text's walks alone
set_option linter.unusedVariables false
set_option linter.unusedSimpArgs false

/-! ### laws_zzFits2: function 7 -/
def laws_zzFits2.l0 : Nat → List ByteArray → Int → Int → Option (Bool)
  | 0, _, _, _ => none
  | k + 1, x8, x9, x10 => if x10 < x9 then (if 0 ≤ x10 then (if x10 < (x8.length : Int) then (if ((rdOf ByteArray.empty x8 x10).size : Int) > 2147483647 then (some false) else (laws_zzFits2.l0 k x8 x9 (wrap64 (x10 + 1)))) else (none)) else (none)) else (some true)
def laws_zzFits2.f (k : Nat) (l0 : List ByteArray) : Option (Bool) := if (l0.length : Int) > 2147483647 then (some false) else (laws_zzFits2.l0 k l0 (l0.length : Int) 0)
theorem laws_zzFits2.mono_l : ∀ k, (∀ y0 y1 y2, LeO (laws_zzFits2.l0 k y0 y1 y2) (laws_zzFits2.l0 (k + 1) y0 y1 y2))
  | 0 => fun _ _ _ r h => by simp [laws_zzFits2.l0] at h
  | k + 1 => by
    have ih0 := laws_zzFits2.mono_l k
    · intro y0 y1 y2
      unfold laws_zzFits2.l0
      repeat' first
      | (with_reducible exact ih0 _ _ _)
      | (with_reducible exact LeO.refl _)
      | (with_reducible exact LeO.none _)
      | (with_reducible refine LeO.ite ?_ ?_)
      | (with_reducible refine LeO.bind ?_ (fun _ => ?_))
      | exact ih0 _ _ _
      | exact LeO.none _
      | refine LeO.ite ?_ ?_
      | refine LeO.bind ?_ (fun _ => ?_)
theorem laws_zzFits2.mono : ∀ a0 k, LeO (laws_zzFits2.f k a0) (laws_zzFits2.f (k + 1) a0) := by
  intro a0 k
  have ih0 := laws_zzFits2.mono_l k
  unfold laws_zzFits2.f
  repeat' first
      | (with_reducible exact ih0 _ _ _)
      | (with_reducible exact LeO.refl _)
      | (with_reducible exact LeO.none _)
      | (with_reducible refine LeO.ite ?_ ?_)
      | (with_reducible refine LeO.bind ?_ (fun _ => ?_))
      | exact ih0 _ _ _
      | exact LeO.none _
      | refine LeO.ite ?_ ?_
      | refine LeO.bind ?_ (fun _ => ?_)
set_option maxHeartbeats 8000000 in
set_option maxRecDepth 100000 in
theorem laws_zzFits2.calls (k : Nat) (A0 : Option Addr) (c0 : Nat) (l0 : List ByteArray) (r : Bool) (w : World) (hr0 : Kd.C Kd.string w A0 l0.length l0) (hc0 : l0.length ≤ c0) (h : laws_zzFits2.f k l0 = some r) :
    Calls Tryz.prog 7 #[.slice A0 l0.length c0] w fun e w' => e = .returned (.bool r) ∧ Drawn0 w w' := by
  have HR0 := Aside0.mk hr0
  have HC0 := Aside0.mk hc0
  clear hr0 hc0
  have H : (if (l0.length : Int) > 2147483647 then (some false) else (laws_zzFits2.l0 k l0 (l0.length : Int) 0)) = some r := h
  clear h
  by_cases c2 : (l0.length : Int) > 2147483647
  · rw [if_pos c2] at H
    have c2b0 : decide (2147483647 < (l0.length : Int)) = true := decide_eq_true c2
    have c2b1 : decide (2147483647 < l0.length) = true := decide_eq_true (by omega)
    clear c2
    obtain rfl := Option.some.inj H
    go_enter Tryz.func7, Tryz.ntmps7
    go_wp2
    go_ret
    exact ⟨by first | rfl | (simp; done) | (simp [*]; done), by repeat (first | exact Drawn0.refl _ | apply Drawn0.step)⟩
  · rw [if_neg c2] at H
    have c2b0 : decide (2147483647 < (l0.length : Int)) = false := decide_eq_false c2
    have c2b1 : decide (2147483647 < l0.length) = false := decide_eq_false (by omega)
    clear c2
    have H' := Aside0.mk H
    clear H
    go_enter Tryz.func7, Tryz.ntmps7
    go_wp2
    go_loopg [10] k (fun kq v10 w' => ∃ (x10_1 : Int), v10 = .int .i64 x10_1 ∧ Aside0 (laws_zzFits2.l0 kq l0 (l0.length : Int) x10_1 = some r) ∧ Aside0 (kq ≤ k) ∧ Drawn0 w w')
    case atStart => exact ⟨(0), (by first | rfl | (simp; done) | (simp [*]; done)), H', ⟨Nat.le_refl _⟩, by repeat (first | exact Drawn0.refl _ | apply Drawn0.step)⟩
    case round =>
      clear H'
      try clear c2
      try clear c2b0
      try clear c2b1
      try clear p2
      obtain ⟨x10_1, rfl, HA, HK1, ⟨m1, rfl⟩⟩ := hrel
      cases gk with
      | zero => exact absurd HA.out (by simp [laws_zzFits2.l0])
      | succ k1 =>
        have H := HA.out
        clear HA
        simp only [laws_zzFits2.l0] at H
        by_cases c3 : x10_1 < (l0.length : Int)
        · rw [if_pos c3] at H
          have c3b0 : decide (x10_1 < (l0.length : Int)) = true := decide_eq_true c3
          clear c3
          by_cases c4 : 0 ≤ x10_1
          · rw [if_pos c4] at H
            have c4b0 : decide (0 ≤ x10_1) = true := decide_eq_true c4
            clear c4
            by_cases c5 : x10_1 < (l0.length : Int)
            · rw [if_pos c5] at H
              have c5b0 : decide (x10_1 < (l0.length : Int)) = true := decide_eq_true c5
              clear c5
              by_cases c6 : ((rdOf ByteArray.empty l0 x10_1).size : Int) > 2147483647
              · rw [if_pos c6] at H
                have c6b0 : decide (2147483647 < ((rdOf ByteArray.empty l0 x10_1).size : Int)) = true := decide_eq_true c6
                have c6b1 : decide (2147483647 < (rdOf ByteArray.empty l0 x10_1).size) = true := decide_eq_true (by omega)
                clear c6
                obtain rfl := Option.some.inj H
                have p152 : 0 ≤ (x10_1 : Int) := of_decide_eq_true (by first | (with_reducible assumption) | assumption)
                have q152 : x10_1 < (l0.length : Int) := of_decide_eq_true (by first | (with_reducible assumption) | assumption)
                obtain ⟨ad152, e152, hx152_0⟩ := Kd.at_string HR0.out x10_1 p152 q152
                cases e152
                replace p152 := eq_true p152
                replace q152 := eq_true q152
                go_wp2
                go_ret
                exact ⟨by first | rfl | (simp; done) | (simp [*]; done), by repeat (first | exact Drawn0.refl _ | apply Drawn0.step)⟩
              · rw [if_neg c6] at H
                have c6b0 : decide (2147483647 < ((rdOf ByteArray.empty l0 x10_1).size : Int)) = false := decide_eq_false c6
                have c6b1 : decide (2147483647 < (rdOf ByteArray.empty l0 x10_1).size) = false := decide_eq_false (by omega)
                clear c6
                have H' := Aside0.mk H
                clear H
                have p152 : 0 ≤ (x10_1 : Int) := of_decide_eq_true (by first | (with_reducible assumption) | assumption)
                have q152 : x10_1 < (l0.length : Int) := of_decide_eq_true (by first | (with_reducible assumption) | assumption)
                obtain ⟨ad152, e152, hx152_0⟩ := Kd.at_string HR0.out x10_1 p152 q152
                cases e152
                replace p152 := eq_true p152
                replace q152 := eq_true q152
                go_wp2
                go_roundg k1
                case measure => have := HK1.out; omega
                case rel => exact ⟨(wrap64 (x10_1 + 1)), (by first | rfl | (simp; done) | (simp [*]; done)), H', ⟨by have := HK1.out; omega⟩, by repeat (first | exact Drawn0.refl _ | apply Drawn0.step)⟩
            · rw [if_neg c5] at H
              exact absurd H (by simp)
          · rw [if_neg c4] at H
            exact absurd H (by simp)
        · rw [if_neg c3] at H
          have c3b0 : decide (x10_1 < (l0.length : Int)) = false := decide_eq_false c3
          clear c3
          obtain rfl := Option.some.inj H
          go_wp2
          go_ret
          exact ⟨by first | rfl | (simp; done) | (simp [*]; done), by repeat (first | exact Drawn0.refl _ | apply Drawn0.step)⟩

/-! ### laws_zzFits1: function 17 -/
/-! ### spec_T: function 26 -/
def spec_T.f (a0 : ByteArray) : Option (Int × Int × ByteArray × List ByteArray × (List (S26))) := some (3, 0, a0, ([] : List ByteArray), ([] : List (S26)))
set_option maxHeartbeats 8000000 in
set_option maxRecDepth 100000 in
theorem spec_T.calls (a0 : ByteArray) (r1 : Int) (r2 : Int) (r3 : ByteArray) (r4 : List ByteArray) (r5 : List (S26)) (w : World) (h : spec_T.f a0 = some (r1, r2, r3, r4, r5)) :
    Calls Tryz.prog 26 #[.string a0] w fun e w' => ∃ v3_ v4_ : Value, e = .returned (.agg #[.int .i64 r1, .int .i64 r2, .string r3, v3_, v4_]) ∧ Kd.R Kd.string 9 w' w.heap.size (fun _ => True) v3_ r4 ∧ Kd.R k26 26 w' w.heap.size (fun k_ => some k_ ≠ (v3_ : Value).ownBlock) v4_ r5 ∧ Below w.heap.size w w' := by
  have hu26 := Tryz.underlying26
  have HB := Aside0.mk (Below.refl w.heap.size w)
  have H : (some (3, 0, a0, ([] : List ByteArray), ([] : List (S26)))) = some (r1, r2, r3, r4, r5) := h
  clear h
  simp only [Option.some.injEq, Prod.mk.injEq] at H
  obtain ⟨rfl, rfl, rfl, rfl, rfl⟩ := H
  go_enter Tryz.func26, Tryz.ntmps26
  go_wp2_with (first | ((with_reducible refine gate_dst (N := 2) rfl ?_); refine box_event ?hg (N := 2) ?hd (cs := #[.int .i64 0, .int .i64 0, .string (⟨#[]⟩ : ByteArray), .slice none 0 0, .slice none 0 0]) (t := 26) ?hr ?_; (case hd => rfl); (case hg => rfl); (case hr => first | (go_simp; done) | (go_simp; rfl)); intro gb155 hg w2 hbox hb; have n0_ := Aside0.mk (below_step (by repeat (first | (with_reducible first | exact HB.out | apply below_alloc | apply pw_below_drewN | apply below_drew1) | exact HB.out)) hb); have n1_ := Aside0.mk (hbox); have n2_ := Aside0.mk ((by rw [hg]; exact (below_size (by repeat (first | (with_reducible first | exact HB.out | apply below_alloc | apply pw_below_drewN | apply below_drew1) | exact HB.out))) : w.heap.size ≤ gb155)); have n3_ := Aside0.mk ((by rw [hg]; exact (below_size (by repeat (first | (with_reducible first | exact HB.out | apply below_alloc | apply pw_below_drewN | apply below_drew1) | exact HB.out))) : w.heap.size ≤ gb155)); clear HB; have HB := n0_; have BK155 := n1_; have GW155 := n2_; have GE155 := n3_; clear n0_ n1_ n2_ n3_; clear hb hbox hg; have hcz3_0 : w2.cell? ⟨gb155, 0, none⟩ = some (.int .i64 0) := (blk_cell BK155.out 0).trans rfl; have hcz3_1 : w2.cell? ⟨gb155, 1, none⟩ = some (.int .i64 0) := (blk_cell BK155.out 1).trans rfl; have hcz3_2 : w2.cell? ⟨gb155, 2, none⟩ = some (.string (⟨#[]⟩ : ByteArray)) := (blk_cell BK155.out 2).trans rfl; have hcz3_3 : w2.cell? ⟨gb155, 3, none⟩ = some (.slice none 0 0) := (blk_cell BK155.out 3).trans rfl; have hcz3_4 : w2.cell? ⟨gb155, 4, none⟩ = some (.slice none 0 0) := (blk_cell BK155.out 4).trans rfl; have hfz3_0 := blk_frozen BK155.out 0; have hfz3_1 := blk_frozen BK155.out 1; have hfz3_2 := blk_frozen BK155.out 2; have hfz3_3 := blk_frozen BK155.out 3; have hfz3_4 := blk_frozen BK155.out 4))
  refine bodyPost_ret (results_cell_row rfl _ _ gb155 26 #[.int .i64 3, .int .i64 0, .string a0, .slice none 0 0, .slice none 0 0] (0, 0) _ rfl (by (with_reducible repeat (first | refine blk_drewN ?_ _ | refine blk_drew ?_ | refine blk_alloc ?_ _)); refine blk_put (cs := #[.int .i64 3, .int .i64 0, .string a0, .slice none 0 0, .slice none 0 0]) ?_ 4 _ rfl; (with_reducible repeat (first | refine blk_drewN ?_ _ | refine blk_drew ?_ | refine blk_alloc ?_ _)); refine blk_put (cs := #[.int .i64 3, .int .i64 0, .string a0, .slice none 0 0, .slice none 0 0]) ?_ 3 _ rfl; (with_reducible repeat (first | refine blk_drewN ?_ _ | refine blk_drew ?_ | refine blk_alloc ?_ _)); refine blk_put (cs := #[.int .i64 3, .int .i64 0, .string (⟨#[]⟩ : ByteArray), .slice none 0 0, .slice none 0 0]) ?_ 2 _ rfl; (with_reducible repeat (first | refine blk_drewN ?_ _ | refine blk_drew ?_ | refine blk_alloc ?_ _)); refine blk_put (cs := #[.int .i64 3, .int .i64 0, .string (⟨#[]⟩ : ByteArray), .slice none 0 0, .slice none 0 0]) ?_ 1 _ rfl; (with_reducible repeat (first | refine blk_drewN ?_ _ | refine blk_drew ?_ | refine blk_alloc ?_ _)); refine blk_put (cs := #[.int .i64 0, .int .i64 0, .string (⟨#[]⟩ : ByteArray), .slice none 0 0, .slice none 0 0]) ?_ 0 _ rfl; (with_reducible repeat (first | refine blk_drewN ?_ _ | refine blk_drew ?_ | refine blk_alloc ?_ _)); exact BK155.out) Tryz.underlying26 rfl (by kernel_rfl)) rfl ?_
  exact ⟨_, _, by first | rfl | (simp [errW_none, errW_some] <;> rfl) | (simp [*, errW_none, errW_some] <;> rfl), by first | exact Kd.R_nil _ _ _ _ _ | exact Kd.N_nil _ _ _ _ _ | exact Kd.V_nil _ _ _ _ _ | exact Kd.Q_nil _ _ _ _ _ | exact Kd.S_nil _ _ _ _ _, by first | exact Kd.R_nil _ _ _ _ _ | exact Kd.N_nil _ _ _ _ _ | exact Kd.V_nil _ _ _ _ _ | exact Kd.Q_nil _ _ _ _ _ | exact Kd.S_nil _ _ _ _ _, by repeat (first | (with_reducible first | exact HB.out | apply below_alloc | apply pw_below_drewN | apply below_drew1 | refine below_set ?_ GE155.out) | exact HB.out)⟩

/-! ### spec_Empty: function 25 -/
def spec_Empty.f  : Option (Int × Int × ByteArray × List ByteArray × (List (S26))) := some (5, 0, (⟨#[]⟩ : ByteArray), ([] : List ByteArray), ([] : List (S26)))
set_option maxHeartbeats 8000000 in
set_option maxRecDepth 100000 in
theorem spec_Empty.calls  (r1 : Int) (r2 : Int) (r3 : ByteArray) (r4 : List ByteArray) (r5 : List (S26)) (w : World) (h : spec_Empty.f  = some (r1, r2, r3, r4, r5)) :
    Calls Tryz.prog 25 #[] w fun e w' => ∃ v3_ v4_ : Value, e = .returned (.agg #[.int .i64 r1, .int .i64 r2, .string r3, v3_, v4_]) ∧ Kd.R Kd.string 9 w' w.heap.size (fun _ => True) v3_ r4 ∧ Kd.R k26 26 w' w.heap.size (fun k_ => some k_ ≠ (v3_ : Value).ownBlock) v4_ r5 ∧ Below w.heap.size w w' := by
  have hu26 := Tryz.underlying26
  have HB := Aside0.mk (Below.refl w.heap.size w)
  have H : (some (5, 0, (⟨#[]⟩ : ByteArray), ([] : List ByteArray), ([] : List (S26)))) = some (r1, r2, r3, r4, r5) := h
  clear h
  simp only [Option.some.injEq, Prod.mk.injEq] at H
  obtain ⟨rfl, rfl, rfl, rfl, rfl⟩ := H
  go_enter Tryz.func25, Tryz.ntmps25
  go_wp2_with (first | ((with_reducible refine gate_dst (N := 0) rfl ?_); refine box_event ?hg (N := 0) ?hd (cs := #[.int .i64 0, .int .i64 0, .string (⟨#[]⟩ : ByteArray), .slice none 0 0, .slice none 0 0]) (t := 26) ?hr ?_; (case hd => rfl); (case hg => rfl); (case hr => first | (go_simp; done) | (go_simp; rfl)); intro gb156 hg w1 hbox hb; have n0_ := Aside0.mk (below_step (by repeat (first | (with_reducible first | exact HB.out | apply below_alloc | apply pw_below_drewN | apply below_drew1) | exact HB.out)) hb); have n1_ := Aside0.mk (hbox); have n2_ := Aside0.mk ((by rw [hg]; exact (below_size (by repeat (first | (with_reducible first | exact HB.out | apply below_alloc | apply pw_below_drewN | apply below_drew1) | exact HB.out))) : w.heap.size ≤ gb156)); have n3_ := Aside0.mk ((by rw [hg]; exact (below_size (by repeat (first | (with_reducible first | exact HB.out | apply below_alloc | apply pw_below_drewN | apply below_drew1) | exact HB.out))) : w.heap.size ≤ gb156)); clear HB; have HB := n0_; have BK156 := n1_; have GW156 := n2_; have GE156 := n3_; clear n0_ n1_ n2_ n3_; clear hb hbox hg; have hcz2_0 : w1.cell? ⟨gb156, 0, none⟩ = some (.int .i64 0) := (blk_cell BK156.out 0).trans rfl; have hcz2_1 : w1.cell? ⟨gb156, 1, none⟩ = some (.int .i64 0) := (blk_cell BK156.out 1).trans rfl; have hcz2_2 : w1.cell? ⟨gb156, 2, none⟩ = some (.string (⟨#[]⟩ : ByteArray)) := (blk_cell BK156.out 2).trans rfl; have hcz2_3 : w1.cell? ⟨gb156, 3, none⟩ = some (.slice none 0 0) := (blk_cell BK156.out 3).trans rfl; have hcz2_4 : w1.cell? ⟨gb156, 4, none⟩ = some (.slice none 0 0) := (blk_cell BK156.out 4).trans rfl; have hfz2_0 := blk_frozen BK156.out 0; have hfz2_1 := blk_frozen BK156.out 1; have hfz2_2 := blk_frozen BK156.out 2; have hfz2_3 := blk_frozen BK156.out 3; have hfz2_4 := blk_frozen BK156.out 4))
  refine bodyPost_ret (results_cell_row rfl _ _ gb156 26 #[.int .i64 5, .int .i64 0, .string (⟨#[]⟩ : ByteArray), .slice none 0 0, .slice none 0 0] (0, 0) _ rfl (by (with_reducible repeat (first | refine blk_drewN ?_ _ | refine blk_drew ?_ | refine blk_alloc ?_ _)); refine blk_put (cs := #[.int .i64 5, .int .i64 0, .string (⟨#[]⟩ : ByteArray), .slice none 0 0, .slice none 0 0]) ?_ 4 _ rfl; (with_reducible repeat (first | refine blk_drewN ?_ _ | refine blk_drew ?_ | refine blk_alloc ?_ _)); refine blk_put (cs := #[.int .i64 5, .int .i64 0, .string (⟨#[]⟩ : ByteArray), .slice none 0 0, .slice none 0 0]) ?_ 3 _ rfl; (with_reducible repeat (first | refine blk_drewN ?_ _ | refine blk_drew ?_ | refine blk_alloc ?_ _)); refine blk_put (cs := #[.int .i64 5, .int .i64 0, .string (⟨#[]⟩ : ByteArray), .slice none 0 0, .slice none 0 0]) ?_ 2 _ rfl; (with_reducible repeat (first | refine blk_drewN ?_ _ | refine blk_drew ?_ | refine blk_alloc ?_ _)); refine blk_put (cs := #[.int .i64 5, .int .i64 0, .string (⟨#[]⟩ : ByteArray), .slice none 0 0, .slice none 0 0]) ?_ 1 _ rfl; (with_reducible repeat (first | refine blk_drewN ?_ _ | refine blk_drew ?_ | refine blk_alloc ?_ _)); refine blk_put (cs := #[.int .i64 0, .int .i64 0, .string (⟨#[]⟩ : ByteArray), .slice none 0 0, .slice none 0 0]) ?_ 0 _ rfl; (with_reducible repeat (first | refine blk_drewN ?_ _ | refine blk_drew ?_ | refine blk_alloc ?_ _)); exact BK156.out) Tryz.underlying26 rfl (by kernel_rfl)) rfl ?_
  exact ⟨_, _, by first | rfl | (simp [errW_none, errW_some] <;> rfl) | (simp [*, errW_none, errW_some] <;> rfl), by first | exact Kd.R_nil _ _ _ _ _ | exact Kd.N_nil _ _ _ _ _ | exact Kd.V_nil _ _ _ _ _ | exact Kd.Q_nil _ _ _ _ _ | exact Kd.S_nil _ _ _ _ _, by first | exact Kd.R_nil _ _ _ _ _ | exact Kd.N_nil _ _ _ _ _ | exact Kd.V_nil _ _ _ _ _ | exact Kd.Q_nil _ _ _ _ _ | exact Kd.S_nil _ _ _ _ _, by repeat (first | (with_reducible first | exact HB.out | apply below_alloc | apply pw_below_drewN | apply below_drew1 | refine below_set ?_ GE156.out) | exact HB.out)⟩

/-! ### spec_sayName: function 28 -/
def spec_sayName.l0 : Nat → ByteArray → Int → Option (Bool)
  | 0, _, _ => none
  | k + 1, x0, x3 => if x3 < (x0.size : Int) then (if 0 ≤ x3 then (if (bt x0 x3) ≥ 97 then (if (bt x0 x3) ≤ 122 then (spec_sayName.l0 k x0 (wrap64 (x3 + 1))) else (if (bt x0 x3) ≥ 65 then (if (bt x0 x3) ≤ 90 then (spec_sayName.l0 k x0 (wrap64 (x3 + 1))) else (if (bt x0 x3) ≥ 48 then (if (bt x0 x3) ≤ 57 then (spec_sayName.l0 k x0 (wrap64 (x3 + 1))) else (if (bt x0 x3) = 95 then (spec_sayName.l0 k x0 (wrap64 (x3 + 1))) else (if ((bt x0 x3) = 45) then (spec_sayName.l0 k x0 (wrap64 (x3 + 1))) else (some false)))) else (if (bt x0 x3) = 95 then (spec_sayName.l0 k x0 (wrap64 (x3 + 1))) else (if ((bt x0 x3) = 45) then (spec_sayName.l0 k x0 (wrap64 (x3 + 1))) else (some false))))) else (if (bt x0 x3) ≥ 48 then (if (bt x0 x3) ≤ 57 then (spec_sayName.l0 k x0 (wrap64 (x3 + 1))) else (if (bt x0 x3) = 95 then (spec_sayName.l0 k x0 (wrap64 (x3 + 1))) else (if ((bt x0 x3) = 45) then (spec_sayName.l0 k x0 (wrap64 (x3 + 1))) else (some false)))) else (if (bt x0 x3) = 95 then (spec_sayName.l0 k x0 (wrap64 (x3 + 1))) else (if ((bt x0 x3) = 45) then (spec_sayName.l0 k x0 (wrap64 (x3 + 1))) else (some false)))))) else (if (bt x0 x3) ≥ 65 then (if (bt x0 x3) ≤ 90 then (spec_sayName.l0 k x0 (wrap64 (x3 + 1))) else (if (bt x0 x3) ≥ 48 then (if (bt x0 x3) ≤ 57 then (spec_sayName.l0 k x0 (wrap64 (x3 + 1))) else (if (bt x0 x3) = 95 then (spec_sayName.l0 k x0 (wrap64 (x3 + 1))) else (if ((bt x0 x3) = 45) then (spec_sayName.l0 k x0 (wrap64 (x3 + 1))) else (some false)))) else (if (bt x0 x3) = 95 then (spec_sayName.l0 k x0 (wrap64 (x3 + 1))) else (if ((bt x0 x3) = 45) then (spec_sayName.l0 k x0 (wrap64 (x3 + 1))) else (some false))))) else (if (bt x0 x3) ≥ 48 then (if (bt x0 x3) ≤ 57 then (spec_sayName.l0 k x0 (wrap64 (x3 + 1))) else (if (bt x0 x3) = 95 then (spec_sayName.l0 k x0 (wrap64 (x3 + 1))) else (if ((bt x0 x3) = 45) then (spec_sayName.l0 k x0 (wrap64 (x3 + 1))) else (some false)))) else (if (bt x0 x3) = 95 then (spec_sayName.l0 k x0 (wrap64 (x3 + 1))) else (if ((bt x0 x3) = 45) then (spec_sayName.l0 k x0 (wrap64 (x3 + 1))) else (some false)))))) else (none)) else (some (x0.toList != ([] : List UInt8)))
def spec_sayName.f (k : Nat) (a0 : ByteArray) : Option (Bool) := spec_sayName.l0 k a0 0
theorem spec_sayName.mono_l : ∀ k, (∀ y0 y1, LeO (spec_sayName.l0 k y0 y1) (spec_sayName.l0 (k + 1) y0 y1))
  | 0 => fun _ _ r h => by simp [spec_sayName.l0] at h
  | k + 1 => by
    have ih0 := spec_sayName.mono_l k
    · intro y0 y1
      unfold spec_sayName.l0
      repeat' first
      | (with_reducible exact ih0 _ _)
      | (with_reducible exact LeO.refl _)
      | (with_reducible exact LeO.none _)
      | (with_reducible refine LeO.ite ?_ ?_)
      | (with_reducible refine LeO.bind ?_ (fun _ => ?_))
      | exact ih0 _ _
      | exact LeO.none _
      | refine LeO.ite ?_ ?_
      | refine LeO.bind ?_ (fun _ => ?_)
theorem spec_sayName.mono : ∀ a0 k, LeO (spec_sayName.f k a0) (spec_sayName.f (k + 1) a0) := by
  intro a0 k
  have ih0 := spec_sayName.mono_l k
  unfold spec_sayName.f
  repeat' first
      | (with_reducible exact ih0 _ _)
      | (with_reducible exact LeO.refl _)
      | (with_reducible exact LeO.none _)
      | (with_reducible refine LeO.ite ?_ ?_)
      | (with_reducible refine LeO.bind ?_ (fun _ => ?_))
      | exact ih0 _ _
      | exact LeO.none _
      | refine LeO.ite ?_ ?_
      | refine LeO.bind ?_ (fun _ => ?_)
set_option maxHeartbeats 8000000 in
set_option maxRecDepth 100000 in
theorem spec_sayName.calls (k : Nat) (a0 : ByteArray) (r : Bool) (w : World) (h : spec_sayName.f k a0 = some r) :
    Calls Tryz.prog 28 #[.string a0] w fun e w' => e = .returned (.bool r) ∧ Drawn0 w w' := by
  have H : (spec_sayName.l0 k a0 0) = some r := h
  clear h
  have H' := Aside0.mk H
  clear H
  go_enter Tryz.func28, Tryz.ntmps28
  go_wp2
  go_loopg [3] k (fun kq v3 w' => ∃ (x3_1 : Int), v3 = .int .i64 x3_1 ∧ Aside0 (spec_sayName.l0 kq a0 x3_1 = some r) ∧ Aside0 (kq ≤ k) ∧ Drawn0 w w')
  case atStart => exact ⟨(0), (by first | rfl | (simp; done) | (simp [*]; done)), H', ⟨Nat.le_refl _⟩, by repeat (first | exact Drawn0.refl _ | apply Drawn0.step)⟩
  case round =>
    clear H'
    obtain ⟨x3_1, rfl, HA, HK1, ⟨m1, rfl⟩⟩ := hrel
    cases gk with
    | zero => exact absurd HA.out (by simp [spec_sayName.l0])
    | succ k1 =>
      have H := HA.out
      clear HA
      simp only [spec_sayName.l0] at H
      by_cases c2 : x3_1 < (a0.size : Int)
      · rw [if_pos c2] at H
        have c2b0 : decide (x3_1 < (a0.size : Int)) = true := decide_eq_true c2
        clear c2
        by_cases c3 : 0 ≤ x3_1
        · rw [if_pos c3] at H
          have c3b0 : decide (0 ≤ x3_1) = true := decide_eq_true c3
          clear c3
          by_cases c5 : (bt a0 x3_1) ≥ 97
          · rw [if_pos c5] at H
            have c5b0 : decide (97 ≤ (bt a0 x3_1)) = true := decide_eq_true c5
            clear c5
            by_cases c6 : (bt a0 x3_1) ≤ 122
            · rw [if_pos c6] at H
              have c6b0 : decide ((bt a0 x3_1) ≤ 122) = true := decide_eq_true c6
              clear c6
              have H' := Aside0.mk H
              clear H
              have p4 : 0 ≤ (x3_1 : Int) := of_decide_eq_true (by first | (with_reducible assumption) | assumption)
              have q4 : x3_1 < (a0.size : Int) := of_decide_eq_true (by first | (with_reducible assumption) | assumption)
              have hx4 := bt_at a0 x3_1
              replace p4 := eq_true p4
              replace q4 := eq_true q4
              go_wp2
              go_roundg k1
              case measure => have := HK1.out; omega
              case rel => exact ⟨(wrap64 (x3_1 + 1)), (by first | rfl | (simp; done) | (simp [*]; done)), H', ⟨by have := HK1.out; omega⟩, by repeat (first | exact Drawn0.refl _ | apply Drawn0.step)⟩
            · rw [if_neg c6] at H
              have c6b0 : decide ((bt a0 x3_1) ≤ 122) = false := decide_eq_false c6
              clear c6
              by_cases c7 : (bt a0 x3_1) ≥ 65
              · rw [if_pos c7] at H
                have c7b0 : decide (65 ≤ (bt a0 x3_1)) = true := decide_eq_true c7
                clear c7
                by_cases c8 : (bt a0 x3_1) ≤ 90
                · rw [if_pos c8] at H
                  have c8b0 : decide ((bt a0 x3_1) ≤ 90) = true := decide_eq_true c8
                  clear c8
                  have H' := Aside0.mk H
                  clear H
                  have p4 : 0 ≤ (x3_1 : Int) := of_decide_eq_true (by first | (with_reducible assumption) | assumption)
                  have q4 : x3_1 < (a0.size : Int) := of_decide_eq_true (by first | (with_reducible assumption) | assumption)
                  have hx4 := bt_at a0 x3_1
                  replace p4 := eq_true p4
                  replace q4 := eq_true q4
                  go_wp2
                  go_roundg k1
                  case measure => have := HK1.out; omega
                  case rel => exact ⟨(wrap64 (x3_1 + 1)), (by first | rfl | (simp; done) | (simp [*]; done)), H', ⟨by have := HK1.out; omega⟩, by repeat (first | exact Drawn0.refl _ | apply Drawn0.step)⟩
                · rw [if_neg c8] at H
                  have c8b0 : decide ((bt a0 x3_1) ≤ 90) = false := decide_eq_false c8
                  clear c8
                  by_cases c9 : (bt a0 x3_1) ≥ 48
                  · rw [if_pos c9] at H
                    have c9b0 : decide (48 ≤ (bt a0 x3_1)) = true := decide_eq_true c9
                    clear c9
                    by_cases c10 : (bt a0 x3_1) ≤ 57
                    · rw [if_pos c10] at H
                      have c10b0 : decide ((bt a0 x3_1) ≤ 57) = true := decide_eq_true c10
                      clear c10
                      have H' := Aside0.mk H
                      clear H
                      have p4 : 0 ≤ (x3_1 : Int) := of_decide_eq_true (by first | (with_reducible assumption) | assumption)
                      have q4 : x3_1 < (a0.size : Int) := of_decide_eq_true (by first | (with_reducible assumption) | assumption)
                      have hx4 := bt_at a0 x3_1
                      replace p4 := eq_true p4
                      replace q4 := eq_true q4
                      go_wp2
                      go_roundg k1
                      case measure => have := HK1.out; omega
                      case rel => exact ⟨(wrap64 (x3_1 + 1)), (by first | rfl | (simp; done) | (simp [*]; done)), H', ⟨by have := HK1.out; omega⟩, by repeat (first | exact Drawn0.refl _ | apply Drawn0.step)⟩
                    · rw [if_neg c10] at H
                      have c10b0 : decide ((bt a0 x3_1) ≤ 57) = false := decide_eq_false c10
                      clear c10
                      by_cases c11 : (bt a0 x3_1) = 95
                      · rw [if_pos c11] at H
                        have c11b0 : ((bt a0 x3_1) == 95) = true := beq_iff_eq.mpr c11
                        have c11b1 : ((bt a0 x3_1) != 95) = false := bne_eq_false_iff_eq.mpr c11
                        clear c11
                        have H' := Aside0.mk H
                        clear H
                        have p4 : 0 ≤ (x3_1 : Int) := of_decide_eq_true (by first | (with_reducible assumption) | assumption)
                        have q4 : x3_1 < (a0.size : Int) := of_decide_eq_true (by first | (with_reducible assumption) | assumption)
                        have hx4 := bt_at a0 x3_1
                        replace p4 := eq_true p4
                        replace q4 := eq_true q4
                        go_wp2
                        go_roundg k1
                        case measure => have := HK1.out; omega
                        case rel => exact ⟨(wrap64 (x3_1 + 1)), (by first | rfl | (simp; done) | (simp [*]; done)), H', ⟨by have := HK1.out; omega⟩, by repeat (first | exact Drawn0.refl _ | apply Drawn0.step)⟩
                      · rw [if_neg c11] at H
                        have c11b0 : ((bt a0 x3_1) == 95) = false := beq_eq_false_iff_ne.mpr c11
                        have c11b1 : ((bt a0 x3_1) != 95) = true := bne_iff_ne.mpr c11
                        by_cases c12 : ((bt a0 x3_1) = 45)
                        · rw [if_pos c12] at H
                          have c12b0 : ((bt a0 x3_1) == 45) = true := beq_iff_eq.mpr c12
                          have c12b1 : ((bt a0 x3_1) != 45) = false := bne_eq_false_iff_eq.mpr c12
                          clear c12
                          have H' := Aside0.mk H
                          clear H
                          have p4 : 0 ≤ (x3_1 : Int) := of_decide_eq_true (by first | (with_reducible assumption) | assumption)
                          have q4 : x3_1 < (a0.size : Int) := of_decide_eq_true (by first | (with_reducible assumption) | assumption)
                          have hx4 := bt_at a0 x3_1
                          replace p4 := eq_true p4
                          replace q4 := eq_true q4
                          go_wp2
                          go_roundg k1
                          case measure => have := HK1.out; omega
                          case rel => exact ⟨(wrap64 (x3_1 + 1)), (by first | rfl | (simp; done) | (simp [*]; done)), H', ⟨by have := HK1.out; omega⟩, by repeat (first | exact Drawn0.refl _ | apply Drawn0.step)⟩
                        · rw [if_neg c12] at H
                          have c12b0 : ((bt a0 x3_1) == 45) = false := beq_eq_false_iff_ne.mpr c12
                          have c12b1 : ((bt a0 x3_1) != 45) = true := bne_iff_ne.mpr c12
                          obtain rfl := Option.some.inj H
                          have p4 : 0 ≤ (x3_1 : Int) := of_decide_eq_true (by first | (with_reducible assumption) | assumption)
                          have q4 : x3_1 < (a0.size : Int) := of_decide_eq_true (by first | (with_reducible assumption) | assumption)
                          have hx4 := bt_at a0 x3_1
                          replace p4 := eq_true p4
                          replace q4 := eq_true q4
                          go_wp2
                          go_ret
                          exact ⟨by first | rfl | (simp; done) | (simp [*]; done), by repeat (first | exact Drawn0.refl _ | apply Drawn0.step)⟩
                  · rw [if_neg c9] at H
                    have c9b0 : decide (48 ≤ (bt a0 x3_1)) = false := decide_eq_false c9
                    clear c9
                    by_cases c13 : (bt a0 x3_1) = 95
                    · rw [if_pos c13] at H
                      have c13b0 : ((bt a0 x3_1) == 95) = true := beq_iff_eq.mpr c13
                      have c13b1 : ((bt a0 x3_1) != 95) = false := bne_eq_false_iff_eq.mpr c13
                      clear c13
                      have H' := Aside0.mk H
                      clear H
                      have p4 : 0 ≤ (x3_1 : Int) := of_decide_eq_true (by first | (with_reducible assumption) | assumption)
                      have q4 : x3_1 < (a0.size : Int) := of_decide_eq_true (by first | (with_reducible assumption) | assumption)
                      have hx4 := bt_at a0 x3_1
                      replace p4 := eq_true p4
                      replace q4 := eq_true q4
                      go_wp2
                      go_roundg k1
                      case measure => have := HK1.out; omega
                      case rel => exact ⟨(wrap64 (x3_1 + 1)), (by first | rfl | (simp; done) | (simp [*]; done)), H', ⟨by have := HK1.out; omega⟩, by repeat (first | exact Drawn0.refl _ | apply Drawn0.step)⟩
                    · rw [if_neg c13] at H
                      have c13b0 : ((bt a0 x3_1) == 95) = false := beq_eq_false_iff_ne.mpr c13
                      have c13b1 : ((bt a0 x3_1) != 95) = true := bne_iff_ne.mpr c13
                      by_cases c14 : ((bt a0 x3_1) = 45)
                      · rw [if_pos c14] at H
                        have c14b0 : ((bt a0 x3_1) == 45) = true := beq_iff_eq.mpr c14
                        have c14b1 : ((bt a0 x3_1) != 45) = false := bne_eq_false_iff_eq.mpr c14
                        clear c14
                        have H' := Aside0.mk H
                        clear H
                        have p4 : 0 ≤ (x3_1 : Int) := of_decide_eq_true (by first | (with_reducible assumption) | assumption)
                        have q4 : x3_1 < (a0.size : Int) := of_decide_eq_true (by first | (with_reducible assumption) | assumption)
                        have hx4 := bt_at a0 x3_1
                        replace p4 := eq_true p4
                        replace q4 := eq_true q4
                        go_wp2
                        go_roundg k1
                        case measure => have := HK1.out; omega
                        case rel => exact ⟨(wrap64 (x3_1 + 1)), (by first | rfl | (simp; done) | (simp [*]; done)), H', ⟨by have := HK1.out; omega⟩, by repeat (first | exact Drawn0.refl _ | apply Drawn0.step)⟩
                      · rw [if_neg c14] at H
                        have c14b0 : ((bt a0 x3_1) == 45) = false := beq_eq_false_iff_ne.mpr c14
                        have c14b1 : ((bt a0 x3_1) != 45) = true := bne_iff_ne.mpr c14
                        obtain rfl := Option.some.inj H
                        have p4 : 0 ≤ (x3_1 : Int) := of_decide_eq_true (by first | (with_reducible assumption) | assumption)
                        have q4 : x3_1 < (a0.size : Int) := of_decide_eq_true (by first | (with_reducible assumption) | assumption)
                        have hx4 := bt_at a0 x3_1
                        replace p4 := eq_true p4
                        replace q4 := eq_true q4
                        go_wp2
                        go_ret
                        exact ⟨by first | rfl | (simp; done) | (simp [*]; done), by repeat (first | exact Drawn0.refl _ | apply Drawn0.step)⟩
              · rw [if_neg c7] at H
                have c7b0 : decide (65 ≤ (bt a0 x3_1)) = false := decide_eq_false c7
                clear c7
                by_cases c15 : (bt a0 x3_1) ≥ 48
                · rw [if_pos c15] at H
                  have c15b0 : decide (48 ≤ (bt a0 x3_1)) = true := decide_eq_true c15
                  clear c15
                  by_cases c16 : (bt a0 x3_1) ≤ 57
                  · rw [if_pos c16] at H
                    have c16b0 : decide ((bt a0 x3_1) ≤ 57) = true := decide_eq_true c16
                    clear c16
                    have H' := Aside0.mk H
                    clear H
                    have p4 : 0 ≤ (x3_1 : Int) := of_decide_eq_true (by first | (with_reducible assumption) | assumption)
                    have q4 : x3_1 < (a0.size : Int) := of_decide_eq_true (by first | (with_reducible assumption) | assumption)
                    have hx4 := bt_at a0 x3_1
                    replace p4 := eq_true p4
                    replace q4 := eq_true q4
                    go_wp2
                    go_roundg k1
                    case measure => have := HK1.out; omega
                    case rel => exact ⟨(wrap64 (x3_1 + 1)), (by first | rfl | (simp; done) | (simp [*]; done)), H', ⟨by have := HK1.out; omega⟩, by repeat (first | exact Drawn0.refl _ | apply Drawn0.step)⟩
                  · rw [if_neg c16] at H
                    have c16b0 : decide ((bt a0 x3_1) ≤ 57) = false := decide_eq_false c16
                    clear c16
                    by_cases c17 : (bt a0 x3_1) = 95
                    · rw [if_pos c17] at H
                      have c17b0 : ((bt a0 x3_1) == 95) = true := beq_iff_eq.mpr c17
                      have c17b1 : ((bt a0 x3_1) != 95) = false := bne_eq_false_iff_eq.mpr c17
                      clear c17
                      have H' := Aside0.mk H
                      clear H
                      have p4 : 0 ≤ (x3_1 : Int) := of_decide_eq_true (by first | (with_reducible assumption) | assumption)
                      have q4 : x3_1 < (a0.size : Int) := of_decide_eq_true (by first | (with_reducible assumption) | assumption)
                      have hx4 := bt_at a0 x3_1
                      replace p4 := eq_true p4
                      replace q4 := eq_true q4
                      go_wp2
                      go_roundg k1
                      case measure => have := HK1.out; omega
                      case rel => exact ⟨(wrap64 (x3_1 + 1)), (by first | rfl | (simp; done) | (simp [*]; done)), H', ⟨by have := HK1.out; omega⟩, by repeat (first | exact Drawn0.refl _ | apply Drawn0.step)⟩
                    · rw [if_neg c17] at H
                      have c17b0 : ((bt a0 x3_1) == 95) = false := beq_eq_false_iff_ne.mpr c17
                      have c17b1 : ((bt a0 x3_1) != 95) = true := bne_iff_ne.mpr c17
                      by_cases c18 : ((bt a0 x3_1) = 45)
                      · rw [if_pos c18] at H
                        have c18b0 : ((bt a0 x3_1) == 45) = true := beq_iff_eq.mpr c18
                        have c18b1 : ((bt a0 x3_1) != 45) = false := bne_eq_false_iff_eq.mpr c18
                        clear c18
                        have H' := Aside0.mk H
                        clear H
                        have p4 : 0 ≤ (x3_1 : Int) := of_decide_eq_true (by first | (with_reducible assumption) | assumption)
                        have q4 : x3_1 < (a0.size : Int) := of_decide_eq_true (by first | (with_reducible assumption) | assumption)
                        have hx4 := bt_at a0 x3_1
                        replace p4 := eq_true p4
                        replace q4 := eq_true q4
                        go_wp2
                        go_roundg k1
                        case measure => have := HK1.out; omega
                        case rel => exact ⟨(wrap64 (x3_1 + 1)), (by first | rfl | (simp; done) | (simp [*]; done)), H', ⟨by have := HK1.out; omega⟩, by repeat (first | exact Drawn0.refl _ | apply Drawn0.step)⟩
                      · rw [if_neg c18] at H
                        have c18b0 : ((bt a0 x3_1) == 45) = false := beq_eq_false_iff_ne.mpr c18
                        have c18b1 : ((bt a0 x3_1) != 45) = true := bne_iff_ne.mpr c18
                        obtain rfl := Option.some.inj H
                        have p4 : 0 ≤ (x3_1 : Int) := of_decide_eq_true (by first | (with_reducible assumption) | assumption)
                        have q4 : x3_1 < (a0.size : Int) := of_decide_eq_true (by first | (with_reducible assumption) | assumption)
                        have hx4 := bt_at a0 x3_1
                        replace p4 := eq_true p4
                        replace q4 := eq_true q4
                        go_wp2
                        go_ret
                        exact ⟨by first | rfl | (simp; done) | (simp [*]; done), by repeat (first | exact Drawn0.refl _ | apply Drawn0.step)⟩
                · rw [if_neg c15] at H
                  have c15b0 : decide (48 ≤ (bt a0 x3_1)) = false := decide_eq_false c15
                  clear c15
                  by_cases c19 : (bt a0 x3_1) = 95
                  · rw [if_pos c19] at H
                    have c19b0 : ((bt a0 x3_1) == 95) = true := beq_iff_eq.mpr c19
                    have c19b1 : ((bt a0 x3_1) != 95) = false := bne_eq_false_iff_eq.mpr c19
                    clear c19
                    have H' := Aside0.mk H
                    clear H
                    have p4 : 0 ≤ (x3_1 : Int) := of_decide_eq_true (by first | (with_reducible assumption) | assumption)
                    have q4 : x3_1 < (a0.size : Int) := of_decide_eq_true (by first | (with_reducible assumption) | assumption)
                    have hx4 := bt_at a0 x3_1
                    replace p4 := eq_true p4
                    replace q4 := eq_true q4
                    go_wp2
                    go_roundg k1
                    case measure => have := HK1.out; omega
                    case rel => exact ⟨(wrap64 (x3_1 + 1)), (by first | rfl | (simp; done) | (simp [*]; done)), H', ⟨by have := HK1.out; omega⟩, by repeat (first | exact Drawn0.refl _ | apply Drawn0.step)⟩
                  · rw [if_neg c19] at H
                    have c19b0 : ((bt a0 x3_1) == 95) = false := beq_eq_false_iff_ne.mpr c19
                    have c19b1 : ((bt a0 x3_1) != 95) = true := bne_iff_ne.mpr c19
                    by_cases c20 : ((bt a0 x3_1) = 45)
                    · rw [if_pos c20] at H
                      have c20b0 : ((bt a0 x3_1) == 45) = true := beq_iff_eq.mpr c20
                      have c20b1 : ((bt a0 x3_1) != 45) = false := bne_eq_false_iff_eq.mpr c20
                      clear c20
                      have H' := Aside0.mk H
                      clear H
                      have p4 : 0 ≤ (x3_1 : Int) := of_decide_eq_true (by first | (with_reducible assumption) | assumption)
                      have q4 : x3_1 < (a0.size : Int) := of_decide_eq_true (by first | (with_reducible assumption) | assumption)
                      have hx4 := bt_at a0 x3_1
                      replace p4 := eq_true p4
                      replace q4 := eq_true q4
                      go_wp2
                      go_roundg k1
                      case measure => have := HK1.out; omega
                      case rel => exact ⟨(wrap64 (x3_1 + 1)), (by first | rfl | (simp; done) | (simp [*]; done)), H', ⟨by have := HK1.out; omega⟩, by repeat (first | exact Drawn0.refl _ | apply Drawn0.step)⟩
                    · rw [if_neg c20] at H
                      have c20b0 : ((bt a0 x3_1) == 45) = false := beq_eq_false_iff_ne.mpr c20
                      have c20b1 : ((bt a0 x3_1) != 45) = true := bne_iff_ne.mpr c20
                      obtain rfl := Option.some.inj H
                      have p4 : 0 ≤ (x3_1 : Int) := of_decide_eq_true (by first | (with_reducible assumption) | assumption)
                      have q4 : x3_1 < (a0.size : Int) := of_decide_eq_true (by first | (with_reducible assumption) | assumption)
                      have hx4 := bt_at a0 x3_1
                      replace p4 := eq_true p4
                      replace q4 := eq_true q4
                      go_wp2
                      go_ret
                      exact ⟨by first | rfl | (simp; done) | (simp [*]; done), by repeat (first | exact Drawn0.refl _ | apply Drawn0.step)⟩
          · rw [if_neg c5] at H
            have c5b0 : decide (97 ≤ (bt a0 x3_1)) = false := decide_eq_false c5
            clear c5
            by_cases c21 : (bt a0 x3_1) ≥ 65
            · rw [if_pos c21] at H
              have c21b0 : decide (65 ≤ (bt a0 x3_1)) = true := decide_eq_true c21
              clear c21
              by_cases c22 : (bt a0 x3_1) ≤ 90
              · rw [if_pos c22] at H
                have c22b0 : decide ((bt a0 x3_1) ≤ 90) = true := decide_eq_true c22
                clear c22
                have H' := Aside0.mk H
                clear H
                have p4 : 0 ≤ (x3_1 : Int) := of_decide_eq_true (by first | (with_reducible assumption) | assumption)
                have q4 : x3_1 < (a0.size : Int) := of_decide_eq_true (by first | (with_reducible assumption) | assumption)
                have hx4 := bt_at a0 x3_1
                replace p4 := eq_true p4
                replace q4 := eq_true q4
                go_wp2
                go_roundg k1
                case measure => have := HK1.out; omega
                case rel => exact ⟨(wrap64 (x3_1 + 1)), (by first | rfl | (simp; done) | (simp [*]; done)), H', ⟨by have := HK1.out; omega⟩, by repeat (first | exact Drawn0.refl _ | apply Drawn0.step)⟩
              · rw [if_neg c22] at H
                have c22b0 : decide ((bt a0 x3_1) ≤ 90) = false := decide_eq_false c22
                clear c22
                by_cases c23 : (bt a0 x3_1) ≥ 48
                · rw [if_pos c23] at H
                  have c23b0 : decide (48 ≤ (bt a0 x3_1)) = true := decide_eq_true c23
                  clear c23
                  by_cases c24 : (bt a0 x3_1) ≤ 57
                  · rw [if_pos c24] at H
                    have c24b0 : decide ((bt a0 x3_1) ≤ 57) = true := decide_eq_true c24
                    clear c24
                    have H' := Aside0.mk H
                    clear H
                    have p4 : 0 ≤ (x3_1 : Int) := of_decide_eq_true (by first | (with_reducible assumption) | assumption)
                    have q4 : x3_1 < (a0.size : Int) := of_decide_eq_true (by first | (with_reducible assumption) | assumption)
                    have hx4 := bt_at a0 x3_1
                    replace p4 := eq_true p4
                    replace q4 := eq_true q4
                    go_wp2
                    go_roundg k1
                    case measure => have := HK1.out; omega
                    case rel => exact ⟨(wrap64 (x3_1 + 1)), (by first | rfl | (simp; done) | (simp [*]; done)), H', ⟨by have := HK1.out; omega⟩, by repeat (first | exact Drawn0.refl _ | apply Drawn0.step)⟩
                  · rw [if_neg c24] at H
                    have c24b0 : decide ((bt a0 x3_1) ≤ 57) = false := decide_eq_false c24
                    clear c24
                    by_cases c25 : (bt a0 x3_1) = 95
                    · rw [if_pos c25] at H
                      have c25b0 : ((bt a0 x3_1) == 95) = true := beq_iff_eq.mpr c25
                      have c25b1 : ((bt a0 x3_1) != 95) = false := bne_eq_false_iff_eq.mpr c25
                      clear c25
                      have H' := Aside0.mk H
                      clear H
                      have p4 : 0 ≤ (x3_1 : Int) := of_decide_eq_true (by first | (with_reducible assumption) | assumption)
                      have q4 : x3_1 < (a0.size : Int) := of_decide_eq_true (by first | (with_reducible assumption) | assumption)
                      have hx4 := bt_at a0 x3_1
                      replace p4 := eq_true p4
                      replace q4 := eq_true q4
                      go_wp2
                      go_roundg k1
                      case measure => have := HK1.out; omega
                      case rel => exact ⟨(wrap64 (x3_1 + 1)), (by first | rfl | (simp; done) | (simp [*]; done)), H', ⟨by have := HK1.out; omega⟩, by repeat (first | exact Drawn0.refl _ | apply Drawn0.step)⟩
                    · rw [if_neg c25] at H
                      have c25b0 : ((bt a0 x3_1) == 95) = false := beq_eq_false_iff_ne.mpr c25
                      have c25b1 : ((bt a0 x3_1) != 95) = true := bne_iff_ne.mpr c25
                      by_cases c26 : ((bt a0 x3_1) = 45)
                      · rw [if_pos c26] at H
                        have c26b0 : ((bt a0 x3_1) == 45) = true := beq_iff_eq.mpr c26
                        have c26b1 : ((bt a0 x3_1) != 45) = false := bne_eq_false_iff_eq.mpr c26
                        clear c26
                        have H' := Aside0.mk H
                        clear H
                        have p4 : 0 ≤ (x3_1 : Int) := of_decide_eq_true (by first | (with_reducible assumption) | assumption)
                        have q4 : x3_1 < (a0.size : Int) := of_decide_eq_true (by first | (with_reducible assumption) | assumption)
                        have hx4 := bt_at a0 x3_1
                        replace p4 := eq_true p4
                        replace q4 := eq_true q4
                        go_wp2
                        go_roundg k1
                        case measure => have := HK1.out; omega
                        case rel => exact ⟨(wrap64 (x3_1 + 1)), (by first | rfl | (simp; done) | (simp [*]; done)), H', ⟨by have := HK1.out; omega⟩, by repeat (first | exact Drawn0.refl _ | apply Drawn0.step)⟩
                      · rw [if_neg c26] at H
                        have c26b0 : ((bt a0 x3_1) == 45) = false := beq_eq_false_iff_ne.mpr c26
                        have c26b1 : ((bt a0 x3_1) != 45) = true := bne_iff_ne.mpr c26
                        obtain rfl := Option.some.inj H
                        have p4 : 0 ≤ (x3_1 : Int) := of_decide_eq_true (by first | (with_reducible assumption) | assumption)
                        have q4 : x3_1 < (a0.size : Int) := of_decide_eq_true (by first | (with_reducible assumption) | assumption)
                        have hx4 := bt_at a0 x3_1
                        replace p4 := eq_true p4
                        replace q4 := eq_true q4
                        go_wp2
                        go_ret
                        exact ⟨by first | rfl | (simp; done) | (simp [*]; done), by repeat (first | exact Drawn0.refl _ | apply Drawn0.step)⟩
                · rw [if_neg c23] at H
                  have c23b0 : decide (48 ≤ (bt a0 x3_1)) = false := decide_eq_false c23
                  clear c23
                  by_cases c27 : (bt a0 x3_1) = 95
                  · rw [if_pos c27] at H
                    have c27b0 : ((bt a0 x3_1) == 95) = true := beq_iff_eq.mpr c27
                    have c27b1 : ((bt a0 x3_1) != 95) = false := bne_eq_false_iff_eq.mpr c27
                    clear c27
                    have H' := Aside0.mk H
                    clear H
                    have p4 : 0 ≤ (x3_1 : Int) := of_decide_eq_true (by first | (with_reducible assumption) | assumption)
                    have q4 : x3_1 < (a0.size : Int) := of_decide_eq_true (by first | (with_reducible assumption) | assumption)
                    have hx4 := bt_at a0 x3_1
                    replace p4 := eq_true p4
                    replace q4 := eq_true q4
                    go_wp2
                    go_roundg k1
                    case measure => have := HK1.out; omega
                    case rel => exact ⟨(wrap64 (x3_1 + 1)), (by first | rfl | (simp; done) | (simp [*]; done)), H', ⟨by have := HK1.out; omega⟩, by repeat (first | exact Drawn0.refl _ | apply Drawn0.step)⟩
                  · rw [if_neg c27] at H
                    have c27b0 : ((bt a0 x3_1) == 95) = false := beq_eq_false_iff_ne.mpr c27
                    have c27b1 : ((bt a0 x3_1) != 95) = true := bne_iff_ne.mpr c27
                    by_cases c28 : ((bt a0 x3_1) = 45)
                    · rw [if_pos c28] at H
                      have c28b0 : ((bt a0 x3_1) == 45) = true := beq_iff_eq.mpr c28
                      have c28b1 : ((bt a0 x3_1) != 45) = false := bne_eq_false_iff_eq.mpr c28
                      clear c28
                      have H' := Aside0.mk H
                      clear H
                      have p4 : 0 ≤ (x3_1 : Int) := of_decide_eq_true (by first | (with_reducible assumption) | assumption)
                      have q4 : x3_1 < (a0.size : Int) := of_decide_eq_true (by first | (with_reducible assumption) | assumption)
                      have hx4 := bt_at a0 x3_1
                      replace p4 := eq_true p4
                      replace q4 := eq_true q4
                      go_wp2
                      go_roundg k1
                      case measure => have := HK1.out; omega
                      case rel => exact ⟨(wrap64 (x3_1 + 1)), (by first | rfl | (simp; done) | (simp [*]; done)), H', ⟨by have := HK1.out; omega⟩, by repeat (first | exact Drawn0.refl _ | apply Drawn0.step)⟩
                    · rw [if_neg c28] at H
                      have c28b0 : ((bt a0 x3_1) == 45) = false := beq_eq_false_iff_ne.mpr c28
                      have c28b1 : ((bt a0 x3_1) != 45) = true := bne_iff_ne.mpr c28
                      obtain rfl := Option.some.inj H
                      have p4 : 0 ≤ (x3_1 : Int) := of_decide_eq_true (by first | (with_reducible assumption) | assumption)
                      have q4 : x3_1 < (a0.size : Int) := of_decide_eq_true (by first | (with_reducible assumption) | assumption)
                      have hx4 := bt_at a0 x3_1
                      replace p4 := eq_true p4
                      replace q4 := eq_true q4
                      go_wp2
                      go_ret
                      exact ⟨by first | rfl | (simp; done) | (simp [*]; done), by repeat (first | exact Drawn0.refl _ | apply Drawn0.step)⟩
            · rw [if_neg c21] at H
              have c21b0 : decide (65 ≤ (bt a0 x3_1)) = false := decide_eq_false c21
              clear c21
              by_cases c29 : (bt a0 x3_1) ≥ 48
              · rw [if_pos c29] at H
                have c29b0 : decide (48 ≤ (bt a0 x3_1)) = true := decide_eq_true c29
                clear c29
                by_cases c30 : (bt a0 x3_1) ≤ 57
                · rw [if_pos c30] at H
                  have c30b0 : decide ((bt a0 x3_1) ≤ 57) = true := decide_eq_true c30
                  clear c30
                  have H' := Aside0.mk H
                  clear H
                  have p4 : 0 ≤ (x3_1 : Int) := of_decide_eq_true (by first | (with_reducible assumption) | assumption)
                  have q4 : x3_1 < (a0.size : Int) := of_decide_eq_true (by first | (with_reducible assumption) | assumption)
                  have hx4 := bt_at a0 x3_1
                  replace p4 := eq_true p4
                  replace q4 := eq_true q4
                  go_wp2
                  go_roundg k1
                  case measure => have := HK1.out; omega
                  case rel => exact ⟨(wrap64 (x3_1 + 1)), (by first | rfl | (simp; done) | (simp [*]; done)), H', ⟨by have := HK1.out; omega⟩, by repeat (first | exact Drawn0.refl _ | apply Drawn0.step)⟩
                · rw [if_neg c30] at H
                  have c30b0 : decide ((bt a0 x3_1) ≤ 57) = false := decide_eq_false c30
                  clear c30
                  by_cases c31 : (bt a0 x3_1) = 95
                  · rw [if_pos c31] at H
                    have c31b0 : ((bt a0 x3_1) == 95) = true := beq_iff_eq.mpr c31
                    have c31b1 : ((bt a0 x3_1) != 95) = false := bne_eq_false_iff_eq.mpr c31
                    clear c31
                    have H' := Aside0.mk H
                    clear H
                    have p4 : 0 ≤ (x3_1 : Int) := of_decide_eq_true (by first | (with_reducible assumption) | assumption)
                    have q4 : x3_1 < (a0.size : Int) := of_decide_eq_true (by first | (with_reducible assumption) | assumption)
                    have hx4 := bt_at a0 x3_1
                    replace p4 := eq_true p4
                    replace q4 := eq_true q4
                    go_wp2
                    go_roundg k1
                    case measure => have := HK1.out; omega
                    case rel => exact ⟨(wrap64 (x3_1 + 1)), (by first | rfl | (simp; done) | (simp [*]; done)), H', ⟨by have := HK1.out; omega⟩, by repeat (first | exact Drawn0.refl _ | apply Drawn0.step)⟩
                  · rw [if_neg c31] at H
                    have c31b0 : ((bt a0 x3_1) == 95) = false := beq_eq_false_iff_ne.mpr c31
                    have c31b1 : ((bt a0 x3_1) != 95) = true := bne_iff_ne.mpr c31
                    by_cases c32 : ((bt a0 x3_1) = 45)
                    · rw [if_pos c32] at H
                      have c32b0 : ((bt a0 x3_1) == 45) = true := beq_iff_eq.mpr c32
                      have c32b1 : ((bt a0 x3_1) != 45) = false := bne_eq_false_iff_eq.mpr c32
                      clear c32
                      have H' := Aside0.mk H
                      clear H
                      have p4 : 0 ≤ (x3_1 : Int) := of_decide_eq_true (by first | (with_reducible assumption) | assumption)
                      have q4 : x3_1 < (a0.size : Int) := of_decide_eq_true (by first | (with_reducible assumption) | assumption)
                      have hx4 := bt_at a0 x3_1
                      replace p4 := eq_true p4
                      replace q4 := eq_true q4
                      go_wp2
                      go_roundg k1
                      case measure => have := HK1.out; omega
                      case rel => exact ⟨(wrap64 (x3_1 + 1)), (by first | rfl | (simp; done) | (simp [*]; done)), H', ⟨by have := HK1.out; omega⟩, by repeat (first | exact Drawn0.refl _ | apply Drawn0.step)⟩
                    · rw [if_neg c32] at H
                      have c32b0 : ((bt a0 x3_1) == 45) = false := beq_eq_false_iff_ne.mpr c32
                      have c32b1 : ((bt a0 x3_1) != 45) = true := bne_iff_ne.mpr c32
                      obtain rfl := Option.some.inj H
                      have p4 : 0 ≤ (x3_1 : Int) := of_decide_eq_true (by first | (with_reducible assumption) | assumption)
                      have q4 : x3_1 < (a0.size : Int) := of_decide_eq_true (by first | (with_reducible assumption) | assumption)
                      have hx4 := bt_at a0 x3_1
                      replace p4 := eq_true p4
                      replace q4 := eq_true q4
                      go_wp2
                      go_ret
                      exact ⟨by first | rfl | (simp; done) | (simp [*]; done), by repeat (first | exact Drawn0.refl _ | apply Drawn0.step)⟩
              · rw [if_neg c29] at H
                have c29b0 : decide (48 ≤ (bt a0 x3_1)) = false := decide_eq_false c29
                clear c29
                by_cases c33 : (bt a0 x3_1) = 95
                · rw [if_pos c33] at H
                  have c33b0 : ((bt a0 x3_1) == 95) = true := beq_iff_eq.mpr c33
                  have c33b1 : ((bt a0 x3_1) != 95) = false := bne_eq_false_iff_eq.mpr c33
                  clear c33
                  have H' := Aside0.mk H
                  clear H
                  have p4 : 0 ≤ (x3_1 : Int) := of_decide_eq_true (by first | (with_reducible assumption) | assumption)
                  have q4 : x3_1 < (a0.size : Int) := of_decide_eq_true (by first | (with_reducible assumption) | assumption)
                  have hx4 := bt_at a0 x3_1
                  replace p4 := eq_true p4
                  replace q4 := eq_true q4
                  go_wp2
                  go_roundg k1
                  case measure => have := HK1.out; omega
                  case rel => exact ⟨(wrap64 (x3_1 + 1)), (by first | rfl | (simp; done) | (simp [*]; done)), H', ⟨by have := HK1.out; omega⟩, by repeat (first | exact Drawn0.refl _ | apply Drawn0.step)⟩
                · rw [if_neg c33] at H
                  have c33b0 : ((bt a0 x3_1) == 95) = false := beq_eq_false_iff_ne.mpr c33
                  have c33b1 : ((bt a0 x3_1) != 95) = true := bne_iff_ne.mpr c33
                  by_cases c34 : ((bt a0 x3_1) = 45)
                  · rw [if_pos c34] at H
                    have c34b0 : ((bt a0 x3_1) == 45) = true := beq_iff_eq.mpr c34
                    have c34b1 : ((bt a0 x3_1) != 45) = false := bne_eq_false_iff_eq.mpr c34
                    clear c34
                    have H' := Aside0.mk H
                    clear H
                    have p4 : 0 ≤ (x3_1 : Int) := of_decide_eq_true (by first | (with_reducible assumption) | assumption)
                    have q4 : x3_1 < (a0.size : Int) := of_decide_eq_true (by first | (with_reducible assumption) | assumption)
                    have hx4 := bt_at a0 x3_1
                    replace p4 := eq_true p4
                    replace q4 := eq_true q4
                    go_wp2
                    go_roundg k1
                    case measure => have := HK1.out; omega
                    case rel => exact ⟨(wrap64 (x3_1 + 1)), (by first | rfl | (simp; done) | (simp [*]; done)), H', ⟨by have := HK1.out; omega⟩, by repeat (first | exact Drawn0.refl _ | apply Drawn0.step)⟩
                  · rw [if_neg c34] at H
                    have c34b0 : ((bt a0 x3_1) == 45) = false := beq_eq_false_iff_ne.mpr c34
                    have c34b1 : ((bt a0 x3_1) != 45) = true := bne_iff_ne.mpr c34
                    obtain rfl := Option.some.inj H
                    have p4 : 0 ≤ (x3_1 : Int) := of_decide_eq_true (by first | (with_reducible assumption) | assumption)
                    have q4 : x3_1 < (a0.size : Int) := of_decide_eq_true (by first | (with_reducible assumption) | assumption)
                    have hx4 := bt_at a0 x3_1
                    replace p4 := eq_true p4
                    replace q4 := eq_true q4
                    go_wp2
                    go_ret
                    exact ⟨by first | rfl | (simp; done) | (simp [*]; done), by repeat (first | exact Drawn0.refl _ | apply Drawn0.step)⟩
        · rw [if_neg c3] at H
          exact absurd H (by simp)
      · rw [if_neg c2] at H
        have c2b0 : decide (x3_1 < (a0.size : Int)) = false := decide_eq_false c2
        clear c2
        obtain rfl := Option.some.inj H
        go_wp2
        go_ret
        exact ⟨by first | rfl | (simp; done) | (simp [*]; done) | (cases hh : a0.toList <;> simp [hh]), by repeat (first | exact Drawn0.refl _ | apply Drawn0.step)⟩

end Go.Proofs.YtiamiagjkfioiaaGreatDoor.PT
