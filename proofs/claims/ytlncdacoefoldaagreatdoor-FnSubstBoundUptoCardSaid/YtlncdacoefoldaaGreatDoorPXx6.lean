-- Written by a program over the translation (xprint.py). Lean checks it.
import Derived.Test.YtlncdacoefoldaaGreatDoorPXx0
namespace Go.Proofs.YtlncdacoefoldaaGreatDoor.PX
open Go.RowKit Go.Proofs.YtlncdacoefoldaaGreatDoorW.PrintWords Go.Proofs.YtlncdacoefoldaaGreatDoorW.PrintLast Go.Proofs.YtlncdacoefoldaaGreatDoorW.PrintMore
attribute [local go_sem] max2_int min2_int max_two min_two max_three min_three max_four min_four   -- for this text's walks alone
set_option linter.unusedVariables false
set_option linter.unusedSimpArgs false

/-! ### spec_substClose: function 49 -/
mutual
def spec_substClose.l0 : Nat → ByteArray → Int → Int → Bool → Option (Int × Bool)
  | 0, _, _, _, _ => none
  | k + 1, x0, x1, x6, x7 => if x1 < (x0.size : Int) then (if 0 ≤ x1 then (if (bt x0 x1) = 10 then (spec_substClose.j1 k x0 x1 x6 x7 true) else (spec_substClose.j1 k x0 x1 x6 x7 ((bt x0 x1) == 123))) else (none)) else (some ((-1), !x7))
def spec_substClose.j1 : Nat → ByteArray → Int → Int → Bool → Bool → Option (Int × Bool)
  | 0, _, _, _, _, _ => none
  | k + 1, x0, x1, x6, x7, x12 => if x12 = true then (some (0, false)) else (if 0 ≤ x1 then (if x1 < (x0.size : Int) then (if (bt x0 x1) = 36 then (if (wrap64 (x1 + 1)) < (x0.size : Int) then (if 0 ≤ (wrap64 (x1 + 1)) then (spec_substClose.j2 k x0 x1 x6 x7 ((bt x0 (wrap64 (x1 + 1))) == 36)) else (none)) else (spec_substClose.j2 k x0 x1 x6 x7 false)) else (spec_substClose.j2 k x0 x1 x6 x7 false)) else (none)) else (none))
def spec_substClose.j2 : Nat → ByteArray → Int → Int → Bool → Bool → Option (Int × Bool)
  | 0, _, _, _, _, _ => none
  | k + 1, x0, x1, x6, x7, x23 => if x23 = true then (spec_substClose.l0 k x0 (wrap64 ((wrap64 (x1 + 1)) + 1)) x6 x7) else (if 0 ≤ x1 then (if x1 < (x0.size : Int) then (if (bt x0 x1) = 36 then (if (wrap64 (x1 + 1)) < (x0.size : Int) then (if 0 ≤ (wrap64 (x1 + 1)) then (spec_substClose.j3 k x0 x1 x6 x7 ((bt x0 (wrap64 (x1 + 1))) == 123)) else (none)) else (spec_substClose.j3 k x0 x1 x6 x7 false)) else (spec_substClose.j3 k x0 x1 x6 x7 false)) else (none)) else (none))
def spec_substClose.j3 : Nat → ByteArray → Int → Int → Bool → Bool → Option (Int × Bool)
  | 0, _, _, _, _, _ => none
  | k + 1, x0, x1, x6, x7, x44 => if x44 = true then (if (wrap64 (x1 + 2)) < (x0.size : Int) then (if 0 ≤ (wrap64 (x1 + 2)) then (if (bt x0 (wrap64 (x1 + 2))) = 125 then (some (0, false)) else (spec_substClose.l0 k x0 (wrap64 ((wrap64 (x1 + 1)) + 1)) (wrap64 (x6 + 1)) x7)) else (none)) else (spec_substClose.l0 k x0 (wrap64 ((wrap64 (x1 + 1)) + 1)) (wrap64 (x6 + 1)) x7)) else (if 0 ≤ x1 then (if x1 < (x0.size : Int) then (if (bt x0 x1) = 125 then (spec_substClose.j4 k x0 x1 x6 x7 (x6 == 0)) else (spec_substClose.j4 k x0 x1 x6 x7 false)) else (none)) else (none))
def spec_substClose.j4 : Nat → ByteArray → Int → Int → Bool → Bool → Option (Int × Bool)
  | 0, _, _, _, _, _ => none
  | k + 1, x0, x1, x6, x7, x79 => if x79 = true then (some (x1, true)) else (if 0 ≤ x1 then (if x1 < (x0.size : Int) then (if (bt x0 x1) = 125 then (spec_substClose.l0 k x0 (wrap64 (x1 + 1)) (wrap64 (x6 - 1)) true) else (spec_substClose.l0 k x0 (wrap64 (x1 + 1)) x6 x7)) else (none)) else (none))
end
def spec_substClose.f (k : Nat) (a0 : ByteArray) (a1 : Int) : Option (Int × Bool) := spec_substClose.l0 k a0 a1 0 false
theorem spec_substClose.mono_l : ∀ k, (∀ y0 y1 y2 y3, LeO (spec_substClose.l0 k y0 y1 y2 y3) (spec_substClose.l0 (k + 1) y0 y1 y2 y3)) ∧ (∀ y0 y1 y2 y3 y4, LeO (spec_substClose.j1 k y0 y1 y2 y3 y4) (spec_substClose.j1 (k + 1) y0 y1 y2 y3 y4)) ∧ (∀ y0 y1 y2 y3 y4, LeO (spec_substClose.j2 k y0 y1 y2 y3 y4) (spec_substClose.j2 (k + 1) y0 y1 y2 y3 y4)) ∧ (∀ y0 y1 y2 y3 y4, LeO (spec_substClose.j3 k y0 y1 y2 y3 y4) (spec_substClose.j3 (k + 1) y0 y1 y2 y3 y4)) ∧ (∀ y0 y1 y2 y3 y4, LeO (spec_substClose.j4 k y0 y1 y2 y3 y4) (spec_substClose.j4 (k + 1) y0 y1 y2 y3 y4))
  | 0 => ⟨fun _ _ _ _ r h => by simp [spec_substClose.l0] at h, fun _ _ _ _ _ r h => by simp [spec_substClose.j1] at h, fun _ _ _ _ _ r h => by simp [spec_substClose.j2] at h, fun _ _ _ _ _ r h => by simp [spec_substClose.j3] at h, fun _ _ _ _ _ r h => by simp [spec_substClose.j4] at h⟩
  | k + 1 => by
    obtain ⟨ih0, ih1, ih2, ih3, ih4⟩ := spec_substClose.mono_l k
    refine ⟨?_, ?_, ?_, ?_, ?_⟩
    · intro y0 y1 y2 y3
      unfold spec_substClose.l0
      repeat' first
      | (with_reducible exact ih0 _ _ _ _)
      | (with_reducible exact ih1 _ _ _ _ _)
      | (with_reducible exact ih2 _ _ _ _ _)
      | (with_reducible exact ih3 _ _ _ _ _)
      | (with_reducible exact ih4 _ _ _ _ _)
      | (with_reducible exact LeO.refl _)
      | (with_reducible exact LeO.none _)
      | (with_reducible refine LeO.ite ?_ ?_)
      | (with_reducible refine LeO.bind ?_ (fun _ => ?_))
      | exact ih0 _ _ _ _
      | exact ih1 _ _ _ _ _
      | exact ih2 _ _ _ _ _
      | exact ih3 _ _ _ _ _
      | exact ih4 _ _ _ _ _
      | exact LeO.none _
      | refine LeO.ite ?_ ?_
      | refine LeO.bind ?_ (fun _ => ?_)
    · intro y0 y1 y2 y3 y4
      unfold spec_substClose.j1
      repeat' first
      | (with_reducible exact ih0 _ _ _ _)
      | (with_reducible exact ih1 _ _ _ _ _)
      | (with_reducible exact ih2 _ _ _ _ _)
      | (with_reducible exact ih3 _ _ _ _ _)
      | (with_reducible exact ih4 _ _ _ _ _)
      | (with_reducible exact LeO.refl _)
      | (with_reducible exact LeO.none _)
      | (with_reducible refine LeO.ite ?_ ?_)
      | (with_reducible refine LeO.bind ?_ (fun _ => ?_))
      | exact ih0 _ _ _ _
      | exact ih1 _ _ _ _ _
      | exact ih2 _ _ _ _ _
      | exact ih3 _ _ _ _ _
      | exact ih4 _ _ _ _ _
      | exact LeO.none _
      | refine LeO.ite ?_ ?_
      | refine LeO.bind ?_ (fun _ => ?_)
    · intro y0 y1 y2 y3 y4
      unfold spec_substClose.j2
      repeat' first
      | (with_reducible exact ih0 _ _ _ _)
      | (with_reducible exact ih1 _ _ _ _ _)
      | (with_reducible exact ih2 _ _ _ _ _)
      | (with_reducible exact ih3 _ _ _ _ _)
      | (with_reducible exact ih4 _ _ _ _ _)
      | (with_reducible exact LeO.refl _)
      | (with_reducible exact LeO.none _)
      | (with_reducible refine LeO.ite ?_ ?_)
      | (with_reducible refine LeO.bind ?_ (fun _ => ?_))
      | exact ih0 _ _ _ _
      | exact ih1 _ _ _ _ _
      | exact ih2 _ _ _ _ _
      | exact ih3 _ _ _ _ _
      | exact ih4 _ _ _ _ _
      | exact LeO.none _
      | refine LeO.ite ?_ ?_
      | refine LeO.bind ?_ (fun _ => ?_)
    · intro y0 y1 y2 y3 y4
      unfold spec_substClose.j3
      repeat' first
      | (with_reducible exact ih0 _ _ _ _)
      | (with_reducible exact ih1 _ _ _ _ _)
      | (with_reducible exact ih2 _ _ _ _ _)
      | (with_reducible exact ih3 _ _ _ _ _)
      | (with_reducible exact ih4 _ _ _ _ _)
      | (with_reducible exact LeO.refl _)
      | (with_reducible exact LeO.none _)
      | (with_reducible refine LeO.ite ?_ ?_)
      | (with_reducible refine LeO.bind ?_ (fun _ => ?_))
      | exact ih0 _ _ _ _
      | exact ih1 _ _ _ _ _
      | exact ih2 _ _ _ _ _
      | exact ih3 _ _ _ _ _
      | exact ih4 _ _ _ _ _
      | exact LeO.none _
      | refine LeO.ite ?_ ?_
      | refine LeO.bind ?_ (fun _ => ?_)
    · intro y0 y1 y2 y3 y4
      unfold spec_substClose.j4
      repeat' first
      | (with_reducible exact ih0 _ _ _ _)
      | (with_reducible exact ih1 _ _ _ _ _)
      | (with_reducible exact ih2 _ _ _ _ _)
      | (with_reducible exact ih3 _ _ _ _ _)
      | (with_reducible exact ih4 _ _ _ _ _)
      | (with_reducible exact LeO.refl _)
      | (with_reducible exact LeO.none _)
      | (with_reducible refine LeO.ite ?_ ?_)
      | (with_reducible refine LeO.bind ?_ (fun _ => ?_))
      | exact ih0 _ _ _ _
      | exact ih1 _ _ _ _ _
      | exact ih2 _ _ _ _ _
      | exact ih3 _ _ _ _ _
      | exact ih4 _ _ _ _ _
      | exact LeO.none _
      | refine LeO.ite ?_ ?_
      | refine LeO.bind ?_ (fun _ => ?_)
theorem spec_substClose.mono : ∀ a0 a1 k, LeO (spec_substClose.f k a0 a1) (spec_substClose.f (k + 1) a0 a1) := by
  intro a0 a1 k
  obtain ⟨ih0, ih1, ih2, ih3, ih4⟩ := spec_substClose.mono_l k
  unfold spec_substClose.f
  repeat' first
      | (with_reducible exact ih0 _ _ _ _)
      | (with_reducible exact ih1 _ _ _ _ _)
      | (with_reducible exact ih2 _ _ _ _ _)
      | (with_reducible exact ih3 _ _ _ _ _)
      | (with_reducible exact ih4 _ _ _ _ _)
      | (with_reducible exact LeO.refl _)
      | (with_reducible exact LeO.none _)
      | (with_reducible refine LeO.ite ?_ ?_)
      | (with_reducible refine LeO.bind ?_ (fun _ => ?_))
      | exact ih0 _ _ _ _
      | exact ih1 _ _ _ _ _
      | exact ih2 _ _ _ _ _
      | exact ih3 _ _ _ _ _
      | exact ih4 _ _ _ _ _
      | exact LeO.none _
      | refine LeO.ite ?_ ?_
      | refine LeO.bind ?_ (fun _ => ?_)
set_option maxHeartbeats 8000000 in
set_option maxRecDepth 100000 in
theorem spec_substClose.calls (k : Nat) (a0 : ByteArray) (a1 : Int) (r1 : Int) (r2 : Bool) (w : World) (h : spec_substClose.f k a0 a1 = some (r1, r2)) :
    Calls Tryz.prog 49 #[.string a0, .int .i64 a1] w fun e w' => e = .returned (.tuple #[.int .i64 r1, .bool r2]) ∧ Drawn0 w w' := by
  have H : (spec_substClose.l0 k a0 a1 0 false) = some (r1, r2) := h
  clear h
  have H' := Aside0.mk H
  clear H
  go_enter Tryz.func49, Tryz.ntmps49
  go_wp2
  go_loopg [1, 6, 7] k (fun kq v1 v6 v7 w' => ∃ (x1_1 : Int) (x6_1 : Int) (x7_1 : Bool), v1 = .int .i64 x1_1 ∧ v6 = .int .i64 x6_1 ∧ v7 = .bool x7_1 ∧ Aside0 (spec_substClose.l0 kq a0 x1_1 x6_1 x7_1 = some (r1, r2)) ∧ Aside0 (kq ≤ k) ∧ Drawn0 w w')
  case atStart => exact ⟨(a1), (0), (false), (by first | rfl | (simp; done) | (simp [*]; done)), (by first | rfl | (simp; done) | (simp [*]; done)), (by first | rfl | (simp; done) | (simp [*]; done)), H', ⟨Nat.le_refl _⟩, by repeat (first | exact Drawn0.refl _ | apply Drawn0.step)⟩
  case round =>
    clear H'
    try clear p2
    obtain ⟨x1_1, x6_1, x7_1, rfl, rfl, rfl, HA, HK1, ⟨m1, rfl⟩⟩ := hrel
    cases gk with
    | zero => exact absurd HA.out (by simp [spec_substClose.l0])
    | succ k1 =>
      have H := HA.out
      clear HA
      simp only [spec_substClose.l0] at H
      by_cases c3 : x1_1 < (a0.size : Int)
      · rw [if_pos c3] at H
        have c3b0 : decide (x1_1 < (a0.size : Int)) = true := decide_eq_true c3
        clear c3
        have HC4 := Aside0.mk H
        clear H
        go_upto_region 3 with (fail)
        go_cut [12] (fun v12 wc => ∃ (kq : Nat) (x12_3 : Bool), v12 = .bool x12_3 ∧ Aside0 (spec_substClose.j1 kq a0 x1_1 x6_1 x7_1 x12_3 = some (r1, r2)) ∧ Aside0 (kq ≤ k1) ∧ Drawn0 w wc)
        case first =>
          have H := HC4.out
          clear HC4
          by_cases c5 : 0 ≤ x1_1
          · rw [if_pos c5] at H
            have c5b0 : decide (0 ≤ x1_1) = true := decide_eq_true c5
            clear c5
            (first | rw [c5b0] | (simp only [i64_w, i32_w]; rw [c5b0]) | skip)
            by_cases c7 : (bt a0 x1_1) = 10
            · rw [if_pos c7] at H
              have c7b0 : ((bt a0 x1_1) == 10) = true := beq_iff_eq.mpr c7
              have c7b1 : ((bt a0 x1_1) != 10) = false := bne_eq_false_iff_eq.mpr c7
              clear c7
              have H' := Aside0.mk H
              clear H
              have p6 : 0 ≤ (x1_1 : Int) := of_decide_eq_true (by first | (with_reducible assumption) | assumption)
              have q6 : x1_1 < (a0.size : Int) := of_decide_eq_true (by first | (with_reducible assumption) | assumption)
              have hx6 := bt_at a0 x1_1
              replace p6 := eq_true p6
              replace q6 := eq_true q6
              go_wp2
              go_meet
              case rel => exact ⟨_, (true), (by first | rfl | (simp; done) | (simp [*]; done)), H', ⟨by have := HK1.out; first | omega | exact Nat.le_refl _⟩, by repeat (first | exact Drawn0.refl _ | apply Drawn0.step)⟩
            · rw [if_neg c7] at H
              have c7b0 : ((bt a0 x1_1) == 10) = false := beq_eq_false_iff_ne.mpr c7
              have c7b1 : ((bt a0 x1_1) != 10) = true := bne_iff_ne.mpr c7
              have H' := Aside0.mk H
              clear H
              have p6 : 0 ≤ (x1_1 : Int) := of_decide_eq_true (by first | (with_reducible assumption) | assumption)
              have q6 : x1_1 < (a0.size : Int) := of_decide_eq_true (by first | (with_reducible assumption) | assumption)
              have hx6 := bt_at a0 x1_1
              replace p6 := eq_true p6
              replace q6 := eq_true q6
              have p8 : 0 ≤ (x1_1 : Int) := of_decide_eq_true (by first | (with_reducible assumption) | assumption)
              have q8 : x1_1 < (a0.size : Int) := of_decide_eq_true (by first | (with_reducible assumption) | assumption)
              have hx8 := bt_at a0 x1_1
              replace p8 := eq_true p8
              replace q8 := eq_true q8
              go_wp2
              go_meet
              case rel => exact ⟨_, (((bt a0 x1_1) == 123)), (by first | rfl | (simp; done) | (simp [*]; done)), H', ⟨by have := HK1.out; first | omega | exact Nat.le_refl _⟩, by repeat (first | exact Drawn0.refl _ | apply Drawn0.step)⟩
          · rw [if_neg c5] at H
            exact absurd H (by simp)
        case rest =>
          clear HC4
          try clear p2
          try clear c3
          try clear c3b0
          try clear c4
          try clear c5
          try clear c5b0
          try clear p6
          try clear q6
          try clear hx6
          try clear c7
          try clear c7b0
          try clear c7b1
          try clear p8
          try clear q8
          try clear hx8
          try clear p2
          try clear p6
          try clear p8
          try clear q6
          try clear q8
          obtain ⟨kq, x12_3, rfl, HA, HJ3, ⟨mc3, rfl⟩⟩ := hcut
          cases kq with
          | zero => exact absurd HA.out (by simp [spec_substClose.j1])
          | succ kj3 =>
            have H := HA.out
            clear HA
            simp only [spec_substClose.j1] at H
            by_cases c9 : x12_3 = true
            · subst c9
              have H1 : (some (0, false)) = some (r1, r2) := by rw [if_pos rfl] at H; exact H
              clear H
              have H := H1
              clear H1
              simp only [Option.some.injEq, Prod.mk.injEq] at H
              obtain ⟨rfl, rfl⟩ := H
              go_wp2
              go_ret2
              exact ⟨by first | rfl | (simp; done) | (simp [*]; done), by repeat (first | exact Drawn0.refl _ | apply Drawn0.step)⟩
            · replace c9 := Bool.eq_false_iff.mpr c9
              subst c9
              have H1 : (if 0 ≤ x1_1 then (if x1_1 < (a0.size : Int) then (if (bt a0 x1_1) = 36 then (if (wrap64 (x1_1 + 1)) < (a0.size : Int) then (if 0 ≤ (wrap64 (x1_1 + 1)) then (spec_substClose.j2 kj3 a0 x1_1 x6_1 x7_1 ((bt a0 (wrap64 (x1_1 + 1))) == 36)) else (none)) else (spec_substClose.j2 kj3 a0 x1_1 x6_1 x7_1 false)) else (spec_substClose.j2 kj3 a0 x1_1 x6_1 x7_1 false)) else (none)) else (none)) = some (r1, r2) := by rw [if_neg (show ¬ (false = true) by decide)] at H; exact H
              clear H
              have H := H1
              clear H1
              have HC10 := Aside0.mk H
              clear H
              go_upto_region 5 with (fail)
              go_cut [23] (fun v23 wc => ∃ (kq : Nat) (x23_9 : Bool), v23 = .bool x23_9 ∧ Aside0 (spec_substClose.j2 kq a0 x1_1 x6_1 x7_1 x23_9 = some (r1, r2)) ∧ Aside0 (kq ≤ kj3) ∧ Drawn0 w wc)
              case first =>
                have H := HC10.out
                clear HC10
                by_cases c11 : 0 ≤ x1_1
                · rw [if_pos c11] at H
                  have c11b0 : decide (0 ≤ x1_1) = true := decide_eq_true c11
                  clear c11
                  (first | rw [c11b0] | (simp only [i64_w, i32_w]; rw [c11b0]) | skip)
                  by_cases c12 : x1_1 < (a0.size : Int)
                  · rw [if_pos c12] at H
                    have c12b0 : decide (x1_1 < (a0.size : Int)) = true := decide_eq_true c12
                    clear c12
                    by_cases c14 : (bt a0 x1_1) = 36
                    · rw [if_pos c14] at H
                      have c14b0 : ((bt a0 x1_1) == 36) = true := beq_iff_eq.mpr c14
                      have c14b1 : ((bt a0 x1_1) != 36) = false := bne_eq_false_iff_eq.mpr c14
                      clear c14
                      by_cases c15 : (wrap64 (x1_1 + 1)) < (a0.size : Int)
                      · rw [if_pos c15] at H
                        have c15b0 : decide ((wrap64 (x1_1 + 1)) < (a0.size : Int)) = true := decide_eq_true c15
                        clear c15
                        obtain ⟨ji16, hji16⟩ : ∃ j_ : Int, (wrap64 (x1_1 + 1)) = j_ := ⟨_, rfl⟩
                        replace H : (if 0 ≤ (ji16) then (spec_substClose.j2 kj3 a0 x1_1 x6_1 x7_1 ((bt a0 (ji16)) == 36)) else (none)) = some (r1, r2) := by first | (rw [hji16] at H; exact H) | (simp only [hji16] at H ⊢; exact H)
                        (try rw [hji16] at c15b0)
                        have hji16w : (IntKind.i64.wrap (x1_1 + 1)) = ji16 := (i64_w _).trans hji16
                        by_cases c17 : 0 ≤ (ji16)
                        · rw [if_pos c17] at H
                          have c17b0 : decide (0 ≤ (ji16)) = true := decide_eq_true c17
                          clear c17
                          have H' := Aside0.mk H
                          clear H
                          have p13 : 0 ≤ (x1_1 : Int) := of_decide_eq_true (by first | (with_reducible assumption) | assumption)
                          have q13 : x1_1 < (a0.size : Int) := of_decide_eq_true (by first | (with_reducible assumption) | assumption)
                          have hx13 := bt_at a0 x1_1
                          replace p13 := eq_true p13
                          replace q13 := eq_true q13
                          have p18 : 0 ≤ ((ji16) : Int) := of_decide_eq_true (by first | (with_reducible assumption) | assumption)
                          have q18 : (ji16) < (a0.size : Int) := of_decide_eq_true (by first | (with_reducible assumption) | assumption)
                          have hx18 := bt_at a0 (ji16)
                          replace p18 := eq_true p18
                          replace q18 := eq_true q18
                          go_wp2
                          go_meet
                          case rel => exact ⟨_, (((bt a0 (ji16)) == 36)), (by first | rfl | (simp; done) | (simp only [← hji16] <;> (first | rfl | simp)) | (simp [*]; done)), H', ⟨by have := HK1.out; have := HJ3.out; first | omega | exact Nat.le_refl _⟩, by repeat (first | exact Drawn0.refl _ | apply Drawn0.step)⟩
                        · rw [if_neg c17] at H
                          exact absurd H (by simp)
                      · rw [if_neg c15] at H
                        have c15b0 : decide ((wrap64 (x1_1 + 1)) < (a0.size : Int)) = false := decide_eq_false c15
                        clear c15
                        have H' := Aside0.mk H
                        clear H
                        have p13 : 0 ≤ (x1_1 : Int) := of_decide_eq_true (by first | (with_reducible assumption) | assumption)
                        have q13 : x1_1 < (a0.size : Int) := of_decide_eq_true (by first | (with_reducible assumption) | assumption)
                        have hx13 := bt_at a0 x1_1
                        replace p13 := eq_true p13
                        replace q13 := eq_true q13
                        go_wp2
                        go_meet
                        case rel => exact ⟨_, (false), (by first | rfl | (simp; done) | (simp [*]; done)), H', ⟨by have := HK1.out; have := HJ3.out; first | omega | exact Nat.le_refl _⟩, by repeat (first | exact Drawn0.refl _ | apply Drawn0.step)⟩
                    · rw [if_neg c14] at H
                      have c14b0 : ((bt a0 x1_1) == 36) = false := beq_eq_false_iff_ne.mpr c14
                      have c14b1 : ((bt a0 x1_1) != 36) = true := bne_iff_ne.mpr c14
                      have H' := Aside0.mk H
                      clear H
                      have p13 : 0 ≤ (x1_1 : Int) := of_decide_eq_true (by first | (with_reducible assumption) | assumption)
                      have q13 : x1_1 < (a0.size : Int) := of_decide_eq_true (by first | (with_reducible assumption) | assumption)
                      have hx13 := bt_at a0 x1_1
                      replace p13 := eq_true p13
                      replace q13 := eq_true q13
                      go_wp2
                      go_meet
                      case rel => exact ⟨_, (false), (by first | rfl | (simp; done) | (simp [*]; done)), H', ⟨by have := HK1.out; have := HJ3.out; first | omega | exact Nat.le_refl _⟩, by repeat (first | exact Drawn0.refl _ | apply Drawn0.step)⟩
                  · rw [if_neg c12] at H
                    exact absurd H (by simp)
                · rw [if_neg c11] at H
                  exact absurd H (by simp)
              case rest =>
                clear HC10
                try clear c1
                try clear p1
                try clear q1
                try clear hx1
                try clear p2
                try clear c3
                try clear c3b0
                try clear c4
                try clear c5
                try clear c5b0
                try clear p6
                try clear q6
                try clear hx6
                try clear c7
                try clear c7b0
                try clear c7b1
                try clear p8
                try clear q8
                try clear hx8
                try clear c9
                try clear c11
                try clear c11b0
                try clear c12
                try clear c12b0
                try clear p13
                try clear q13
                try clear hx13
                try clear c14
                try clear c14b0
                try clear c14b1
                try clear c15
                try clear c15b0
                try clear c17
                try clear c17b0
                try clear p18
                try clear q18
                try clear hx18
                try clear p13
                try clear p18
                try clear p2
                try clear p6
                try clear p8
                try clear q13
                try clear q18
                try clear q6
                try clear q8
                obtain ⟨kq, x23_9, rfl, HA, HJ9, ⟨mc9, rfl⟩⟩ := hcut
                cases kq with
                | zero => exact absurd HA.out (by simp [spec_substClose.j2])
                | succ kj9 =>
                  have H := HA.out
                  clear HA
                  simp only [spec_substClose.j2] at H
                  by_cases c19 : x23_9 = true
                  · subst c19
                    have H1 : (spec_substClose.l0 kj9 a0 (wrap64 ((wrap64 (x1_1 + 1)) + 1)) x6_1 x7_1) = some (r1, r2) := by rw [if_pos rfl] at H; exact H
                    clear H
                    have H := H1
                    clear H1
                    have H' := Aside0.mk H
                    clear H
                    go_wp2
                    go_roundg kj9
                    case measure => have := HK1.out; have := HJ3.out; have := HJ9.out; omega
                    case rel => exact ⟨(wrap64 ((wrap64 (x1_1 + 1)) + 1)), (x6_1), (x7_1), (by first | rfl | (simp; done) | (simp [*]; done)), (by first | rfl | (simp; done) | (simp [*]; done)), (by first | rfl | (simp; done) | (simp [*]; done)), H', ⟨by have := HK1.out; have := HJ3.out; have := HJ9.out; omega⟩, by repeat (first | exact Drawn0.refl _ | apply Drawn0.step)⟩
                  · replace c19 := Bool.eq_false_iff.mpr c19
                    subst c19
                    have H1 : (if 0 ≤ x1_1 then (if x1_1 < (a0.size : Int) then (if (bt a0 x1_1) = 36 then (if (wrap64 (x1_1 + 1)) < (a0.size : Int) then (if 0 ≤ (wrap64 (x1_1 + 1)) then (spec_substClose.j3 kj9 a0 x1_1 x6_1 x7_1 ((bt a0 (wrap64 (x1_1 + 1))) == 123)) else (none)) else (spec_substClose.j3 kj9 a0 x1_1 x6_1 x7_1 false)) else (spec_substClose.j3 kj9 a0 x1_1 x6_1 x7_1 false)) else (none)) else (none)) = some (r1, r2) := by rw [if_neg (show ¬ (false = true) by decide)] at H; exact H
                    clear H
                    have H := H1
                    clear H1
                    have HC20 := Aside0.mk H
                    clear H
                    go_upto_region 7 with (fail)
                    go_cut [44] (fun v44 wc => ∃ (kq : Nat) (x44_19 : Bool), v44 = .bool x44_19 ∧ Aside0 (spec_substClose.j3 kq a0 x1_1 x6_1 x7_1 x44_19 = some (r1, r2)) ∧ Aside0 (kq ≤ kj9) ∧ Drawn0 w wc)
                    case first =>
                      have H := HC20.out
                      clear HC20
                      by_cases c21 : 0 ≤ x1_1
                      · rw [if_pos c21] at H
                        have c21b0 : decide (0 ≤ x1_1) = true := decide_eq_true c21
                        clear c21
                        (first | rw [c21b0] | (simp only [i64_w, i32_w]; rw [c21b0]) | skip)
                        by_cases c22 : x1_1 < (a0.size : Int)
                        · rw [if_pos c22] at H
                          have c22b0 : decide (x1_1 < (a0.size : Int)) = true := decide_eq_true c22
                          clear c22
                          by_cases c24 : (bt a0 x1_1) = 36
                          · rw [if_pos c24] at H
                            have c24b0 : ((bt a0 x1_1) == 36) = true := beq_iff_eq.mpr c24
                            have c24b1 : ((bt a0 x1_1) != 36) = false := bne_eq_false_iff_eq.mpr c24
                            clear c24
                            by_cases c25 : (wrap64 (x1_1 + 1)) < (a0.size : Int)
                            · rw [if_pos c25] at H
                              have c25b0 : decide ((wrap64 (x1_1 + 1)) < (a0.size : Int)) = true := decide_eq_true c25
                              clear c25
                              obtain ⟨ji26, hji26⟩ : ∃ j_ : Int, (wrap64 (x1_1 + 1)) = j_ := ⟨_, rfl⟩
                              replace H : (if 0 ≤ (ji26) then (spec_substClose.j3 kj9 a0 x1_1 x6_1 x7_1 ((bt a0 (ji26)) == 123)) else (none)) = some (r1, r2) := by first | (rw [hji26] at H; exact H) | (simp only [hji26] at H ⊢; exact H)
                              (try rw [hji26] at c25b0)
                              have hji26w : (IntKind.i64.wrap (x1_1 + 1)) = ji26 := (i64_w _).trans hji26
                              by_cases c27 : 0 ≤ (ji26)
                              · rw [if_pos c27] at H
                                have c27b0 : decide (0 ≤ (ji26)) = true := decide_eq_true c27
                                clear c27
                                have H' := Aside0.mk H
                                clear H
                                have p23 : 0 ≤ (x1_1 : Int) := of_decide_eq_true (by first | (with_reducible assumption) | assumption)
                                have q23 : x1_1 < (a0.size : Int) := of_decide_eq_true (by first | (with_reducible assumption) | assumption)
                                have hx23 := bt_at a0 x1_1
                                replace p23 := eq_true p23
                                replace q23 := eq_true q23
                                have p28 : 0 ≤ ((ji26) : Int) := of_decide_eq_true (by first | (with_reducible assumption) | assumption)
                                have q28 : (ji26) < (a0.size : Int) := of_decide_eq_true (by first | (with_reducible assumption) | assumption)
                                have hx28 := bt_at a0 (ji26)
                                replace p28 := eq_true p28
                                replace q28 := eq_true q28
                                go_wp2
                                go_meet
                                case rel => exact ⟨_, (((bt a0 (ji26)) == 123)), (by first | rfl | (simp; done) | (simp only [← hji26] <;> (first | rfl | simp)) | (simp [*]; done)), H', ⟨by have := HK1.out; have := HJ3.out; have := HJ9.out; first | omega | exact Nat.le_refl _⟩, by repeat (first | exact Drawn0.refl _ | apply Drawn0.step)⟩
                              · rw [if_neg c27] at H
                                exact absurd H (by simp)
                            · rw [if_neg c25] at H
                              have c25b0 : decide ((wrap64 (x1_1 + 1)) < (a0.size : Int)) = false := decide_eq_false c25
                              clear c25
                              have H' := Aside0.mk H
                              clear H
                              have p23 : 0 ≤ (x1_1 : Int) := of_decide_eq_true (by first | (with_reducible assumption) | assumption)
                              have q23 : x1_1 < (a0.size : Int) := of_decide_eq_true (by first | (with_reducible assumption) | assumption)
                              have hx23 := bt_at a0 x1_1
                              replace p23 := eq_true p23
                              replace q23 := eq_true q23
                              go_wp2
                              go_meet
                              case rel => exact ⟨_, (false), (by first | rfl | (simp; done) | (simp [*]; done)), H', ⟨by have := HK1.out; have := HJ3.out; have := HJ9.out; first | omega | exact Nat.le_refl _⟩, by repeat (first | exact Drawn0.refl _ | apply Drawn0.step)⟩
                          · rw [if_neg c24] at H
                            have c24b0 : ((bt a0 x1_1) == 36) = false := beq_eq_false_iff_ne.mpr c24
                            have c24b1 : ((bt a0 x1_1) != 36) = true := bne_iff_ne.mpr c24
                            have H' := Aside0.mk H
                            clear H
                            have p23 : 0 ≤ (x1_1 : Int) := of_decide_eq_true (by first | (with_reducible assumption) | assumption)
                            have q23 : x1_1 < (a0.size : Int) := of_decide_eq_true (by first | (with_reducible assumption) | assumption)
                            have hx23 := bt_at a0 x1_1
                            replace p23 := eq_true p23
                            replace q23 := eq_true q23
                            go_wp2
                            go_meet
                            case rel => exact ⟨_, (false), (by first | rfl | (simp; done) | (simp [*]; done)), H', ⟨by have := HK1.out; have := HJ3.out; have := HJ9.out; first | omega | exact Nat.le_refl _⟩, by repeat (first | exact Drawn0.refl _ | apply Drawn0.step)⟩
                        · rw [if_neg c22] at H
                          exact absurd H (by simp)
                      · rw [if_neg c21] at H
                        exact absurd H (by simp)
                    case rest =>
                      clear HC20
                      try clear c1
                      try clear p1
                      try clear q1
                      try clear hx1
                      try clear c2
                      try clear p2
                      try clear q2
                      try clear hx2
                      try clear c3
                      try clear c3b0
                      try clear c4
                      try clear c5
                      try clear c5b0
                      try clear p6
                      try clear q6
                      try clear hx6
                      try clear c7
                      try clear c7b0
                      try clear c7b1
                      try clear p8
                      try clear q8
                      try clear hx8
                      try clear c9
                      try clear c11
                      try clear c11b0
                      try clear c12
                      try clear c12b0
                      try clear p13
                      try clear q13
                      try clear hx13
                      try clear c14
                      try clear c14b0
                      try clear c14b1
                      try clear c15
                      try clear c15b0
                      try clear c17
                      try clear c17b0
                      try clear p18
                      try clear q18
                      try clear hx18
                      try clear c19
                      try clear c21
                      try clear c21b0
                      try clear c22
                      try clear c22b0
                      try clear p23
                      try clear q23
                      try clear hx23
                      try clear c24
                      try clear c24b0
                      try clear c24b1
                      try clear c25
                      try clear c25b0
                      try clear c27
                      try clear c27b0
                      try clear p28
                      try clear q28
                      try clear hx28
                      try clear p1
                      try clear p13
                      try clear p18
                      try clear p2
                      try clear p23
                      try clear p28
                      try clear p6
                      try clear p8
                      try clear q1
                      try clear q13
                      try clear q18
                      try clear q23
                      try clear q28
                      try clear q6
                      try clear q8
                      obtain ⟨kq, x44_19, rfl, HA, HJ19, ⟨mc19, rfl⟩⟩ := hcut
                      cases kq with
                      | zero => exact absurd HA.out (by simp [spec_substClose.j3])
                      | succ kj19 =>
                        have H := HA.out
                        clear HA
                        simp only [spec_substClose.j3] at H
                        by_cases c29 : x44_19 = true
                        · subst c29
                          have H1 : (if (wrap64 (x1_1 + 2)) < (a0.size : Int) then (if 0 ≤ (wrap64 (x1_1 + 2)) then (if (bt a0 (wrap64 (x1_1 + 2))) = 125 then (some (0, false)) else (spec_substClose.l0 kj19 a0 (wrap64 ((wrap64 (x1_1 + 1)) + 1)) (wrap64 (x6_1 + 1)) x7_1)) else (none)) else (spec_substClose.l0 kj19 a0 (wrap64 ((wrap64 (x1_1 + 1)) + 1)) (wrap64 (x6_1 + 1)) x7_1)) = some (r1, r2) := by rw [if_pos rfl] at H; exact H
                          clear H
                          have H := H1
                          clear H1
                          by_cases c30 : (wrap64 (x1_1 + 2)) < (a0.size : Int)
                          · rw [if_pos c30] at H
                            have c30b0 : decide ((wrap64 (x1_1 + 2)) < (a0.size : Int)) = true := decide_eq_true c30
                            clear c30
                            obtain ⟨ji31, hji31⟩ : ∃ j_ : Int, (wrap64 (x1_1 + 2)) = j_ := ⟨_, rfl⟩
                            replace H : (if 0 ≤ (ji31) then (if (bt a0 (ji31)) = 125 then (some (0, false)) else (spec_substClose.l0 kj19 a0 (wrap64 ((wrap64 (x1_1 + 1)) + 1)) (wrap64 (x6_1 + 1)) x7_1)) else (none)) = some (r1, r2) := by first | (rw [hji31] at H; exact H) | (simp only [hji31] at H ⊢; exact H)
                            (try rw [hji31] at c30b0)
                            have hji31w : (IntKind.i64.wrap (x1_1 + 2)) = ji31 := (i64_w _).trans hji31
                            by_cases c32 : 0 ≤ (ji31)
                            · rw [if_pos c32] at H
                              have c32b0 : decide (0 ≤ (ji31)) = true := decide_eq_true c32
                              clear c32
                              by_cases c34 : (bt a0 (ji31)) = 125
                              · rw [if_pos c34] at H
                                have c34b0 : ((bt a0 (ji31)) == 125) = true := beq_iff_eq.mpr c34
                                have c34b1 : ((bt a0 (ji31)) != 125) = false := bne_eq_false_iff_eq.mpr c34
                                clear c34
                                simp only [Option.some.injEq, Prod.mk.injEq] at H
                                obtain ⟨rfl, rfl⟩ := H
                                have p33 : 0 ≤ ((ji31) : Int) := of_decide_eq_true (by first | (with_reducible assumption) | assumption)
                                have q33 : (ji31) < (a0.size : Int) := of_decide_eq_true (by first | (with_reducible assumption) | assumption)
                                have hx33 := bt_at a0 (ji31)
                                replace p33 := eq_true p33
                                replace q33 := eq_true q33
                                go_wp2
                                go_ret2
                                exact ⟨by first | rfl | (simp; done) | (simp only [← hji31] <;> (first | rfl | simp)) | (simp [*]; done), by repeat (first | exact Drawn0.refl _ | apply Drawn0.step)⟩
                              · rw [if_neg c34] at H
                                have c34b0 : ((bt a0 (ji31)) == 125) = false := beq_eq_false_iff_ne.mpr c34
                                have c34b1 : ((bt a0 (ji31)) != 125) = true := bne_iff_ne.mpr c34
                                have H' := Aside0.mk H
                                clear H
                                have p33 : 0 ≤ ((ji31) : Int) := of_decide_eq_true (by first | (with_reducible assumption) | assumption)
                                have q33 : (ji31) < (a0.size : Int) := of_decide_eq_true (by first | (with_reducible assumption) | assumption)
                                have hx33 := bt_at a0 (ji31)
                                replace p33 := eq_true p33
                                replace q33 := eq_true q33
                                go_wp2
                                go_roundg kj19
                                case measure => have := HK1.out; have := HJ3.out; have := HJ9.out; have := HJ19.out; omega
                                case rel => exact ⟨(wrap64 ((wrap64 (x1_1 + 1)) + 1)), (wrap64 (x6_1 + 1)), (x7_1), (by first | rfl | (simp; done) | (simp [*]; done)), (by first | rfl | (simp; done) | (simp [*]; done)), (by first | rfl | (simp; done) | (simp [*]; done)), H', ⟨by have := HK1.out; have := HJ3.out; have := HJ9.out; have := HJ19.out; omega⟩, by repeat (first | exact Drawn0.refl _ | apply Drawn0.step)⟩
                            · rw [if_neg c32] at H
                              exact absurd H (by simp)
                          · rw [if_neg c30] at H
                            have c30b0 : decide ((wrap64 (x1_1 + 2)) < (a0.size : Int)) = false := decide_eq_false c30
                            clear c30
                            have H' := Aside0.mk H
                            clear H
                            go_wp2
                            go_roundg kj19
                            case measure => have := HK1.out; have := HJ3.out; have := HJ9.out; have := HJ19.out; omega
                            case rel => exact ⟨(wrap64 ((wrap64 (x1_1 + 1)) + 1)), (wrap64 (x6_1 + 1)), (x7_1), (by first | rfl | (simp; done) | (simp [*]; done)), (by first | rfl | (simp; done) | (simp [*]; done)), (by first | rfl | (simp; done) | (simp [*]; done)), H', ⟨by have := HK1.out; have := HJ3.out; have := HJ9.out; have := HJ19.out; omega⟩, by repeat (first | exact Drawn0.refl _ | apply Drawn0.step)⟩
                        · replace c29 := Bool.eq_false_iff.mpr c29
                          subst c29
                          have H1 : (if 0 ≤ x1_1 then (if x1_1 < (a0.size : Int) then (if (bt a0 x1_1) = 125 then (spec_substClose.j4 kj19 a0 x1_1 x6_1 x7_1 (x6_1 == 0)) else (spec_substClose.j4 kj19 a0 x1_1 x6_1 x7_1 false)) else (none)) else (none)) = some (r1, r2) := by rw [if_neg (show ¬ (false = true) by decide)] at H; exact H
                          clear H
                          have H := H1
                          clear H1
                          have HC35 := Aside0.mk H
                          clear H
                          go_upto_region 12 with (fail)
                          go_cut [79] (fun v79 wc => ∃ (kq : Nat) (x79_34 : Bool), v79 = .bool x79_34 ∧ Aside0 (spec_substClose.j4 kq a0 x1_1 x6_1 x7_1 x79_34 = some (r1, r2)) ∧ Aside0 (kq ≤ kj19) ∧ Drawn0 w wc)
                          case first =>
                            have H := HC35.out
                            clear HC35
                            by_cases c36 : 0 ≤ x1_1
                            · rw [if_pos c36] at H
                              have c36b0 : decide (0 ≤ x1_1) = true := decide_eq_true c36
                              clear c36
                              (first | rw [c36b0] | (simp only [i64_w, i32_w]; rw [c36b0]) | skip)
                              by_cases c37 : x1_1 < (a0.size : Int)
                              · rw [if_pos c37] at H
                                have c37b0 : decide (x1_1 < (a0.size : Int)) = true := decide_eq_true c37
                                clear c37
                                by_cases c39 : (bt a0 x1_1) = 125
                                · rw [if_pos c39] at H
                                  have c39b0 : ((bt a0 x1_1) == 125) = true := beq_iff_eq.mpr c39
                                  have c39b1 : ((bt a0 x1_1) != 125) = false := bne_eq_false_iff_eq.mpr c39
                                  clear c39
                                  have H' := Aside0.mk H
                                  clear H
                                  have p38 : 0 ≤ (x1_1 : Int) := of_decide_eq_true (by first | (with_reducible assumption) | assumption)
                                  have q38 : x1_1 < (a0.size : Int) := of_decide_eq_true (by first | (with_reducible assumption) | assumption)
                                  have hx38 := bt_at a0 x1_1
                                  replace p38 := eq_true p38
                                  replace q38 := eq_true q38
                                  go_wp2
                                  go_meet
                                  case rel => exact ⟨_, ((x6_1 == 0)), (by first | rfl | (simp; done) | (simp [*]; done)), H', ⟨by have := HK1.out; have := HJ3.out; have := HJ9.out; have := HJ19.out; first | omega | exact Nat.le_refl _⟩, by repeat (first | exact Drawn0.refl _ | apply Drawn0.step)⟩
                                · rw [if_neg c39] at H
                                  have c39b0 : ((bt a0 x1_1) == 125) = false := beq_eq_false_iff_ne.mpr c39
                                  have c39b1 : ((bt a0 x1_1) != 125) = true := bne_iff_ne.mpr c39
                                  have H' := Aside0.mk H
                                  clear H
                                  have p38 : 0 ≤ (x1_1 : Int) := of_decide_eq_true (by first | (with_reducible assumption) | assumption)
                                  have q38 : x1_1 < (a0.size : Int) := of_decide_eq_true (by first | (with_reducible assumption) | assumption)
                                  have hx38 := bt_at a0 x1_1
                                  replace p38 := eq_true p38
                                  replace q38 := eq_true q38
                                  go_wp2
                                  go_meet
                                  case rel => exact ⟨_, (false), (by first | rfl | (simp; done) | (simp [*]; done)), H', ⟨by have := HK1.out; have := HJ3.out; have := HJ9.out; have := HJ19.out; first | omega | exact Nat.le_refl _⟩, by repeat (first | exact Drawn0.refl _ | apply Drawn0.step)⟩
                              · rw [if_neg c37] at H
                                exact absurd H (by simp)
                            · rw [if_neg c36] at H
                              exact absurd H (by simp)
                          case rest =>
                            clear HC35
                            try clear c1
                            try clear p1
                            try clear q1
                            try clear hx1
                            try clear c2
                            try clear p2
                            try clear q2
                            try clear hx2
                            try clear c3
                            try clear c3b0
                            try clear p3
                            try clear q3
                            try clear hx3
                            try clear c4
                            try clear c5
                            try clear c5b0
                            try clear p6
                            try clear q6
                            try clear hx6
                            try clear c7
                            try clear c7b0
                            try clear c7b1
                            try clear p8
                            try clear q8
                            try clear hx8
                            try clear c9
                            try clear c11
                            try clear c11b0
                            try clear c12
                            try clear c12b0
                            try clear p13
                            try clear q13
                            try clear hx13
                            try clear c14
                            try clear c14b0
                            try clear c14b1
                            try clear c15
                            try clear c15b0
                            try clear c17
                            try clear c17b0
                            try clear p18
                            try clear q18
                            try clear hx18
                            try clear c19
                            try clear c21
                            try clear c21b0
                            try clear c22
                            try clear c22b0
                            try clear p23
                            try clear q23
                            try clear hx23
                            try clear c24
                            try clear c24b0
                            try clear c24b1
                            try clear c25
                            try clear c25b0
                            try clear c27
                            try clear c27b0
                            try clear p28
                            try clear q28
                            try clear hx28
                            try clear c29
                            try clear c30
                            try clear c30b0
                            try clear c32
                            try clear c32b0
                            try clear p33
                            try clear q33
                            try clear hx33
                            try clear c34
                            try clear c34b0
                            try clear c34b1
                            try clear c36
                            try clear c36b0
                            try clear c37
                            try clear c37b0
                            try clear p38
                            try clear q38
                            try clear hx38
                            try clear c39
                            try clear c39b0
                            try clear c39b1
                            try clear p1
                            try clear p13
                            try clear p18
                            try clear p2
                            try clear p23
                            try clear p28
                            try clear p33
                            try clear p38
                            try clear p6
                            try clear p8
                            try clear q1
                            try clear q13
                            try clear q18
                            try clear q2
                            try clear q23
                            try clear q28
                            try clear q33
                            try clear q38
                            try clear q6
                            try clear q8
                            obtain ⟨kq, x79_34, rfl, HA, HJ34, ⟨mc34, rfl⟩⟩ := hcut
                            cases kq with
                            | zero => exact absurd HA.out (by simp [spec_substClose.j4])
                            | succ kj34 =>
                              have H := HA.out
                              clear HA
                              simp only [spec_substClose.j4] at H
                              by_cases c40 : x79_34 = true
                              · subst c40
                                have H1 : (some (x1_1, true)) = some (r1, r2) := by rw [if_pos rfl] at H; exact H
                                clear H
                                have H := H1
                                clear H1
                                simp only [Option.some.injEq, Prod.mk.injEq] at H
                                obtain ⟨rfl, rfl⟩ := H
                                go_wp2
                                go_ret2
                                exact ⟨by first | rfl | (simp; done) | (simp [*]; done), by repeat (first | exact Drawn0.refl _ | apply Drawn0.step)⟩
                              · replace c40 := Bool.eq_false_iff.mpr c40
                                subst c40
                                have H1 : (if 0 ≤ x1_1 then (if x1_1 < (a0.size : Int) then (if (bt a0 x1_1) = 125 then (spec_substClose.l0 kj34 a0 (wrap64 (x1_1 + 1)) (wrap64 (x6_1 - 1)) true) else (spec_substClose.l0 kj34 a0 (wrap64 (x1_1 + 1)) x6_1 x7_1)) else (none)) else (none)) = some (r1, r2) := by rw [if_neg (show ¬ (false = true) by decide)] at H; exact H
                                clear H
                                have H := H1
                                clear H1
                                by_cases c41 : 0 ≤ x1_1
                                · rw [if_pos c41] at H
                                  have c41b0 : decide (0 ≤ x1_1) = true := decide_eq_true c41
                                  clear c41
                                  by_cases c42 : x1_1 < (a0.size : Int)
                                  · rw [if_pos c42] at H
                                    have c42b0 : decide (x1_1 < (a0.size : Int)) = true := decide_eq_true c42
                                    clear c42
                                    by_cases c44 : (bt a0 x1_1) = 125
                                    · rw [if_pos c44] at H
                                      have c44b0 : ((bt a0 x1_1) == 125) = true := beq_iff_eq.mpr c44
                                      have c44b1 : ((bt a0 x1_1) != 125) = false := bne_eq_false_iff_eq.mpr c44
                                      clear c44
                                      have H' := Aside0.mk H
                                      clear H
                                      have p43 : 0 ≤ (x1_1 : Int) := of_decide_eq_true (by first | (with_reducible assumption) | assumption)
                                      have q43 : x1_1 < (a0.size : Int) := of_decide_eq_true (by first | (with_reducible assumption) | assumption)
                                      have hx43 := bt_at a0 x1_1
                                      replace p43 := eq_true p43
                                      replace q43 := eq_true q43
                                      go_wp2
                                      go_roundg kj34
                                      case measure => have := HK1.out; have := HJ3.out; have := HJ9.out; have := HJ19.out; have := HJ34.out; omega
                                      case rel => exact ⟨(wrap64 (x1_1 + 1)), (wrap64 (x6_1 - 1)), (true), (by first | rfl | (simp; done) | (simp [*]; done)), (by first | rfl | (simp; done) | (simp [*]; done)), (by first | rfl | (simp; done) | (simp [*]; done)), H', ⟨by have := HK1.out; have := HJ3.out; have := HJ9.out; have := HJ19.out; have := HJ34.out; omega⟩, by repeat (first | exact Drawn0.refl _ | apply Drawn0.step)⟩
                                    · rw [if_neg c44] at H
                                      have c44b0 : ((bt a0 x1_1) == 125) = false := beq_eq_false_iff_ne.mpr c44
                                      have c44b1 : ((bt a0 x1_1) != 125) = true := bne_iff_ne.mpr c44
                                      have H' := Aside0.mk H
                                      clear H
                                      have p43 : 0 ≤ (x1_1 : Int) := of_decide_eq_true (by first | (with_reducible assumption) | assumption)
                                      have q43 : x1_1 < (a0.size : Int) := of_decide_eq_true (by first | (with_reducible assumption) | assumption)
                                      have hx43 := bt_at a0 x1_1
                                      replace p43 := eq_true p43
                                      replace q43 := eq_true q43
                                      go_wp2
                                      go_roundg kj34
                                      case measure => have := HK1.out; have := HJ3.out; have := HJ9.out; have := HJ19.out; have := HJ34.out; omega
                                      case rel => exact ⟨(wrap64 (x1_1 + 1)), (x6_1), (x7_1), (by first | rfl | (simp; done) | (simp [*]; done)), (by first | rfl | (simp; done) | (simp [*]; done)), (by first | rfl | (simp; done) | (simp [*]; done)), H', ⟨by have := HK1.out; have := HJ3.out; have := HJ9.out; have := HJ19.out; have := HJ34.out; omega⟩, by repeat (first | exact Drawn0.refl _ | apply Drawn0.step)⟩
                                  · rw [if_neg c42] at H
                                    exact absurd H (by simp)
                                · rw [if_neg c41] at H
                                  exact absurd H (by simp)
      · rw [if_neg c3] at H
        have c3b0 : decide (x1_1 < (a0.size : Int)) = false := decide_eq_false c3
        clear c3
        simp only [Option.some.injEq, Prod.mk.injEq] at H
        obtain ⟨rfl, rfl⟩ := H
        go_wp2
        go_ret2
        exact ⟨by first | rfl | (simp; done) | (simp [*]; done), by repeat (first | exact Drawn0.refl _ | apply Drawn0.step)⟩

end Go.Proofs.YtlncdacoefoldaaGreatDoor.PX
