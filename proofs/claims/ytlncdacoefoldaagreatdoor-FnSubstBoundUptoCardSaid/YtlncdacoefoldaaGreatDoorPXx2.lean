-- Written by a program over the translation (xprint.py). Lean checks it.
import Derived.Test.YtlncdacoefoldaaGreatDoorPXx0
namespace Go.Proofs.YtlncdacoefoldaaGreatDoor.PX
open Go.RowKit Go.Proofs.YtlncdacoefoldaaGreatDoorW.PrintWords Go.Proofs.YtlncdacoefoldaaGreatDoorW.PrintLast Go.Proofs.YtlncdacoefoldaaGreatDoorW.PrintMore
attribute [local go_sem] max2_int min2_int max_two min_two max_three min_three max_four min_four   -- for this text's walks alone
set_option linter.unusedVariables false
set_option linter.unusedSimpArgs false

/-! ### template_zzOperator: function 121 -/
def template_zzOperator.j0 : Nat → ByteArray → Int → Bool → Option (Int)
  | 0, _, _, _ => none
  | k + 1, x0, x1, x14 => if x14 = true then (if (wrap64 (x1 + 1)) < (x0.size : Int) then (if 0 ≤ (wrap64 (x1 + 1)) then (if (bt x0 (wrap64 (x1 + 1))) = 45 then (some (wrap64 ((wrap64 (x1 + 1)) + 1))) else (if (bt x0 (wrap64 (x1 + 1))) = 43 then (some (wrap64 ((wrap64 (x1 + 1)) + 1))) else (if (bt x0 (wrap64 (x1 + 1))) = 63 then (some (wrap64 ((wrap64 (x1 + 1)) + 1))) else (some 0)))) else (none)) else (some 0)) else (if x1 < (x0.size : Int) then (if 0 ≤ x1 then (if (bt x0 x1) = 45 then (some (wrap64 (x1 + 1))) else (if (bt x0 x1) = 43 then (some (wrap64 (x1 + 1))) else (if (bt x0 x1) = 63 then (some (wrap64 (x1 + 1))) else (some 0)))) else (none)) else (some 0))
def template_zzOperator.f (k : Nat) (a0 : ByteArray) (a1 : Int) : Option (Int) := if a1 < (a0.size : Int) then (if 0 ≤ a1 then (template_zzOperator.j0 k a0 a1 ((bt a0 a1) == 58)) else (none)) else (template_zzOperator.j0 k a0 a1 false)
theorem template_zzOperator.mono_l : ∀ k, (∀ y0 y1 y2, LeO (template_zzOperator.j0 k y0 y1 y2) (template_zzOperator.j0 (k + 1) y0 y1 y2))
  | 0 => fun _ _ _ r h => by simp [template_zzOperator.j0] at h
  | k + 1 => by
    have ih0 := template_zzOperator.mono_l k
    · intro y0 y1 y2
      unfold template_zzOperator.j0
      repeat' first
      | (with_reducible exact ih0 _ _ _)
      | (with_reducible exact LeO.refl _)
      | (with_reducible exact LeO.none _)
      | (with_reducible refine LeO.ite ?_ ?_)
      | (with_reducible refine LeO.bind ?_ (fun _ => ?_))
      | exact ih0 _ _ _
      | exact LeO.none _
      | refine LeO.ite ?_ ?_
      | refine LeO.bind ?_ (fun _ => ?_)
theorem template_zzOperator.mono : ∀ a0 a1 k, LeO (template_zzOperator.f k a0 a1) (template_zzOperator.f (k + 1) a0 a1) := by
  intro a0 a1 k
  have ih0 := template_zzOperator.mono_l k
  unfold template_zzOperator.f
  repeat' first
      | (with_reducible exact ih0 _ _ _)
      | (with_reducible exact LeO.refl _)
      | (with_reducible exact LeO.none _)
      | (with_reducible refine LeO.ite ?_ ?_)
      | (with_reducible refine LeO.bind ?_ (fun _ => ?_))
      | exact ih0 _ _ _
      | exact LeO.none _
      | refine LeO.ite ?_ ?_
      | refine LeO.bind ?_ (fun _ => ?_)
set_option maxHeartbeats 8000000 in
set_option maxRecDepth 100000 in
theorem template_zzOperator.calls (k : Nat) (a0 : ByteArray) (a1 : Int) (r : Int) (w : World) (h : template_zzOperator.f k a0 a1 = some r) :
    Calls Tryz.prog 121 #[.string a0, .int .i64 a1] w fun e w' => e = .returned (.int .i64 r) ∧ Drawn0 w w' := by
  have H : (if a1 < (a0.size : Int) then (if 0 ≤ a1 then (template_zzOperator.j0 k a0 a1 ((bt a0 a1) == 58)) else (none)) else (template_zzOperator.j0 k a0 a1 false)) = some r := h
  clear h
  have HC3 := Aside0.mk H
  clear H
  go_enter Tryz.func121, Tryz.ntmps121
  go_upto_region 1 with (fail)
  go_cut [14] (fun v14 wc => ∃ (kq : Nat) (x14_2 : Bool), v14 = .bool x14_2 ∧ Aside0 (template_zzOperator.j0 kq a0 a1 x14_2 = some r) ∧ Aside0 (kq ≤ k) ∧ Drawn0 w wc)
  case first =>
    have H := HC3.out
    clear HC3
    by_cases c4 : a1 < (a0.size : Int)
    · rw [if_pos c4] at H
      have c4b0 : decide (a1 < (a0.size : Int)) = true := decide_eq_true c4
      clear c4
      (first | rw [c4b0] | (simp only [i64_w, i32_w]; rw [c4b0]) | skip)
      by_cases c5 : 0 ≤ a1
      · rw [if_pos c5] at H
        have c5b0 : decide (0 ≤ a1) = true := decide_eq_true c5
        clear c5
        have H' := Aside0.mk H
        clear H
        have p6 : 0 ≤ (a1 : Int) := of_decide_eq_true (by first | (with_reducible assumption) | assumption)
        have q6 : a1 < (a0.size : Int) := of_decide_eq_true (by first | (with_reducible assumption) | assumption)
        have hx6 := bt_at a0 a1
        replace p6 := eq_true p6
        replace q6 := eq_true q6
        go_wp2
        go_meet
        case rel => exact ⟨_, (((bt a0 a1) == 58)), (by first | rfl | (simp; done) | (simp [*]; done)), H', ⟨by first | omega | exact Nat.le_refl _⟩, by repeat (first | exact Drawn0.refl _ | apply Drawn0.step)⟩
      · rw [if_neg c5] at H
        exact absurd H (by simp)
    · rw [if_neg c4] at H
      have c4b0 : decide (a1 < (a0.size : Int)) = false := decide_eq_false c4
      clear c4
      (first | rw [c4b0] | (simp only [i64_w, i32_w]; rw [c4b0]) | skip)
      have H' := Aside0.mk H
      clear H
      go_wp2
      go_meet
      case rel => exact ⟨_, (false), (by first | rfl | (simp; done) | (simp [*]; done)), H', ⟨by first | omega | exact Nat.le_refl _⟩, by repeat (first | exact Drawn0.refl _ | apply Drawn0.step)⟩
  case rest =>
    clear HC3
    try clear c1
    try clear p2
    try clear c4
    try clear c4b0
    try clear c5
    try clear c5b0
    try clear p6
    try clear q6
    try clear hx6
    try clear p6
    try clear q6
    obtain ⟨kq, x14_2, rfl, HA, HJ2, ⟨mc2, rfl⟩⟩ := hcut
    cases kq with
    | zero => exact absurd HA.out (by simp [template_zzOperator.j0])
    | succ kj2 =>
      have H := HA.out
      clear HA
      simp only [template_zzOperator.j0] at H
      by_cases c7 : x14_2 = true
      · subst c7
        have H1 : (if (wrap64 (a1 + 1)) < (a0.size : Int) then (if 0 ≤ (wrap64 (a1 + 1)) then (if (bt a0 (wrap64 (a1 + 1))) = 45 then (some (wrap64 ((wrap64 (a1 + 1)) + 1))) else (if (bt a0 (wrap64 (a1 + 1))) = 43 then (some (wrap64 ((wrap64 (a1 + 1)) + 1))) else (if (bt a0 (wrap64 (a1 + 1))) = 63 then (some (wrap64 ((wrap64 (a1 + 1)) + 1))) else (some 0)))) else (none)) else (some 0)) = some r := by rw [if_pos rfl] at H; exact H
        clear H
        have H := H1
        clear H1
        by_cases c8 : (wrap64 (a1 + 1)) < (a0.size : Int)
        · rw [if_pos c8] at H
          have c8b0 : decide ((wrap64 (a1 + 1)) < (a0.size : Int)) = true := decide_eq_true c8
          clear c8
          obtain ⟨ji9, hji9⟩ : ∃ j_ : Int, (wrap64 (a1 + 1)) = j_ := ⟨_, rfl⟩
          replace H : (if 0 ≤ (ji9) then (if (bt a0 (ji9)) = 45 then (some (wrap64 ((ji9) + 1))) else (if (bt a0 (ji9)) = 43 then (some (wrap64 ((ji9) + 1))) else (if (bt a0 (ji9)) = 63 then (some (wrap64 ((ji9) + 1))) else (some 0)))) else (none)) = some r := by first | (rw [hji9] at H; exact H) | (simp only [hji9] at H ⊢; exact H)
          (try rw [hji9] at c8b0)
          have hji9w : (IntKind.i64.wrap (a1 + 1)) = ji9 := (i64_w _).trans hji9
          by_cases c10 : 0 ≤ (ji9)
          · rw [if_pos c10] at H
            have c10b0 : decide (0 ≤ (ji9)) = true := decide_eq_true c10
            clear c10
            by_cases c12 : (bt a0 (ji9)) = 45
            · rw [if_pos c12] at H
              have c12b0 : ((bt a0 (ji9)) == 45) = true := beq_iff_eq.mpr c12
              have c12b1 : ((bt a0 (ji9)) != 45) = false := bne_eq_false_iff_eq.mpr c12
              clear c12
              obtain rfl := Option.some.inj H
              have p11 : 0 ≤ ((ji9) : Int) := of_decide_eq_true (by first | (with_reducible assumption) | assumption)
              have q11 : (ji9) < (a0.size : Int) := of_decide_eq_true (by first | (with_reducible assumption) | assumption)
              have hx11 := bt_at a0 (ji9)
              replace p11 := eq_true p11
              replace q11 := eq_true q11
              go_wp2
              go_ret
              exact ⟨by first | rfl | (simp; done) | (simp only [← hji9] <;> (first | rfl | simp)) | (simp [*]; done), by repeat (first | exact Drawn0.refl _ | apply Drawn0.step)⟩
            · rw [if_neg c12] at H
              have c12b0 : ((bt a0 (ji9)) == 45) = false := beq_eq_false_iff_ne.mpr c12
              have c12b1 : ((bt a0 (ji9)) != 45) = true := bne_iff_ne.mpr c12
              by_cases c14 : (bt a0 (ji9)) = 43
              · rw [if_pos c14] at H
                have c14b0 : ((bt a0 (ji9)) == 43) = true := beq_iff_eq.mpr c14
                have c14b1 : ((bt a0 (ji9)) != 43) = false := bne_eq_false_iff_eq.mpr c14
                clear c14
                obtain rfl := Option.some.inj H
                have p11 : 0 ≤ ((ji9) : Int) := of_decide_eq_true (by first | (with_reducible assumption) | assumption)
                have q11 : (ji9) < (a0.size : Int) := of_decide_eq_true (by first | (with_reducible assumption) | assumption)
                have hx11 := bt_at a0 (ji9)
                replace p11 := eq_true p11
                replace q11 := eq_true q11
                have p13 : 0 ≤ ((ji9) : Int) := of_decide_eq_true (by first | (with_reducible assumption) | assumption)
                have q13 : (ji9) < (a0.size : Int) := of_decide_eq_true (by first | (with_reducible assumption) | assumption)
                have hx13 := bt_at a0 (ji9)
                replace p13 := eq_true p13
                replace q13 := eq_true q13
                go_wp2
                go_ret
                exact ⟨by first | rfl | (simp; done) | (simp only [← hji9] <;> (first | rfl | simp)) | (simp [*]; done), by repeat (first | exact Drawn0.refl _ | apply Drawn0.step)⟩
              · rw [if_neg c14] at H
                have c14b0 : ((bt a0 (ji9)) == 43) = false := beq_eq_false_iff_ne.mpr c14
                have c14b1 : ((bt a0 (ji9)) != 43) = true := bne_iff_ne.mpr c14
                by_cases c16 : (bt a0 (ji9)) = 63
                · rw [if_pos c16] at H
                  have c16b0 : ((bt a0 (ji9)) == 63) = true := beq_iff_eq.mpr c16
                  have c16b1 : ((bt a0 (ji9)) != 63) = false := bne_eq_false_iff_eq.mpr c16
                  clear c16
                  obtain rfl := Option.some.inj H
                  have p11 : 0 ≤ ((ji9) : Int) := of_decide_eq_true (by first | (with_reducible assumption) | assumption)
                  have q11 : (ji9) < (a0.size : Int) := of_decide_eq_true (by first | (with_reducible assumption) | assumption)
                  have hx11 := bt_at a0 (ji9)
                  replace p11 := eq_true p11
                  replace q11 := eq_true q11
                  have p13 : 0 ≤ ((ji9) : Int) := of_decide_eq_true (by first | (with_reducible assumption) | assumption)
                  have q13 : (ji9) < (a0.size : Int) := of_decide_eq_true (by first | (with_reducible assumption) | assumption)
                  have hx13 := bt_at a0 (ji9)
                  replace p13 := eq_true p13
                  replace q13 := eq_true q13
                  have p15 : 0 ≤ ((ji9) : Int) := of_decide_eq_true (by first | (with_reducible assumption) | assumption)
                  have q15 : (ji9) < (a0.size : Int) := of_decide_eq_true (by first | (with_reducible assumption) | assumption)
                  have hx15 := bt_at a0 (ji9)
                  replace p15 := eq_true p15
                  replace q15 := eq_true q15
                  go_wp2
                  go_ret
                  exact ⟨by first | rfl | (simp; done) | (simp only [← hji9] <;> (first | rfl | simp)) | (simp [*]; done), by repeat (first | exact Drawn0.refl _ | apply Drawn0.step)⟩
                · rw [if_neg c16] at H
                  have c16b0 : ((bt a0 (ji9)) == 63) = false := beq_eq_false_iff_ne.mpr c16
                  have c16b1 : ((bt a0 (ji9)) != 63) = true := bne_iff_ne.mpr c16
                  obtain rfl := Option.some.inj H
                  have p11 : 0 ≤ ((ji9) : Int) := of_decide_eq_true (by first | (with_reducible assumption) | assumption)
                  have q11 : (ji9) < (a0.size : Int) := of_decide_eq_true (by first | (with_reducible assumption) | assumption)
                  have hx11 := bt_at a0 (ji9)
                  replace p11 := eq_true p11
                  replace q11 := eq_true q11
                  have p13 : 0 ≤ ((ji9) : Int) := of_decide_eq_true (by first | (with_reducible assumption) | assumption)
                  have q13 : (ji9) < (a0.size : Int) := of_decide_eq_true (by first | (with_reducible assumption) | assumption)
                  have hx13 := bt_at a0 (ji9)
                  replace p13 := eq_true p13
                  replace q13 := eq_true q13
                  have p15 : 0 ≤ ((ji9) : Int) := of_decide_eq_true (by first | (with_reducible assumption) | assumption)
                  have q15 : (ji9) < (a0.size : Int) := of_decide_eq_true (by first | (with_reducible assumption) | assumption)
                  have hx15 := bt_at a0 (ji9)
                  replace p15 := eq_true p15
                  replace q15 := eq_true q15
                  go_wp2
                  go_ret
                  exact ⟨by first | rfl | (simp; done) | (simp only [← hji9] <;> (first | rfl | simp)) | (simp [*]; done), by repeat (first | exact Drawn0.refl _ | apply Drawn0.step)⟩
          · rw [if_neg c10] at H
            exact absurd H (by simp)
        · rw [if_neg c8] at H
          have c8b0 : decide ((wrap64 (a1 + 1)) < (a0.size : Int)) = false := decide_eq_false c8
          clear c8
          obtain rfl := Option.some.inj H
          go_wp2
          go_ret
          exact ⟨by first | rfl | (simp; done) | (simp [*]; done), by repeat (first | exact Drawn0.refl _ | apply Drawn0.step)⟩
      · replace c7 := Bool.eq_false_iff.mpr c7
        subst c7
        have H1 : (if a1 < (a0.size : Int) then (if 0 ≤ a1 then (if (bt a0 a1) = 45 then (some (wrap64 (a1 + 1))) else (if (bt a0 a1) = 43 then (some (wrap64 (a1 + 1))) else (if (bt a0 a1) = 63 then (some (wrap64 (a1 + 1))) else (some 0)))) else (none)) else (some 0)) = some r := by rw [if_neg (show ¬ (false = true) by decide)] at H; exact H
        clear H
        have H := H1
        clear H1
        by_cases c17 : a1 < (a0.size : Int)
        · rw [if_pos c17] at H
          have c17b0 : decide (a1 < (a0.size : Int)) = true := decide_eq_true c17
          clear c17
          by_cases c18 : 0 ≤ a1
          · rw [if_pos c18] at H
            have c18b0 : decide (0 ≤ a1) = true := decide_eq_true c18
            clear c18
            by_cases c20 : (bt a0 a1) = 45
            · rw [if_pos c20] at H
              have c20b0 : ((bt a0 a1) == 45) = true := beq_iff_eq.mpr c20
              have c20b1 : ((bt a0 a1) != 45) = false := bne_eq_false_iff_eq.mpr c20
              clear c20
              obtain rfl := Option.some.inj H
              have p19 : 0 ≤ (a1 : Int) := of_decide_eq_true (by first | (with_reducible assumption) | assumption)
              have q19 : a1 < (a0.size : Int) := of_decide_eq_true (by first | (with_reducible assumption) | assumption)
              have hx19 := bt_at a0 a1
              replace p19 := eq_true p19
              replace q19 := eq_true q19
              go_wp2
              go_ret
              exact ⟨by first | rfl | (simp; done) | (simp [*]; done), by repeat (first | exact Drawn0.refl _ | apply Drawn0.step)⟩
            · rw [if_neg c20] at H
              have c20b0 : ((bt a0 a1) == 45) = false := beq_eq_false_iff_ne.mpr c20
              have c20b1 : ((bt a0 a1) != 45) = true := bne_iff_ne.mpr c20
              by_cases c22 : (bt a0 a1) = 43
              · rw [if_pos c22] at H
                have c22b0 : ((bt a0 a1) == 43) = true := beq_iff_eq.mpr c22
                have c22b1 : ((bt a0 a1) != 43) = false := bne_eq_false_iff_eq.mpr c22
                clear c22
                obtain rfl := Option.some.inj H
                have p19 : 0 ≤ (a1 : Int) := of_decide_eq_true (by first | (with_reducible assumption) | assumption)
                have q19 : a1 < (a0.size : Int) := of_decide_eq_true (by first | (with_reducible assumption) | assumption)
                have hx19 := bt_at a0 a1
                replace p19 := eq_true p19
                replace q19 := eq_true q19
                have p21 : 0 ≤ (a1 : Int) := of_decide_eq_true (by first | (with_reducible assumption) | assumption)
                have q21 : a1 < (a0.size : Int) := of_decide_eq_true (by first | (with_reducible assumption) | assumption)
                have hx21 := bt_at a0 a1
                replace p21 := eq_true p21
                replace q21 := eq_true q21
                go_wp2
                go_ret
                exact ⟨by first | rfl | (simp; done) | (simp [*]; done), by repeat (first | exact Drawn0.refl _ | apply Drawn0.step)⟩
              · rw [if_neg c22] at H
                have c22b0 : ((bt a0 a1) == 43) = false := beq_eq_false_iff_ne.mpr c22
                have c22b1 : ((bt a0 a1) != 43) = true := bne_iff_ne.mpr c22
                by_cases c24 : (bt a0 a1) = 63
                · rw [if_pos c24] at H
                  have c24b0 : ((bt a0 a1) == 63) = true := beq_iff_eq.mpr c24
                  have c24b1 : ((bt a0 a1) != 63) = false := bne_eq_false_iff_eq.mpr c24
                  clear c24
                  obtain rfl := Option.some.inj H
                  have p19 : 0 ≤ (a1 : Int) := of_decide_eq_true (by first | (with_reducible assumption) | assumption)
                  have q19 : a1 < (a0.size : Int) := of_decide_eq_true (by first | (with_reducible assumption) | assumption)
                  have hx19 := bt_at a0 a1
                  replace p19 := eq_true p19
                  replace q19 := eq_true q19
                  have p21 : 0 ≤ (a1 : Int) := of_decide_eq_true (by first | (with_reducible assumption) | assumption)
                  have q21 : a1 < (a0.size : Int) := of_decide_eq_true (by first | (with_reducible assumption) | assumption)
                  have hx21 := bt_at a0 a1
                  replace p21 := eq_true p21
                  replace q21 := eq_true q21
                  have p23 : 0 ≤ (a1 : Int) := of_decide_eq_true (by first | (with_reducible assumption) | assumption)
                  have q23 : a1 < (a0.size : Int) := of_decide_eq_true (by first | (with_reducible assumption) | assumption)
                  have hx23 := bt_at a0 a1
                  replace p23 := eq_true p23
                  replace q23 := eq_true q23
                  go_wp2
                  go_ret
                  exact ⟨by first | rfl | (simp; done) | (simp [*]; done), by repeat (first | exact Drawn0.refl _ | apply Drawn0.step)⟩
                · rw [if_neg c24] at H
                  have c24b0 : ((bt a0 a1) == 63) = false := beq_eq_false_iff_ne.mpr c24
                  have c24b1 : ((bt a0 a1) != 63) = true := bne_iff_ne.mpr c24
                  obtain rfl := Option.some.inj H
                  have p19 : 0 ≤ (a1 : Int) := of_decide_eq_true (by first | (with_reducible assumption) | assumption)
                  have q19 : a1 < (a0.size : Int) := of_decide_eq_true (by first | (with_reducible assumption) | assumption)
                  have hx19 := bt_at a0 a1
                  replace p19 := eq_true p19
                  replace q19 := eq_true q19
                  have p21 : 0 ≤ (a1 : Int) := of_decide_eq_true (by first | (with_reducible assumption) | assumption)
                  have q21 : a1 < (a0.size : Int) := of_decide_eq_true (by first | (with_reducible assumption) | assumption)
                  have hx21 := bt_at a0 a1
                  replace p21 := eq_true p21
                  replace q21 := eq_true q21
                  have p23 : 0 ≤ (a1 : Int) := of_decide_eq_true (by first | (with_reducible assumption) | assumption)
                  have q23 : a1 < (a0.size : Int) := of_decide_eq_true (by first | (with_reducible assumption) | assumption)
                  have hx23 := bt_at a0 a1
                  replace p23 := eq_true p23
                  replace q23 := eq_true q23
                  go_wp2
                  go_ret
                  exact ⟨by first | rfl | (simp; done) | (simp [*]; done), by repeat (first | exact Drawn0.refl _ | apply Drawn0.step)⟩
          · rw [if_neg c18] at H
            exact absurd H (by simp)
        · rw [if_neg c17] at H
          have c17b0 : decide (a1 < (a0.size : Int)) = false := decide_eq_false c17
          clear c17
          obtain rfl := Option.some.inj H
          go_wp2
          go_ret
          exact ⟨by first | rfl | (simp; done) | (simp [*]; done), by repeat (first | exact Drawn0.refl _ | apply Drawn0.step)⟩

/-! ### template_zzLast: function 122 -/
mutual
def template_zzLast.l0 : Nat → ByteArray → Int → Int → Option (Int)
  | 0, _, _, _ => none
  | k + 1, x0, x1, x5 => if x1 < (x0.size : Int) then (if 0 ≤ x1 then (template_zzLast.j1 k x0 x1 x5 ((bt x0 x1) != 10)) else (none)) else (template_zzLast.j1 k x0 x1 x5 false)
def template_zzLast.j1 : Nat → ByteArray → Int → Int → Bool → Option (Int)
  | 0, _, _, _, _ => none
  | k + 1, x0, x1, x5, x15 => if x15 = true then (if 0 ≤ x1 then (if x1 < (x0.size : Int) then (if (bt x0 x1) = 125 then (template_zzLast.l0 k x0 (wrap64 (x1 + 1)) x1) else (template_zzLast.l0 k x0 (wrap64 (x1 + 1)) x5)) else (none)) else (none)) else (some x5)
end
def template_zzLast.f (k : Nat) (a0 : ByteArray) (a1 : Int) : Option (Int) := template_zzLast.l0 k a0 a1 (-1)
theorem template_zzLast.mono_l : ∀ k, (∀ y0 y1 y2, LeO (template_zzLast.l0 k y0 y1 y2) (template_zzLast.l0 (k + 1) y0 y1 y2)) ∧ (∀ y0 y1 y2 y3, LeO (template_zzLast.j1 k y0 y1 y2 y3) (template_zzLast.j1 (k + 1) y0 y1 y2 y3))
  | 0 => ⟨fun _ _ _ r h => by simp [template_zzLast.l0] at h, fun _ _ _ _ r h => by simp [template_zzLast.j1] at h⟩
  | k + 1 => by
    obtain ⟨ih0, ih1⟩ := template_zzLast.mono_l k
    refine ⟨?_, ?_⟩
    · intro y0 y1 y2
      unfold template_zzLast.l0
      repeat' first
      | (with_reducible exact ih0 _ _ _)
      | (with_reducible exact ih1 _ _ _ _)
      | (with_reducible exact LeO.refl _)
      | (with_reducible exact LeO.none _)
      | (with_reducible refine LeO.ite ?_ ?_)
      | (with_reducible refine LeO.bind ?_ (fun _ => ?_))
      | exact ih0 _ _ _
      | exact ih1 _ _ _ _
      | exact LeO.none _
      | refine LeO.ite ?_ ?_
      | refine LeO.bind ?_ (fun _ => ?_)
    · intro y0 y1 y2 y3
      unfold template_zzLast.j1
      repeat' first
      | (with_reducible exact ih0 _ _ _)
      | (with_reducible exact ih1 _ _ _ _)
      | (with_reducible exact LeO.refl _)
      | (with_reducible exact LeO.none _)
      | (with_reducible refine LeO.ite ?_ ?_)
      | (with_reducible refine LeO.bind ?_ (fun _ => ?_))
      | exact ih0 _ _ _
      | exact ih1 _ _ _ _
      | exact LeO.none _
      | refine LeO.ite ?_ ?_
      | refine LeO.bind ?_ (fun _ => ?_)
theorem template_zzLast.mono : ∀ a0 a1 k, LeO (template_zzLast.f k a0 a1) (template_zzLast.f (k + 1) a0 a1) := by
  intro a0 a1 k
  obtain ⟨ih0, ih1⟩ := template_zzLast.mono_l k
  unfold template_zzLast.f
  repeat' first
      | (with_reducible exact ih0 _ _ _)
      | (with_reducible exact ih1 _ _ _ _)
      | (with_reducible exact LeO.refl _)
      | (with_reducible exact LeO.none _)
      | (with_reducible refine LeO.ite ?_ ?_)
      | (with_reducible refine LeO.bind ?_ (fun _ => ?_))
      | exact ih0 _ _ _
      | exact ih1 _ _ _ _
      | exact LeO.none _
      | refine LeO.ite ?_ ?_
      | refine LeO.bind ?_ (fun _ => ?_)
set_option maxHeartbeats 8000000 in
set_option maxRecDepth 100000 in
theorem template_zzLast.calls (k : Nat) (a0 : ByteArray) (a1 : Int) (r : Int) (w : World) (h : template_zzLast.f k a0 a1 = some r) :
    Calls Tryz.prog 122 #[.string a0, .int .i64 a1] w fun e w' => e = .returned (.int .i64 r) ∧ Drawn0 w w' := by
  have H : (template_zzLast.l0 k a0 a1 (-1)) = some r := h
  clear h
  have H' := Aside0.mk H
  clear H
  go_enter Tryz.func122, Tryz.ntmps122
  go_wp2
  go_loopg [1, 5] k (fun kq v1 v5 w' => ∃ (x1_1 : Int) (x5_1 : Int), v1 = .int .i64 x1_1 ∧ v5 = .int .i64 x5_1 ∧ Aside0 (template_zzLast.l0 kq a0 x1_1 x5_1 = some r) ∧ Aside0 (kq ≤ k) ∧ Drawn0 w w')
  case atStart => exact ⟨(a1), ((-1)), (by first | rfl | (simp; done) | (simp [*]; done)), (by first | rfl | (simp; done) | (simp [*]; done)), H', ⟨Nat.le_refl _⟩, by repeat (first | exact Drawn0.refl _ | apply Drawn0.step)⟩
  case round =>
    clear H'
    try clear c1
    try clear p2
    obtain ⟨x1_1, x5_1, rfl, rfl, HA, HK1, ⟨m1, rfl⟩⟩ := hrel
    cases gk with
    | zero => exact absurd HA.out (by simp [template_zzLast.l0])
    | succ k1 =>
      have H := HA.out
      clear HA
      simp only [template_zzLast.l0] at H
      have HC3 := Aside0.mk H
      clear H
      go_upto_region 2 with (fail)
      go_cut [15] (fun v15 wc => ∃ (kq : Nat) (x15_2 : Bool), v15 = .bool x15_2 ∧ Aside0 (template_zzLast.j1 kq a0 x1_1 x5_1 x15_2 = some r) ∧ Aside0 (kq ≤ k1) ∧ Drawn0 w wc)
      case first =>
        have H := HC3.out
        clear HC3
        by_cases c4 : x1_1 < (a0.size : Int)
        · rw [if_pos c4] at H
          have c4b0 : decide (x1_1 < (a0.size : Int)) = true := decide_eq_true c4
          clear c4
          (first | rw [c4b0] | (simp only [i64_w, i32_w]; rw [c4b0]) | skip)
          by_cases c5 : 0 ≤ x1_1
          · rw [if_pos c5] at H
            have c5b0 : decide (0 ≤ x1_1) = true := decide_eq_true c5
            clear c5
            have H' := Aside0.mk H
            clear H
            have p6 : 0 ≤ (x1_1 : Int) := of_decide_eq_true (by first | (with_reducible assumption) | assumption)
            have q6 : x1_1 < (a0.size : Int) := of_decide_eq_true (by first | (with_reducible assumption) | assumption)
            have hx6 := bt_at a0 x1_1
            replace p6 := eq_true p6
            replace q6 := eq_true q6
            go_wp2
            go_meet
            case rel => exact ⟨_, (((bt a0 x1_1) != 10)), (by first | rfl | (simp; done) | (simp [*]; done)), H', ⟨by have := HK1.out; first | omega | exact Nat.le_refl _⟩, by repeat (first | exact Drawn0.refl _ | apply Drawn0.step)⟩
          · rw [if_neg c5] at H
            exact absurd H (by simp)
        · rw [if_neg c4] at H
          have c4b0 : decide (x1_1 < (a0.size : Int)) = false := decide_eq_false c4
          clear c4
          (first | rw [c4b0] | (simp only [i64_w, i32_w]; rw [c4b0]) | skip)
          have H' := Aside0.mk H
          clear H
          go_wp2
          go_meet
          case rel => exact ⟨_, (false), (by first | rfl | (simp; done) | (simp [*]; done)), H', ⟨by have := HK1.out; first | omega | exact Nat.le_refl _⟩, by repeat (first | exact Drawn0.refl _ | apply Drawn0.step)⟩
      case rest =>
        clear HC3
        try clear c1
        try clear p2
        try clear c4
        try clear c4b0
        try clear c5
        try clear c5b0
        try clear p6
        try clear q6
        try clear hx6
        try clear p2
        try clear p6
        try clear q6
        obtain ⟨kq, x15_2, rfl, HA, HJ2, ⟨mc2, rfl⟩⟩ := hcut
        cases kq with
        | zero => exact absurd HA.out (by simp [template_zzLast.j1])
        | succ kj2 =>
          have H := HA.out
          clear HA
          simp only [template_zzLast.j1] at H
          by_cases c7 : x15_2 = true
          · subst c7
            have H1 : (if 0 ≤ x1_1 then (if x1_1 < (a0.size : Int) then (if (bt a0 x1_1) = 125 then (template_zzLast.l0 kj2 a0 (wrap64 (x1_1 + 1)) x1_1) else (template_zzLast.l0 kj2 a0 (wrap64 (x1_1 + 1)) x5_1)) else (none)) else (none)) = some r := by rw [if_pos rfl] at H; exact H
            clear H
            have H := H1
            clear H1
            by_cases c8 : 0 ≤ x1_1
            · rw [if_pos c8] at H
              have c8b0 : decide (0 ≤ x1_1) = true := decide_eq_true c8
              clear c8
              by_cases c9 : x1_1 < (a0.size : Int)
              · rw [if_pos c9] at H
                have c9b0 : decide (x1_1 < (a0.size : Int)) = true := decide_eq_true c9
                clear c9
                by_cases c11 : (bt a0 x1_1) = 125
                · rw [if_pos c11] at H
                  have c11b0 : ((bt a0 x1_1) == 125) = true := beq_iff_eq.mpr c11
                  have c11b1 : ((bt a0 x1_1) != 125) = false := bne_eq_false_iff_eq.mpr c11
                  clear c11
                  have H' := Aside0.mk H
                  clear H
                  have p10 : 0 ≤ (x1_1 : Int) := of_decide_eq_true (by first | (with_reducible assumption) | assumption)
                  have q10 : x1_1 < (a0.size : Int) := of_decide_eq_true (by first | (with_reducible assumption) | assumption)
                  have hx10 := bt_at a0 x1_1
                  replace p10 := eq_true p10
                  replace q10 := eq_true q10
                  go_wp2
                  go_roundg kj2
                  case measure => have := HK1.out; have := HJ2.out; omega
                  case rel => exact ⟨(wrap64 (x1_1 + 1)), (x1_1), (by first | rfl | (simp; done) | (simp [*]; done)), (by first | rfl | (simp; done) | (simp [*]; done)), H', ⟨by have := HK1.out; have := HJ2.out; omega⟩, by repeat (first | exact Drawn0.refl _ | apply Drawn0.step)⟩
                · rw [if_neg c11] at H
                  have c11b0 : ((bt a0 x1_1) == 125) = false := beq_eq_false_iff_ne.mpr c11
                  have c11b1 : ((bt a0 x1_1) != 125) = true := bne_iff_ne.mpr c11
                  have H' := Aside0.mk H
                  clear H
                  have p10 : 0 ≤ (x1_1 : Int) := of_decide_eq_true (by first | (with_reducible assumption) | assumption)
                  have q10 : x1_1 < (a0.size : Int) := of_decide_eq_true (by first | (with_reducible assumption) | assumption)
                  have hx10 := bt_at a0 x1_1
                  replace p10 := eq_true p10
                  replace q10 := eq_true q10
                  go_wp2
                  go_roundg kj2
                  case measure => have := HK1.out; have := HJ2.out; omega
                  case rel => exact ⟨(wrap64 (x1_1 + 1)), (x5_1), (by first | rfl | (simp; done) | (simp [*]; done)), (by first | rfl | (simp; done) | (simp [*]; done)), H', ⟨by have := HK1.out; have := HJ2.out; omega⟩, by repeat (first | exact Drawn0.refl _ | apply Drawn0.step)⟩
              · rw [if_neg c9] at H
                exact absurd H (by simp)
            · rw [if_neg c8] at H
              exact absurd H (by simp)
          · replace c7 := Bool.eq_false_iff.mpr c7
            subst c7
            have H1 : (some x5_1) = some r := by rw [if_neg (show ¬ (false = true) by decide)] at H; exact H
            clear H
            have H := H1
            clear H1
            obtain rfl := Option.some.inj H
            go_wp2
            go_ret
            exact ⟨by first | rfl | (simp; done) | (simp [*]; done), by repeat (first | exact Drawn0.refl _ | apply Drawn0.step)⟩

end Go.Proofs.YtlncdacoefoldaaGreatDoor.PX
