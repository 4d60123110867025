-- Written by a program over the translation (xprint.py). Lean checks it.
import Derived.Test.YtlncdacoefoldaaGreatDoorPXx0
namespace Go.Proofs.YtlncdacoefoldaaGreatDoor.PX
open Go.RowKit Go.Proofs.YtlncdacoefoldaaGreatDoorW.PrintWords Go.Proofs.YtlncdacoefoldaaGreatDoorW.PrintLast Go.Proofs.YtlncdacoefoldaaGreatDoorW.PrintMore
attribute [local go_sem] max2_int min2_int max_two min_two max_three min_three max_four min_four   -- for this text's walks alone
set_option linter.unusedVariables false
set_option linter.unusedSimpArgs false

/-! ### template_zzLetter: function 130 -/
mutual
def template_zzLetter.j0 : Nat → ByteArray → Int → Int → Bool → Option (Int)
  | 0, _, _, _, _ => none
  | k + 1, x0, x1, x5, x30 => if x30 = true then (some 1) else (if (wrap64 (x1 + 1)) < (x0.size : Int) then (if x5 = 197 then (if 0 ≤ (wrap64 (x1 + 1)) then (template_zzLetter.j1 k x0 x1 x5 ((bt x0 (wrap64 (x1 + 1))) == 191)) else (none)) else (template_zzLetter.j1 k x0 x1 x5 false)) else (template_zzLetter.j1 k x0 x1 x5 false))
def template_zzLetter.j1 : Nat → ByteArray → Int → Int → Bool → Option (Int)
  | 0, _, _, _, _ => none
  | k + 1, x0, x1, x5, x46 => if x46 = true then (some 2) else (if (wrap64 (x1 + 2)) < (x0.size : Int) then (if x5 = 226 then (if 0 ≤ (wrap64 (x1 + 1)) then (if (wrap64 (x1 + 1)) < (x0.size : Int) then (if (bt x0 (wrap64 (x1 + 1))) = 132 then (if 0 ≤ (wrap64 (x1 + 2)) then (if (bt x0 (wrap64 (x1 + 2))) = 170 then (some 3) else (some 0)) else (none)) else (some 0)) else (none)) else (none)) else (some 0)) else (some 0))
end
def template_zzLetter.f (k : Nat) (a0 : ByteArray) (a1 : Int) : Option (Int) := if a1 ≥ (a0.size : Int) then (some 0) else (if 0 ≤ a1 then (if a1 < (a0.size : Int) then (if (bt a0 a1) = 95 then (template_zzLetter.j0 k a0 a1 (bt a0 a1) true) else (if (bt a0 a1) ≥ 97 then (if (bt a0 a1) ≤ 122 then (template_zzLetter.j0 k a0 a1 (bt a0 a1) true) else (if (bt a0 a1) ≥ 65 then (template_zzLetter.j0 k a0 a1 (bt a0 a1) (decide ((bt a0 a1) ≤ 90))) else (template_zzLetter.j0 k a0 a1 (bt a0 a1) false))) else (if (bt a0 a1) ≥ 65 then (template_zzLetter.j0 k a0 a1 (bt a0 a1) (decide ((bt a0 a1) ≤ 90))) else (template_zzLetter.j0 k a0 a1 (bt a0 a1) false)))) else (none)) else (none))
theorem template_zzLetter.mono_l : ∀ k, (∀ y0 y1 y2 y3, LeO (template_zzLetter.j0 k y0 y1 y2 y3) (template_zzLetter.j0 (k + 1) y0 y1 y2 y3)) ∧ (∀ y0 y1 y2 y3, LeO (template_zzLetter.j1 k y0 y1 y2 y3) (template_zzLetter.j1 (k + 1) y0 y1 y2 y3))
  | 0 => ⟨fun _ _ _ _ r h => by simp [template_zzLetter.j0] at h, fun _ _ _ _ r h => by simp [template_zzLetter.j1] at h⟩
  | k + 1 => by
    obtain ⟨ih0, ih1⟩ := template_zzLetter.mono_l k
    refine ⟨?_, ?_⟩
    · intro y0 y1 y2 y3
      unfold template_zzLetter.j0
      repeat' first
      | (with_reducible exact ih0 _ _ _ _)
      | (with_reducible exact ih1 _ _ _ _)
      | (with_reducible exact LeO.refl _)
      | (with_reducible exact LeO.none _)
      | (with_reducible refine LeO.ite ?_ ?_)
      | (with_reducible refine LeO.bind ?_ (fun _ => ?_))
      | exact ih0 _ _ _ _
      | exact ih1 _ _ _ _
      | exact LeO.none _
      | refine LeO.ite ?_ ?_
      | refine LeO.bind ?_ (fun _ => ?_)
    · intro y0 y1 y2 y3
      unfold template_zzLetter.j1
      repeat' first
      | (with_reducible exact ih0 _ _ _ _)
      | (with_reducible exact ih1 _ _ _ _)
      | (with_reducible exact LeO.refl _)
      | (with_reducible exact LeO.none _)
      | (with_reducible refine LeO.ite ?_ ?_)
      | (with_reducible refine LeO.bind ?_ (fun _ => ?_))
      | exact ih0 _ _ _ _
      | exact ih1 _ _ _ _
      | exact LeO.none _
      | refine LeO.ite ?_ ?_
      | refine LeO.bind ?_ (fun _ => ?_)
theorem template_zzLetter.mono : ∀ a0 a1 k, LeO (template_zzLetter.f k a0 a1) (template_zzLetter.f (k + 1) a0 a1) := by
  intro a0 a1 k
  obtain ⟨ih0, ih1⟩ := template_zzLetter.mono_l k
  unfold template_zzLetter.f
  repeat' first
      | (with_reducible exact ih0 _ _ _ _)
      | (with_reducible exact ih1 _ _ _ _)
      | (with_reducible exact LeO.refl _)
      | (with_reducible exact LeO.none _)
      | (with_reducible refine LeO.ite ?_ ?_)
      | (with_reducible refine LeO.bind ?_ (fun _ => ?_))
      | exact ih0 _ _ _ _
      | exact ih1 _ _ _ _
      | exact LeO.none _
      | refine LeO.ite ?_ ?_
      | refine LeO.bind ?_ (fun _ => ?_)
set_option maxHeartbeats 8000000 in
set_option maxRecDepth 100000 in
theorem template_zzLetter.calls (k : Nat) (a0 : ByteArray) (a1 : Int) (r : Int) (w : World) (h : template_zzLetter.f k a0 a1 = some r) :
    Calls Tryz.prog 130 #[.string a0, .int .i64 a1] w fun e w' => e = .returned (.int .i64 r) ∧ Drawn0 w w' := by
  have H : (if a1 ≥ (a0.size : Int) then (some 0) else (if 0 ≤ a1 then (if a1 < (a0.size : Int) then (if (bt a0 a1) = 95 then (template_zzLetter.j0 k a0 a1 (bt a0 a1) true) else (if (bt a0 a1) ≥ 97 then (if (bt a0 a1) ≤ 122 then (template_zzLetter.j0 k a0 a1 (bt a0 a1) true) else (if (bt a0 a1) ≥ 65 then (template_zzLetter.j0 k a0 a1 (bt a0 a1) (decide ((bt a0 a1) ≤ 90))) else (template_zzLetter.j0 k a0 a1 (bt a0 a1) false))) else (if (bt a0 a1) ≥ 65 then (template_zzLetter.j0 k a0 a1 (bt a0 a1) (decide ((bt a0 a1) ≤ 90))) else (template_zzLetter.j0 k a0 a1 (bt a0 a1) false)))) else (none)) else (none))) = some r := h
  clear h
  by_cases c3 : a1 ≥ (a0.size : Int)
  · rw [if_pos c3] at H
    have c3b0 : decide ((a0.size : Int) ≤ a1) = true := decide_eq_true c3
    clear c3
    obtain rfl := Option.some.inj H
    go_enter Tryz.func130, Tryz.ntmps130
    go_wp2
    go_ret
    exact ⟨by first | rfl | (simp; done) | (simp [*]; done), by repeat (first | exact Drawn0.refl _ | apply Drawn0.step)⟩
  · rw [if_neg c3] at H
    have c3b0 : decide ((a0.size : Int) ≤ a1) = false := decide_eq_false c3
    clear c3
    by_cases c4 : 0 ≤ a1
    · rw [if_pos c4] at H
      have c4b0 : decide (0 ≤ a1) = true := decide_eq_true c4
      clear c4
      by_cases c5 : a1 < (a0.size : Int)
      · rw [if_pos c5] at H
        have c5b0 : decide (a1 < (a0.size : Int)) = true := decide_eq_true c5
        clear c5
        have HC7 := Aside0.mk H
        clear H
        have p6 : 0 ≤ (a1 : Int) := of_decide_eq_true (by first | (with_reducible assumption) | assumption)
        have q6 : a1 < (a0.size : Int) := of_decide_eq_true (by first | (with_reducible assumption) | assumption)
        have hx6 := bt_at a0 a1
        replace p6 := eq_true p6
        replace q6 := eq_true q6
        go_enter Tryz.func130, Tryz.ntmps130
        go_upto_region 4 with (fail)
        go_cut [30] (fun v30 wc => ∃ (kq : Nat) (x30_6 : Bool), v30 = .bool x30_6 ∧ Aside0 (template_zzLetter.j0 kq a0 a1 (bt a0 a1) x30_6 = some r) ∧ Aside0 (kq ≤ k) ∧ Drawn0 w wc)
        case first =>
          have H := HC7.out
          clear HC7
          by_cases c8 : (bt a0 a1) = 95
          · rw [if_pos c8] at H
            have c8b0 : ((bt a0 a1) == 95) = true := beq_iff_eq.mpr c8
            have c8b1 : ((bt a0 a1) != 95) = false := bne_eq_false_iff_eq.mpr c8
            clear c8
            (first | rw [c8b0] | (simp only [i64_w, i32_w]; rw [c8b0]) | skip)
            have H' := Aside0.mk H
            clear H
            go_wp2
            go_meet
            case rel => exact ⟨_, (true), (by first | rfl | (simp; done) | (simp [*]; done)), H', ⟨by first | omega | exact Nat.le_refl _⟩, by repeat (first | exact Drawn0.refl _ | apply Drawn0.step)⟩
          · rw [if_neg c8] at H
            have c8b0 : ((bt a0 a1) == 95) = false := beq_eq_false_iff_ne.mpr c8
            have c8b1 : ((bt a0 a1) != 95) = true := bne_iff_ne.mpr c8
            (first | rw [c8b0] | (simp only [i64_w, i32_w]; rw [c8b0]) | skip)
            by_cases c9 : (bt a0 a1) ≥ 97
            · rw [if_pos c9] at H
              have c9b0 : decide (97 ≤ (bt a0 a1)) = true := decide_eq_true c9
              clear c9
              by_cases c10 : (bt a0 a1) ≤ 122
              · rw [if_pos c10] at H
                have c10b0 : decide ((bt a0 a1) ≤ 122) = true := decide_eq_true c10
                clear c10
                have H' := Aside0.mk H
                clear H
                go_wp2
                go_meet
                case rel => exact ⟨_, (true), (by first | rfl | (simp; done) | (simp [*]; done)), H', ⟨by first | omega | exact Nat.le_refl _⟩, by repeat (first | exact Drawn0.refl _ | apply Drawn0.step)⟩
              · rw [if_neg c10] at H
                have c10b0 : decide ((bt a0 a1) ≤ 122) = false := decide_eq_false c10
                clear c10
                by_cases c11 : (bt a0 a1) ≥ 65
                · rw [if_pos c11] at H
                  have c11b0 : decide (65 ≤ (bt a0 a1)) = true := decide_eq_true c11
                  clear c11
                  have H' := Aside0.mk H
                  clear H
                  go_wp2
                  go_meet
                  case rel => exact ⟨_, (decide ((bt a0 a1) ≤ 90)), (by first | rfl | (simp; done) | (simp [*]; done)), H', ⟨by first | omega | exact Nat.le_refl _⟩, by repeat (first | exact Drawn0.refl _ | apply Drawn0.step)⟩
                · rw [if_neg c11] at H
                  have c11b0 : decide (65 ≤ (bt a0 a1)) = false := decide_eq_false c11
                  clear c11
                  have H' := Aside0.mk H
                  clear H
                  go_wp2
                  go_meet
                  case rel => exact ⟨_, (false), (by first | rfl | (simp; done) | (simp [*]; done)), H', ⟨by first | omega | exact Nat.le_refl _⟩, by repeat (first | exact Drawn0.refl _ | apply Drawn0.step)⟩
            · rw [if_neg c9] at H
              have c9b0 : decide (97 ≤ (bt a0 a1)) = false := decide_eq_false c9
              clear c9
              by_cases c12 : (bt a0 a1) ≥ 65
              · rw [if_pos c12] at H
                have c12b0 : decide (65 ≤ (bt a0 a1)) = true := decide_eq_true c12
                clear c12
                have H' := Aside0.mk H
                clear H
                go_wp2
                go_meet
                case rel => exact ⟨_, (decide ((bt a0 a1) ≤ 90)), (by first | rfl | (simp; done) | (simp [*]; done)), H', ⟨by first | omega | exact Nat.le_refl _⟩, by repeat (first | exact Drawn0.refl _ | apply Drawn0.step)⟩
              · rw [if_neg c12] at H
                have c12b0 : decide (65 ≤ (bt a0 a1)) = false := decide_eq_false c12
                clear c12
                have H' := Aside0.mk H
                clear H
                go_wp2
                go_meet
                case rel => exact ⟨_, (false), (by first | rfl | (simp; done) | (simp [*]; done)), H', ⟨by first | omega | exact Nat.le_refl _⟩, by repeat (first | exact Drawn0.refl _ | apply Drawn0.step)⟩
        case rest =>
          clear HC7
          try clear c1
          try clear p2
          try clear c3
          try clear c3b0
          try clear c4
          try clear c4b0
          try clear c5
          try clear c5b0
          try clear p6
          try clear q6
          try clear hx6
          try clear c8
          try clear c8b0
          try clear c8b1
          try clear c9
          try clear c9b0
          try clear c10
          try clear c10b0
          try clear c11
          try clear c11b0
          try clear c12
          try clear c12b0
          try clear p6
          try clear q6
          obtain ⟨kq, x30_6, rfl, HA, HJ6, ⟨mc6, rfl⟩⟩ := hcut
          cases kq with
          | zero => exact absurd HA.out (by simp [template_zzLetter.j0])
          | succ kj6 =>
            have H := HA.out
            clear HA
            simp only [template_zzLetter.j0] at H
            by_cases c13 : x30_6 = true
            · subst c13
              have H1 : (some 1) = some r := by rw [if_pos rfl] at H; exact H
              clear H
              have H := H1
              clear H1
              obtain rfl := Option.some.inj H
              go_wp2
              go_ret
              exact ⟨by first | rfl | (simp; done) | (simp [*]; done), by repeat (first | exact Drawn0.refl _ | apply Drawn0.step)⟩
            · replace c13 := Bool.eq_false_iff.mpr c13
              subst c13
              have H1 : (if (wrap64 (a1 + 1)) < (a0.size : Int) then (if (bt a0 a1) = 197 then (if 0 ≤ (wrap64 (a1 + 1)) then (template_zzLetter.j1 kj6 a0 a1 (bt a0 a1) ((bt a0 (wrap64 (a1 + 1))) == 191)) else (none)) else (template_zzLetter.j1 kj6 a0 a1 (bt a0 a1) false)) else (template_zzLetter.j1 kj6 a0 a1 (bt a0 a1) false)) = some r := by rw [if_neg (show ¬ (false = true) by decide)] at H; exact H
              clear H
              have H := H1
              clear H1
              have HC14 := Aside0.mk H
              clear H
              go_upto_region 6 with (fail)
              go_cut [46] (fun v46 wc => ∃ (kq : Nat) (x46_13 : Bool), v46 = .bool x46_13 ∧ Aside0 (template_zzLetter.j1 kq a0 a1 (bt a0 a1) x46_13 = some r) ∧ Aside0 (kq ≤ kj6) ∧ Drawn0 w wc)
              case first =>
                have H := HC14.out
                clear HC14
                by_cases c15 : (wrap64 (a1 + 1)) < (a0.size : Int)
                · rw [if_pos c15] at H
                  have c15b0 : decide ((wrap64 (a1 + 1)) < (a0.size : Int)) = true := decide_eq_true c15
                  clear c15
                  (first | rw [c15b0] | (simp only [i64_w, i32_w]; rw [c15b0]) | skip)
                  by_cases c16 : (bt a0 a1) = 197
                  · rw [if_pos c16] at H
                    have c16b0 : ((bt a0 a1) == 197) = true := beq_iff_eq.mpr c16
                    have c16b1 : ((bt a0 a1) != 197) = false := bne_eq_false_iff_eq.mpr c16
                    clear c16
                    obtain ⟨ji17, hji17⟩ : ∃ j_ : Int, (wrap64 (a1 + 1)) = j_ := ⟨_, rfl⟩
                    replace H : (if 0 ≤ (ji17) then (template_zzLetter.j1 kj6 a0 a1 (bt a0 a1) ((bt a0 (ji17)) == 191)) else (none)) = some r := by first | (rw [hji17] at H; exact H) | (simp only [hji17] at H ⊢; exact H)
                    (try rw [hji17] at c15b0)
                    have hji17w : (IntKind.i64.wrap (a1 + 1)) = ji17 := (i64_w _).trans hji17
                    by_cases c18 : 0 ≤ (ji17)
                    · rw [if_pos c18] at H
                      have c18b0 : decide (0 ≤ (ji17)) = true := decide_eq_true c18
                      clear c18
                      have H' := Aside0.mk H
                      clear H
                      have p19 : 0 ≤ ((ji17) : Int) := of_decide_eq_true (by first | (with_reducible assumption) | assumption)
                      have q19 : (ji17) < (a0.size : Int) := of_decide_eq_true (by first | (with_reducible assumption) | assumption)
                      have hx19 := bt_at a0 (ji17)
                      replace p19 := eq_true p19
                      replace q19 := eq_true q19
                      go_wp2
                      go_meet
                      case rel => exact ⟨_, (((bt a0 (ji17)) == 191)), (by first | rfl | (simp; done) | (simp only [← hji17] <;> (first | rfl | simp)) | (simp [*]; done)), H', ⟨by have := HJ6.out; first | omega | exact Nat.le_refl _⟩, by repeat (first | exact Drawn0.refl _ | apply Drawn0.step)⟩
                    · rw [if_neg c18] at H
                      exact absurd H (by simp)
                  · rw [if_neg c16] at H
                    have c16b0 : ((bt a0 a1) == 197) = false := beq_eq_false_iff_ne.mpr c16
                    have c16b1 : ((bt a0 a1) != 197) = true := bne_iff_ne.mpr c16
                    have H' := Aside0.mk H
                    clear H
                    go_wp2
                    go_meet
                    case rel => exact ⟨_, (false), (by first | rfl | (simp; done) | (simp [*]; done)), H', ⟨by have := HJ6.out; first | omega | exact Nat.le_refl _⟩, by repeat (first | exact Drawn0.refl _ | apply Drawn0.step)⟩
                · rw [if_neg c15] at H
                  have c15b0 : decide ((wrap64 (a1 + 1)) < (a0.size : Int)) = false := decide_eq_false c15
                  clear c15
                  (first | rw [c15b0] | (simp only [i64_w, i32_w]; rw [c15b0]) | skip)
                  have H' := Aside0.mk H
                  clear H
                  go_wp2
                  go_meet
                  case rel => exact ⟨_, (false), (by first | rfl | (simp; done) | (simp [*]; done)), H', ⟨by have := HJ6.out; first | omega | exact Nat.le_refl _⟩, by repeat (first | exact Drawn0.refl _ | apply Drawn0.step)⟩
              case rest =>
                clear HC14
                try clear c1
                try clear p1
                try clear q1
                try clear hx1
                try clear p2
                try clear c3
                try clear c3b0
                try clear c4
                try clear c4b0
                try clear c5
                try clear c5b0
                try clear c6
                try clear p6
                try clear q6
                try clear hx6
                try clear c8
                try clear c8b0
                try clear c8b1
                try clear c9
                try clear c9b0
                try clear c10
                try clear c10b0
                try clear c11
                try clear c11b0
                try clear c12
                try clear c12b0
                try clear c13
                try clear c15
                try clear c15b0
                try clear c16
                try clear c16b0
                try clear c16b1
                try clear c18
                try clear c18b0
                try clear p19
                try clear q19
                try clear hx19
                try clear p19
                try clear p2
                try clear p6
                try clear q19
                try clear q6
                obtain ⟨kq, x46_13, rfl, HA, HJ13, ⟨mc13, rfl⟩⟩ := hcut
                cases kq with
                | zero => exact absurd HA.out (by simp [template_zzLetter.j1])
                | succ kj13 =>
                  have H := HA.out
                  clear HA
                  simp only [template_zzLetter.j1] at H
                  by_cases c20 : x46_13 = true
                  · subst c20
                    have H1 : (some 2) = some r := by rw [if_pos rfl] at H; exact H
                    clear H
                    have H := H1
                    clear H1
                    obtain rfl := Option.some.inj H
                    go_wp2
                    go_ret
                    exact ⟨by first | rfl | (simp; done) | (simp [*]; done), by repeat (first | exact Drawn0.refl _ | apply Drawn0.step)⟩
                  · replace c20 := Bool.eq_false_iff.mpr c20
                    subst c20
                    have H1 : (if (wrap64 (a1 + 2)) < (a0.size : Int) then (if (bt a0 a1) = 226 then (if 0 ≤ (wrap64 (a1 + 1)) then (if (wrap64 (a1 + 1)) < (a0.size : Int) then (if (bt a0 (wrap64 (a1 + 1))) = 132 then (if 0 ≤ (wrap64 (a1 + 2)) then (if (bt a0 (wrap64 (a1 + 2))) = 170 then (some 3) else (some 0)) else (none)) else (some 0)) else (none)) else (none)) else (some 0)) else (some 0)) = some r := by rw [if_neg (show ¬ (false = true) by decide)] at H; exact H
                    clear H
                    have H := H1
                    clear H1
                    by_cases c21 : (wrap64 (a1 + 2)) < (a0.size : Int)
                    · rw [if_pos c21] at H
                      have c21b0 : decide ((wrap64 (a1 + 2)) < (a0.size : Int)) = true := decide_eq_true c21
                      clear c21
                      by_cases c22 : (bt a0 a1) = 226
                      · rw [if_pos c22] at H
                        have c22b0 : ((bt a0 a1) == 226) = true := beq_iff_eq.mpr c22
                        have c22b1 : ((bt a0 a1) != 226) = false := bne_eq_false_iff_eq.mpr c22
                        clear c22
                        obtain ⟨ji23, hji23⟩ : ∃ j_ : Int, (wrap64 (a1 + 1)) = j_ := ⟨_, rfl⟩
                        replace H : (if 0 ≤ (ji23) then (if (ji23) < (a0.size : Int) then (if (bt a0 (ji23)) = 132 then (if 0 ≤ (wrap64 (a1 + 2)) then (if (bt a0 (wrap64 (a1 + 2))) = 170 then (some 3) else (some 0)) else (none)) else (some 0)) else (none)) else (none)) = some r := by first | (rw [hji23] at H; exact H) | (simp only [hji23] at H ⊢; exact H)
                        have hji23w : (IntKind.i64.wrap (a1 + 1)) = ji23 := (i64_w _).trans hji23
                        by_cases c24 : 0 ≤ (ji23)
                        · rw [if_pos c24] at H
                          have c24b0 : decide (0 ≤ (ji23)) = true := decide_eq_true c24
                          clear c24
                          by_cases c25 : (ji23) < (a0.size : Int)
                          · rw [if_pos c25] at H
                            have c25b0 : decide ((ji23) < (a0.size : Int)) = true := decide_eq_true c25
                            clear c25
                            by_cases c27 : (bt a0 (ji23)) = 132
                            · rw [if_pos c27] at H
                              have c27b0 : ((bt a0 (ji23)) == 132) = true := beq_iff_eq.mpr c27
                              have c27b1 : ((bt a0 (ji23)) != 132) = false := bne_eq_false_iff_eq.mpr c27
                              clear c27
                              obtain ⟨ji28, hji28⟩ : ∃ j_ : Int, (wrap64 (a1 + 2)) = j_ := ⟨_, rfl⟩
                              replace H : (if 0 ≤ (ji28) then (if (bt a0 (ji28)) = 170 then (some 3) else (some 0)) else (none)) = some r := by first | (rw [hji28] at H; exact H) | (simp only [hji28] at H ⊢; exact H)
                              (try rw [hji28] at c21b0)
                              have hji28w : (IntKind.i64.wrap (a1 + 2)) = ji28 := (i64_w _).trans hji28
                              by_cases c29 : 0 ≤ (ji28)
                              · rw [if_pos c29] at H
                                have c29b0 : decide (0 ≤ (ji28)) = true := decide_eq_true c29
                                clear c29
                                by_cases c31 : (bt a0 (ji28)) = 170
                                · rw [if_pos c31] at H
                                  have c31b0 : ((bt a0 (ji28)) == 170) = true := beq_iff_eq.mpr c31
                                  have c31b1 : ((bt a0 (ji28)) != 170) = false := bne_eq_false_iff_eq.mpr c31
                                  clear c31
                                  obtain rfl := Option.some.inj H
                                  have p26 : 0 ≤ ((ji23) : Int) := of_decide_eq_true (by first | (with_reducible assumption) | assumption)
                                  have q26 : (ji23) < (a0.size : Int) := of_decide_eq_true (by first | (with_reducible assumption) | assumption)
                                  have hx26 := bt_at a0 (ji23)
                                  replace p26 := eq_true p26
                                  replace q26 := eq_true q26
                                  have p30 : 0 ≤ ((ji28) : Int) := of_decide_eq_true (by first | (with_reducible assumption) | assumption)
                                  have q30 : (ji28) < (a0.size : Int) := of_decide_eq_true (by first | (with_reducible assumption) | assumption)
                                  have hx30 := bt_at a0 (ji28)
                                  replace p30 := eq_true p30
                                  replace q30 := eq_true q30
                                  go_wp2
                                  go_ret
                                  exact ⟨by first | rfl | (simp; done) | (simp only [← hji23, ← hji28] <;> (first | rfl | simp)) | (simp [*]; done), by repeat (first | exact Drawn0.refl _ | apply Drawn0.step)⟩
                                · rw [if_neg c31] at H
                                  have c31b0 : ((bt a0 (ji28)) == 170) = false := beq_eq_false_iff_ne.mpr c31
                                  have c31b1 : ((bt a0 (ji28)) != 170) = true := bne_iff_ne.mpr c31
                                  obtain rfl := Option.some.inj H
                                  have p26 : 0 ≤ ((ji23) : Int) := of_decide_eq_true (by first | (with_reducible assumption) | assumption)
                                  have q26 : (ji23) < (a0.size : Int) := of_decide_eq_true (by first | (with_reducible assumption) | assumption)
                                  have hx26 := bt_at a0 (ji23)
                                  replace p26 := eq_true p26
                                  replace q26 := eq_true q26
                                  have p30 : 0 ≤ ((ji28) : Int) := of_decide_eq_true (by first | (with_reducible assumption) | assumption)
                                  have q30 : (ji28) < (a0.size : Int) := of_decide_eq_true (by first | (with_reducible assumption) | assumption)
                                  have hx30 := bt_at a0 (ji28)
                                  replace p30 := eq_true p30
                                  replace q30 := eq_true q30
                                  go_wp2
                                  go_ret
                                  exact ⟨by first | rfl | (simp; done) | (simp only [← hji23, ← hji28] <;> (first | rfl | simp)) | (simp [*]; done), by repeat (first | exact Drawn0.refl _ | apply Drawn0.step)⟩
                              · rw [if_neg c29] at H
                                exact absurd H (by simp)
                            · rw [if_neg c27] at H
                              have c27b0 : ((bt a0 (ji23)) == 132) = false := beq_eq_false_iff_ne.mpr c27
                              have c27b1 : ((bt a0 (ji23)) != 132) = true := bne_iff_ne.mpr c27
                              obtain rfl := Option.some.inj H
                              have p26 : 0 ≤ ((ji23) : Int) := of_decide_eq_true (by first | (with_reducible assumption) | assumption)
                              have q26 : (ji23) < (a0.size : Int) := of_decide_eq_true (by first | (with_reducible assumption) | assumption)
                              have hx26 := bt_at a0 (ji23)
                              replace p26 := eq_true p26
                              replace q26 := eq_true q26
                              go_wp2
                              go_ret
                              exact ⟨by first | rfl | (simp; done) | (simp only [← hji23] <;> (first | rfl | simp)) | (simp [*]; done), by repeat (first | exact Drawn0.refl _ | apply Drawn0.step)⟩
                          · rw [if_neg c25] at H
                            exact absurd H (by simp)
                        · rw [if_neg c24] at H
                          exact absurd H (by simp)
                      · rw [if_neg c22] at H
                        have c22b0 : ((bt a0 a1) == 226) = false := beq_eq_false_iff_ne.mpr c22
                        have c22b1 : ((bt a0 a1) != 226) = true := bne_iff_ne.mpr c22
                        obtain rfl := Option.some.inj H
                        go_wp2
                        go_ret
                        exact ⟨by first | rfl | (simp; done) | (simp [*]; done), by repeat (first | exact Drawn0.refl _ | apply Drawn0.step)⟩
                    · rw [if_neg c21] at H
                      have c21b0 : decide ((wrap64 (a1 + 2)) < (a0.size : Int)) = false := decide_eq_false c21
                      clear c21
                      obtain rfl := Option.some.inj H
                      go_wp2
                      go_ret
                      exact ⟨by first | rfl | (simp; done) | (simp [*]; done), by repeat (first | exact Drawn0.refl _ | apply Drawn0.step)⟩
      · rw [if_neg c5] at H
        exact absurd H (by simp)
    · rw [if_neg c4] at H
      exact absurd H (by simp)

/-! ### template_zzName: function 120 -/
mutual
def template_zzName.l0 : Nat → ByteArray → Int → Option (Int)
  | 0, _, _ => none
  | k + 1, x0, x1 => if x1 < (x0.size : Int) then ((template_zzLetter.f k x0 x1).bind fun t102 => (if t102 = 0 then (if 0 ≤ x1 then (if (bt x0 x1) ≥ 48 then (template_zzName.j1 k x0 x1 t102 (decide ((bt x0 x1) ≤ 57))) else (template_zzName.j1 k x0 x1 t102 false)) else (none)) else (template_zzName.j1 k x0 x1 t102 false))) else (some x1)
def template_zzName.j1 : Nat → ByteArray → Int → Int → Bool → Option (Int)
  | 0, _, _, _, _ => none
  | k + 1, x0, x1, x5, x38 => if x38 = true then (if 1 = 0 then (some x1) else (template_zzName.l0 k x0 (wrap64 (x1 + 1)))) else (if x5 = 0 then (some x1) else (template_zzName.l0 k x0 (wrap64 (x1 + x5))))
end
def template_zzName.f (k : Nat) (a0 : ByteArray) (a1 : Int) : Option (Int) := (template_zzLetter.f k a0 a1).bind fun t101 => (if t101 = 0 then (some a1) else (template_zzName.l0 k a0 (wrap64 (a1 + t101))))
theorem template_zzName.mono_l : ∀ k, (∀ y0 y1, LeO (template_zzName.l0 k y0 y1) (template_zzName.l0 (k + 1) y0 y1)) ∧ (∀ y0 y1 y2 y3, LeO (template_zzName.j1 k y0 y1 y2 y3) (template_zzName.j1 (k + 1) y0 y1 y2 y3))
  | 0 => ⟨fun _ _ r h => by simp [template_zzName.l0] at h, fun _ _ _ _ r h => by simp [template_zzName.j1] at h⟩
  | k + 1 => by
    obtain ⟨ih0, ih1⟩ := template_zzName.mono_l k
    refine ⟨?_, ?_⟩
    · intro y0 y1
      unfold template_zzName.l0
      repeat' first
      | (with_reducible exact ih0 _ _)
      | (with_reducible exact ih1 _ _ _ _)
      | (with_reducible exact template_zzLetter.mono _ _ _)
      | (with_reducible exact LeO.refl _)
      | (with_reducible exact LeO.none _)
      | (with_reducible refine LeO.ite ?_ ?_)
      | (with_reducible refine LeO.bind ?_ (fun _ => ?_))
      | exact ih0 _ _
      | exact ih1 _ _ _ _
      | exact template_zzLetter.mono _ _ _
      | exact LeO.none _
      | refine LeO.ite ?_ ?_
      | refine LeO.bind ?_ (fun _ => ?_)
    · intro y0 y1 y2 y3
      unfold template_zzName.j1
      repeat' first
      | (with_reducible exact ih0 _ _)
      | (with_reducible exact ih1 _ _ _ _)
      | (with_reducible exact template_zzLetter.mono _ _ _)
      | (with_reducible exact LeO.refl _)
      | (with_reducible exact LeO.none _)
      | (with_reducible refine LeO.ite ?_ ?_)
      | (with_reducible refine LeO.bind ?_ (fun _ => ?_))
      | exact ih0 _ _
      | exact ih1 _ _ _ _
      | exact template_zzLetter.mono _ _ _
      | exact LeO.none _
      | refine LeO.ite ?_ ?_
      | refine LeO.bind ?_ (fun _ => ?_)
theorem template_zzName.mono : ∀ a0 a1 k, LeO (template_zzName.f k a0 a1) (template_zzName.f (k + 1) a0 a1) := by
  intro a0 a1 k
  obtain ⟨ih0, ih1⟩ := template_zzName.mono_l k
  unfold template_zzName.f
  repeat' first
      | (with_reducible exact ih0 _ _)
      | (with_reducible exact ih1 _ _ _ _)
      | (with_reducible exact template_zzLetter.mono _ _ _)
      | (with_reducible exact LeO.refl _)
      | (with_reducible exact LeO.none _)
      | (with_reducible refine LeO.ite ?_ ?_)
      | (with_reducible refine LeO.bind ?_ (fun _ => ?_))
      | exact ih0 _ _
      | exact ih1 _ _ _ _
      | exact template_zzLetter.mono _ _ _
      | exact LeO.none _
      | refine LeO.ite ?_ ?_
      | refine LeO.bind ?_ (fun _ => ?_)
set_option maxHeartbeats 8000000 in
set_option maxRecDepth 100000 in
theorem template_zzName.calls (k : Nat) (a0 : ByteArray) (a1 : Int) (r : Int) (w : World) (h : template_zzName.f k a0 a1 = some r) :
    Calls Tryz.prog 120 #[.string a0, .int .i64 a1] w fun e w' => e = .returned (.int .i64 r) ∧ Drawn0 w w' := by
  have H : ((template_zzLetter.f k a0 a1).bind fun t101 => (if t101 = 0 then (some a1) else (template_zzName.l0 k a0 (wrap64 (a1 + t101))))) = some r := h
  clear h
  replace H := Option.bind_eq_some_iff.mp H
  obtain ⟨t101, A30, H⟩ := H
  replace H : (if t101 = 0 then (some a1) else (template_zzName.l0 k a0 (wrap64 (a1 + t101)))) = some r := H
  have A3 := Aside0.mk A30
  clear A30
  by_cases c4 : t101 = 0
  · rw [if_pos c4] at H
    have c4b0 : (t101 == 0) = true := beq_iff_eq.mpr c4
    have c4b1 : (t101 != 0) = false := bne_eq_false_iff_eq.mpr c4
    clear c4
    obtain rfl := Option.some.inj H
    go_enter Tryz.func120, Tryz.ntmps120
    go_wp2_with (first | ((with_reducible refine gate_callee (f := 130) rfl ?_); refine goesL_ (some 8) rfl rfl Tryz.func130 (by kernel_rfl) rfl #[.string a0, .int .i64 a1] rfl (by (try simp only [List.map_toArray, List.map_cons, List.map_nil]); first | done | rfl | (simp only [List.length_drop, List.length_take]; rfl)) ?_; (with_reducible refine (template_zzLetter.calls k a0 a1 t101 _ A3.out).mono ?_); rintro e w' ⟨rfl, ⟨nd, rfl⟩⟩; refine ⟨_, rfl, ?_⟩))
    go_ret
    exact ⟨by first | rfl | (simp; done) | (simp [*]; done), by repeat (first | exact Drawn0.refl _ | apply Drawn0.step)⟩
  · rw [if_neg c4] at H
    have c4b0 : (t101 == 0) = false := beq_eq_false_iff_ne.mpr c4
    have c4b1 : (t101 != 0) = true := bne_iff_ne.mpr c4
    have H' := Aside0.mk H
    clear H
    go_enter Tryz.func120, Tryz.ntmps120
    go_wp2_with (first | ((with_reducible refine gate_callee (f := 130) rfl ?_); refine goesL_ (some 8) rfl rfl Tryz.func130 (by kernel_rfl) rfl #[.string a0, .int .i64 a1] rfl (by (try simp only [List.map_toArray, List.map_cons, List.map_nil]); first | done | rfl | (simp only [List.length_drop, List.length_take]; rfl)) ?_; (with_reducible refine (template_zzLetter.calls k a0 a1 t101 _ A3.out).mono ?_); rintro e w' ⟨rfl, ⟨nd, rfl⟩⟩; refine ⟨_, rfl, ?_⟩))
    go_loopg [1] k (fun kq v1 w' => ∃ (x1_1 : Int), v1 = .int .i64 x1_1 ∧ Aside0 (template_zzName.l0 kq a0 x1_1 = some r) ∧ Aside0 (kq ≤ k) ∧ Drawn0 w w')
    case atStart => exact ⟨(wrap64 (a1 + t101)), (by first | rfl | (simp; done) | (simp [*]; done)), H', ⟨Nat.le_refl _⟩, by repeat (first | exact Drawn0.refl _ | apply Drawn0.step)⟩
    case round =>
      clear H'
      try clear c1
      try clear p2
      try clear c4
      try clear c4b0
      try clear c4b1
      obtain ⟨x1_1, rfl, HA, HK1, ⟨m1, rfl⟩⟩ := hrel
      cases gk with
      | zero => exact absurd HA.out (by simp [template_zzName.l0])
      | succ k1 =>
        have H := HA.out
        clear HA
        simp only [template_zzName.l0] at H
        by_cases c5 : x1_1 < (a0.size : Int)
        · rw [if_pos c5] at H
          have c5b0 : decide (x1_1 < (a0.size : Int)) = true := decide_eq_true c5
          clear c5
          replace H := Option.bind_eq_some_iff.mp H
          obtain ⟨t102, A60, H⟩ := H
          replace H : (if t102 = 0 then (if 0 ≤ x1_1 then (if (bt a0 x1_1) ≥ 48 then (template_zzName.j1 k1 a0 x1_1 t102 (decide ((bt a0 x1_1) ≤ 57))) else (template_zzName.j1 k1 a0 x1_1 t102 false)) else (none)) else (template_zzName.j1 k1 a0 x1_1 t102 false)) = some r := H
          have A6 := Aside0.mk A60
          clear A60
          have HC7 := Aside0.mk H
          clear H
          go_upto_region 8 with (first | ((with_reducible refine gate_callee (f := 130) rfl ?_); refine goesL_ (some 24) rfl rfl Tryz.func130 (by kernel_rfl) rfl #[.string a0, .int .i64 x1_1] rfl (by (try simp only [List.map_toArray, List.map_cons, List.map_nil]); first | done | rfl | (simp only [List.length_drop, List.length_take]; rfl)) ?_; (with_reducible refine (template_zzLetter.calls k1 a0 x1_1 t102 _ A6.out).mono ?_); rintro e w' ⟨rfl, ⟨nd, rfl⟩⟩; refine ⟨_, rfl, ?_⟩))
          (try simp only [Act.put, List.setIfInBounds_toArray, List.set_cons_zero, List.set_cons_succ])
          go_cut [38] (fun v38 wc => ∃ (kq : Nat) (x38_6 : Bool), v38 = .bool x38_6 ∧ Aside0 (template_zzName.j1 kq a0 x1_1 t102 x38_6 = some r) ∧ Aside0 (kq ≤ k1) ∧ Drawn0 w wc)
          case first =>
            have H := HC7.out
            clear HC7
            by_cases c8 : t102 = 0
            · rw [if_pos c8] at H
              have c8b0 : (t102 == 0) = true := beq_iff_eq.mpr c8
              have c8b1 : (t102 != 0) = false := bne_eq_false_iff_eq.mpr c8
              clear c8
              (first | rw [c8b0] | (simp only [i64_w, i32_w]; rw [c8b0]) | skip)
              by_cases c9 : 0 ≤ x1_1
              · rw [if_pos c9] at H
                have c9b0 : decide (0 ≤ x1_1) = true := decide_eq_true c9
                clear c9
                by_cases c11 : (bt a0 x1_1) ≥ 48
                · rw [if_pos c11] at H
                  have c11b0 : decide (48 ≤ (bt a0 x1_1)) = true := decide_eq_true c11
                  clear c11
                  have H' := Aside0.mk H
                  clear H
                  have p10 : 0 ≤ (x1_1 : Int) := of_decide_eq_true (by first | (with_reducible assumption) | assumption)
                  have q10 : x1_1 < (a0.size : Int) := of_decide_eq_true (by first | (with_reducible assumption) | assumption)
                  have hx10 := bt_at a0 x1_1
                  replace p10 := eq_true p10
                  replace q10 := eq_true q10
                  have p12 : 0 ≤ (x1_1 : Int) := of_decide_eq_true (by first | (with_reducible assumption) | assumption)
                  have q12 : x1_1 < (a0.size : Int) := of_decide_eq_true (by first | (with_reducible assumption) | assumption)
                  have hx12 := bt_at a0 x1_1
                  replace p12 := eq_true p12
                  replace q12 := eq_true q12
                  go_wp2
                  go_meet
                  case rel => exact ⟨_, (decide ((bt a0 x1_1) ≤ 57)), (by first | rfl | (simp; done) | (simp [*]; done)), H', ⟨by have := HK1.out; first | omega | exact Nat.le_refl _⟩, by repeat (first | exact Drawn0.refl _ | apply Drawn0.step)⟩
                · rw [if_neg c11] at H
                  have c11b0 : decide (48 ≤ (bt a0 x1_1)) = false := decide_eq_false c11
                  clear c11
                  have H' := Aside0.mk H
                  clear H
                  have p10 : 0 ≤ (x1_1 : Int) := of_decide_eq_true (by first | (with_reducible assumption) | assumption)
                  have q10 : x1_1 < (a0.size : Int) := of_decide_eq_true (by first | (with_reducible assumption) | assumption)
                  have hx10 := bt_at a0 x1_1
                  replace p10 := eq_true p10
                  replace q10 := eq_true q10
                  go_wp2
                  go_meet
                  case rel => exact ⟨_, (false), (by first | rfl | (simp; done) | (simp [*]; done)), H', ⟨by have := HK1.out; first | omega | exact Nat.le_refl _⟩, by repeat (first | exact Drawn0.refl _ | apply Drawn0.step)⟩
              · rw [if_neg c9] at H
                exact absurd H (by simp)
            · rw [if_neg c8] at H
              have c8b0 : (t102 == 0) = false := beq_eq_false_iff_ne.mpr c8
              have c8b1 : (t102 != 0) = true := bne_iff_ne.mpr c8
              (first | rw [c8b0] | (simp only [i64_w, i32_w]; rw [c8b0]) | skip)
              have H' := Aside0.mk H
              clear H
              go_wp2
              go_meet
              case rel => exact ⟨_, (false), (by first | rfl | (simp; done) | (simp [*]; done)), H', ⟨by have := HK1.out; first | omega | exact Nat.le_refl _⟩, by repeat (first | exact Drawn0.refl _ | apply Drawn0.step)⟩
          case rest =>
            clear HC7
            try clear c1
            try clear p1
            try clear q1
            try clear hx1
            try clear p2
            try clear c4
            try clear c4b0
            try clear c4b1
            try clear c5
            try clear c5b0
            try clear p6
            try clear c8
            try clear c8b0
            try clear c8b1
            try clear c9
            try clear c9b0
            try clear p10
            try clear q10
            try clear hx10
            try clear c11
            try clear c11b0
            try clear c12
            try clear p12
            try clear q12
            try clear hx12
            try clear p10
            try clear p12
            try clear p2
            try clear q10
            try clear q12
            obtain ⟨kq, x38_6, rfl, HA, HJ6, ⟨mc6, rfl⟩⟩ := hcut
            cases kq with
            | zero => exact absurd HA.out (by simp [template_zzName.j1])
            | succ kj6 =>
              have H := HA.out
              clear HA
              simp only [template_zzName.j1] at H
              by_cases c13 : x38_6 = true
              · subst c13
                have H1 : (if 1 = 0 then (some x1_1) else (template_zzName.l0 kj6 a0 (wrap64 (x1_1 + 1)))) = some r := by rw [if_pos rfl] at H; exact H
                clear H
                have H := H1
                clear H1
                by_cases c14 : 1 = 0
                · rw [if_pos c14] at H
                  have c14b0 : (1 == 0) = true := beq_iff_eq.mpr c14
                  have c14b1 : (1 != 0) = false := bne_eq_false_iff_eq.mpr c14
                  clear c14
                  obtain rfl := Option.some.inj H
                  exact absurd c14b0 (by decide)
                · rw [if_neg c14] at H
                  have c14b0 : (1 == 0) = false := beq_eq_false_iff_ne.mpr c14
                  have c14b1 : (1 != 0) = true := bne_iff_ne.mpr c14
                  have H' := Aside0.mk H
                  clear H
                  go_wp2
                  go_roundg kj6
                  case measure => have := HK1.out; have := HJ6.out; omega
                  case rel => exact ⟨(wrap64 (x1_1 + 1)), (by first | rfl | (simp; done) | (simp [*]; done)), H', ⟨by have := HK1.out; have := HJ6.out; omega⟩, by repeat (first | exact Drawn0.refl _ | apply Drawn0.step)⟩
              · replace c13 := Bool.eq_false_iff.mpr c13
                subst c13
                have H1 : (if t102 = 0 then (some x1_1) else (template_zzName.l0 kj6 a0 (wrap64 (x1_1 + t102)))) = some r := by rw [if_neg (show ¬ (false = true) by decide)] at H; exact H
                clear H
                have H := H1
                clear H1
                by_cases c15 : t102 = 0
                · rw [if_pos c15] at H
                  have c15b0 : (t102 == 0) = true := beq_iff_eq.mpr c15
                  have c15b1 : (t102 != 0) = false := bne_eq_false_iff_eq.mpr c15
                  clear c15
                  obtain rfl := Option.some.inj H
                  go_wp2
                  go_ret
                  exact ⟨by first | rfl | (simp; done) | (simp [*]; done), by repeat (first | exact Drawn0.refl _ | apply Drawn0.step)⟩
                · rw [if_neg c15] at H
                  have c15b0 : (t102 == 0) = false := beq_eq_false_iff_ne.mpr c15
                  have c15b1 : (t102 != 0) = true := bne_iff_ne.mpr c15
                  have H' := Aside0.mk H
                  clear H
                  go_wp2
                  go_roundg kj6
                  case measure => have := HK1.out; have := HJ6.out; omega
                  case rel => exact ⟨(wrap64 (x1_1 + t102)), (by first | rfl | (simp; done) | (simp [*]; done)), H', ⟨by have := HK1.out; have := HJ6.out; omega⟩, by repeat (first | exact Drawn0.refl _ | apply Drawn0.step)⟩
        · rw [if_neg c5] at H
          have c5b0 : decide (x1_1 < (a0.size : Int)) = false := decide_eq_false c5
          clear c5
          obtain rfl := Option.some.inj H
          go_wp2
          go_ret
          exact ⟨by first | rfl | (simp; done) | (simp [*]; done), by repeat (first | exact Drawn0.refl _ | apply Drawn0.step)⟩

end Go.Proofs.YtlncdacoefoldaaGreatDoor.PX
