-- Written by a program over the translation (xprint.py). Lean checks it.
import Derived.Test.YtlncdacoefoldaaGreatDoorPXx0
namespace Go.Proofs.YtlncdacoefoldaaGreatDoor.PX
open Go.RowKit Go.Proofs.YtlncdacoefoldaaGreatDoorW.PrintWords Go.Proofs.YtlncdacoefoldaaGreatDoorW.PrintLast Go.Proofs.YtlncdacoefoldaaGreatDoorW.PrintMore
attribute [local go_sem] max2_int min2_int max_two min_two max_three min_three max_four min_four   -- for this text's walks alone
set_option linter.unusedVariables false
set_option linter.unusedSimpArgs false

-- NOT PRINTED: function 119 (template_zzPattern_FindStringSubmatch)

/-! ### template_getFirstBraceClosingIndex: function 103 -/
def template_getFirstBraceClosingIndex.l0 : Nat → ByteArray → Int → Int → Option (Int)
  | 0, _, _, _ => none
  | k + 1, x0, x3, x4 => if x4 < (x0.size : Int) then (if 0 ≤ x4 then (if (bt x0 x4) = 125 then (if (wrap64 (x3 - 1)) = 0 then (some x4) else (if (bt x0 x4) = 123 then (template_getFirstBraceClosingIndex.l0 k x0 (wrap64 ((wrap64 (x3 - 1)) + 1)) (wrap64 ((wrap64 (x4 + 1)) + 1))) else (template_getFirstBraceClosingIndex.l0 k x0 (wrap64 (x3 - 1)) (wrap64 (x4 + 1))))) else (if (bt x0 x4) = 123 then (template_getFirstBraceClosingIndex.l0 k x0 (wrap64 (x3 + 1)) (wrap64 ((wrap64 (x4 + 1)) + 1))) else (template_getFirstBraceClosingIndex.l0 k x0 x3 (wrap64 (x4 + 1))))) else (none)) else (some (-1))
def template_getFirstBraceClosingIndex.f (k : Nat) (a0 : ByteArray) : Option (Int) := template_getFirstBraceClosingIndex.l0 k a0 0 0
theorem template_getFirstBraceClosingIndex.mono_l : ∀ k, (∀ y0 y1 y2, LeO (template_getFirstBraceClosingIndex.l0 k y0 y1 y2) (template_getFirstBraceClosingIndex.l0 (k + 1) y0 y1 y2))
  | 0 => fun _ _ _ r h => by simp [template_getFirstBraceClosingIndex.l0] at h
  | k + 1 => by
    have ih0 := template_getFirstBraceClosingIndex.mono_l k
    · intro y0 y1 y2
      unfold template_getFirstBraceClosingIndex.l0
      repeat' first
      | (with_reducible exact ih0 _ _ _)
      | (with_reducible exact LeO.refl _)
      | (with_reducible exact LeO.none _)
      | (with_reducible refine LeO.ite ?_ ?_)
      | (with_reducible refine LeO.bind ?_ (fun _ => ?_))
      | exact ih0 _ _ _
      | exact LeO.none _
      | refine LeO.ite ?_ ?_
      | refine LeO.bind ?_ (fun _ => ?_)
theorem template_getFirstBraceClosingIndex.mono : ∀ a0 k, LeO (template_getFirstBraceClosingIndex.f k a0) (template_getFirstBraceClosingIndex.f (k + 1) a0) := by
  intro a0 k
  have ih0 := template_getFirstBraceClosingIndex.mono_l k
  unfold template_getFirstBraceClosingIndex.f
  repeat' first
      | (with_reducible exact ih0 _ _ _)
      | (with_reducible exact LeO.refl _)
      | (with_reducible exact LeO.none _)
      | (with_reducible refine LeO.ite ?_ ?_)
      | (with_reducible refine LeO.bind ?_ (fun _ => ?_))
      | exact ih0 _ _ _
      | exact LeO.none _
      | refine LeO.ite ?_ ?_
      | refine LeO.bind ?_ (fun _ => ?_)
set_option maxHeartbeats 8000000 in
set_option maxRecDepth 100000 in
theorem template_getFirstBraceClosingIndex.calls (k : Nat) (a0 : ByteArray) (r : Int) (w : World) (h : template_getFirstBraceClosingIndex.f k a0 = some r) :
    Calls Tryz.prog 103 #[.string a0] w fun e w' => e = .returned (.int .i64 r) ∧ Drawn0 w w' := by
  have H : (template_getFirstBraceClosingIndex.l0 k a0 0 0) = some r := h
  clear h
  have H' := Aside0.mk H
  clear H
  go_enter Tryz.func103, Tryz.ntmps103
  go_wp2
  go_loopg [3, 4] k (fun kq v3 v4 w' => ∃ (x3_1 : Int) (x4_1 : Int), v3 = .int .i64 x3_1 ∧ v4 = .int .i64 x4_1 ∧ Aside0 (template_getFirstBraceClosingIndex.l0 kq a0 x3_1 x4_1 = some r) ∧ Aside0 (kq ≤ k) ∧ Drawn0 w w')
  case atStart => exact ⟨(0), (0), (by first | rfl | (simp; done) | (simp [*]; done)), (by first | rfl | (simp; done) | (simp [*]; done)), H', ⟨Nat.le_refl _⟩, by repeat (first | exact Drawn0.refl _ | apply Drawn0.step)⟩
  case round =>
    clear H'
    try clear c1
    obtain ⟨x3_1, x4_1, rfl, rfl, HA, HK1, ⟨m1, rfl⟩⟩ := hrel
    cases gk with
    | zero => exact absurd HA.out (by simp [template_getFirstBraceClosingIndex.l0])
    | succ k1 =>
      have H := HA.out
      clear HA
      simp only [template_getFirstBraceClosingIndex.l0] at H
      by_cases c2 : x4_1 < (a0.size : Int)
      · rw [if_pos c2] at H
        have c2b0 : decide (x4_1 < (a0.size : Int)) = true := decide_eq_true c2
        clear c2
        by_cases c3 : 0 ≤ x4_1
        · rw [if_pos c3] at H
          have c3b0 : decide (0 ≤ x4_1) = true := decide_eq_true c3
          clear c3
          by_cases c5 : (bt a0 x4_1) = 125
          · rw [if_pos c5] at H
            have c5b0 : ((bt a0 x4_1) == 125) = true := beq_iff_eq.mpr c5
            have c5b1 : ((bt a0 x4_1) != 125) = false := bne_eq_false_iff_eq.mpr c5
            clear c5
            by_cases c6 : (wrap64 (x3_1 - 1)) = 0
            · rw [if_pos c6] at H
              have c6b0 : ((wrap64 (x3_1 - 1)) == 0) = true := beq_iff_eq.mpr c6
              have c6b1 : ((wrap64 (x3_1 - 1)) != 0) = false := bne_eq_false_iff_eq.mpr c6
              clear c6
              obtain rfl := Option.some.inj H
              have p4 : 0 ≤ (x4_1 : Int) := of_decide_eq_true (by first | (with_reducible assumption) | assumption)
              have q4 : x4_1 < (a0.size : Int) := of_decide_eq_true (by first | (with_reducible assumption) | assumption)
              have hx4 := bt_at a0 x4_1
              replace p4 := eq_true p4
              replace q4 := eq_true q4
              go_wp2
              go_ret
              exact ⟨by first | rfl | (simp; done) | (simp [*]; done), by repeat (first | exact Drawn0.refl _ | apply Drawn0.step)⟩
            · rw [if_neg c6] at H
              have c6b0 : ((wrap64 (x3_1 - 1)) == 0) = false := beq_eq_false_iff_ne.mpr c6
              have c6b1 : ((wrap64 (x3_1 - 1)) != 0) = true := bne_iff_ne.mpr c6
              by_cases c8 : (bt a0 x4_1) = 123
              · rw [if_pos c8] at H
                have c8b0 : ((bt a0 x4_1) == 123) = true := beq_iff_eq.mpr c8
                have c8b1 : ((bt a0 x4_1) != 123) = false := bne_eq_false_iff_eq.mpr c8
                clear c8
                have H' := Aside0.mk H
                clear H
                have p4 : 0 ≤ (x4_1 : Int) := of_decide_eq_true (by first | (with_reducible assumption) | assumption)
                have q4 : x4_1 < (a0.size : Int) := of_decide_eq_true (by first | (with_reducible assumption) | assumption)
                have hx4 := bt_at a0 x4_1
                replace p4 := eq_true p4
                replace q4 := eq_true q4
                have p7 : 0 ≤ (x4_1 : Int) := of_decide_eq_true (by first | (with_reducible assumption) | assumption)
                have q7 : x4_1 < (a0.size : Int) := of_decide_eq_true (by first | (with_reducible assumption) | assumption)
                have hx7 := bt_at a0 x4_1
                replace p7 := eq_true p7
                replace q7 := eq_true q7
                go_wp2
                go_roundg k1
                case measure => have := HK1.out; omega
                case rel => exact ⟨(wrap64 ((wrap64 (x3_1 - 1)) + 1)), (wrap64 ((wrap64 (x4_1 + 1)) + 1)), (by first | rfl | (simp; done) | (simp [*]; done)), (by first | rfl | (simp; done) | (simp [*]; done)), H', ⟨by have := HK1.out; omega⟩, by repeat (first | exact Drawn0.refl _ | apply Drawn0.step)⟩
              · rw [if_neg c8] at H
                have c8b0 : ((bt a0 x4_1) == 123) = false := beq_eq_false_iff_ne.mpr c8
                have c8b1 : ((bt a0 x4_1) != 123) = true := bne_iff_ne.mpr c8
                have H' := Aside0.mk H
                clear H
                have p4 : 0 ≤ (x4_1 : Int) := of_decide_eq_true (by first | (with_reducible assumption) | assumption)
                have q4 : x4_1 < (a0.size : Int) := of_decide_eq_true (by first | (with_reducible assumption) | assumption)
                have hx4 := bt_at a0 x4_1
                replace p4 := eq_true p4
                replace q4 := eq_true q4
                have p7 : 0 ≤ (x4_1 : Int) := of_decide_eq_true (by first | (with_reducible assumption) | assumption)
                have q7 : x4_1 < (a0.size : Int) := of_decide_eq_true (by first | (with_reducible assumption) | assumption)
                have hx7 := bt_at a0 x4_1
                replace p7 := eq_true p7
                replace q7 := eq_true q7
                go_wp2
                go_roundg k1
                case measure => have := HK1.out; omega
                case rel => exact ⟨(wrap64 (x3_1 - 1)), (wrap64 (x4_1 + 1)), (by first | rfl | (simp; done) | (simp [*]; done)), (by first | rfl | (simp; done) | (simp [*]; done)), H', ⟨by have := HK1.out; omega⟩, by repeat (first | exact Drawn0.refl _ | apply Drawn0.step)⟩
          · rw [if_neg c5] at H
            have c5b0 : ((bt a0 x4_1) == 125) = false := beq_eq_false_iff_ne.mpr c5
            have c5b1 : ((bt a0 x4_1) != 125) = true := bne_iff_ne.mpr c5
            by_cases c10 : (bt a0 x4_1) = 123
            · rw [if_pos c10] at H
              have c10b0 : ((bt a0 x4_1) == 123) = true := beq_iff_eq.mpr c10
              have c10b1 : ((bt a0 x4_1) != 123) = false := bne_eq_false_iff_eq.mpr c10
              clear c10
              have H' := Aside0.mk H
              clear H
              have p4 : 0 ≤ (x4_1 : Int) := of_decide_eq_true (by first | (with_reducible assumption) | assumption)
              have q4 : x4_1 < (a0.size : Int) := of_decide_eq_true (by first | (with_reducible assumption) | assumption)
              have hx4 := bt_at a0 x4_1
              replace p4 := eq_true p4
              replace q4 := eq_true q4
              have p9 : 0 ≤ (x4_1 : Int) := of_decide_eq_true (by first | (with_reducible assumption) | assumption)
              have q9 : x4_1 < (a0.size : Int) := of_decide_eq_true (by first | (with_reducible assumption) | assumption)
              have hx9 := bt_at a0 x4_1
              replace p9 := eq_true p9
              replace q9 := eq_true q9
              go_wp2
              go_roundg k1
              case measure => have := HK1.out; omega
              case rel => exact ⟨(wrap64 (x3_1 + 1)), (wrap64 ((wrap64 (x4_1 + 1)) + 1)), (by first | rfl | (simp; done) | (simp [*]; done)), (by first | rfl | (simp; done) | (simp [*]; done)), H', ⟨by have := HK1.out; omega⟩, by repeat (first | exact Drawn0.refl _ | apply Drawn0.step)⟩
            · rw [if_neg c10] at H
              have c10b0 : ((bt a0 x4_1) == 123) = false := beq_eq_false_iff_ne.mpr c10
              have c10b1 : ((bt a0 x4_1) != 123) = true := bne_iff_ne.mpr c10
              have H' := Aside0.mk H
              clear H
              have p4 : 0 ≤ (x4_1 : Int) := of_decide_eq_true (by first | (with_reducible assumption) | assumption)
              have q4 : x4_1 < (a0.size : Int) := of_decide_eq_true (by first | (with_reducible assumption) | assumption)
              have hx4 := bt_at a0 x4_1
              replace p4 := eq_true p4
              replace q4 := eq_true q4
              have p9 : 0 ≤ (x4_1 : Int) := of_decide_eq_true (by first | (with_reducible assumption) | assumption)
              have q9 : x4_1 < (a0.size : Int) := of_decide_eq_true (by first | (with_reducible assumption) | assumption)
              have hx9 := bt_at a0 x4_1
              replace p9 := eq_true p9
              replace q9 := eq_true q9
              go_wp2
              go_roundg k1
              case measure => have := HK1.out; omega
              case rel => exact ⟨(x3_1), (wrap64 (x4_1 + 1)), (by first | rfl | (simp; done) | (simp [*]; done)), (by first | rfl | (simp; done) | (simp [*]; done)), H', ⟨by have := HK1.out; omega⟩, by repeat (first | exact Drawn0.refl _ | apply Drawn0.step)⟩
        · rw [if_neg c3] at H
          exact absurd H (by simp)
      · rw [if_neg c2] at H
        have c2b0 : decide (x4_1 < (a0.size : Int)) = false := decide_eq_false c2
        clear c2
        obtain rfl := Option.some.inj H
        go_wp2
        go_ret
        exact ⟨by first | rfl | (simp; done) | (simp [*]; done), by repeat (first | exact Drawn0.refl _ | apply Drawn0.step)⟩

/-! ### template_zzIndex: function 100 -/
def template_zzIndex.l0 : Nat → ByteArray → ByteArray → Int → Option (Int)
  | 0, _, _, _ => none
  | k + 1, x0, x1, x5 => if (wrap64 (x5 + (x1.size : Int))) ≤ (x0.size : Int) then (if 0 ≤ x5 then (if x5 ≤ (wrap64 (x5 + (x1.size : Int))) then (if (x0.extract (x5 : Int).toNat ((wrap64 (x5 + (x1.size : Int))) : Int).toNat).toList = x1.toList then (some x5) else (template_zzIndex.l0 k x0 x1 (wrap64 (x5 + 1)))) else (none)) else (none)) else (some (-1))
def template_zzIndex.f (k : Nat) (a0 : ByteArray) (a1 : ByteArray) : Option (Int) := template_zzIndex.l0 k a0 a1 0
theorem template_zzIndex.mono_l : ∀ k, (∀ y0 y1 y2, LeO (template_zzIndex.l0 k y0 y1 y2) (template_zzIndex.l0 (k + 1) y0 y1 y2))
  | 0 => fun _ _ _ r h => by simp [template_zzIndex.l0] at h
  | k + 1 => by
    have ih0 := template_zzIndex.mono_l k
    · intro y0 y1 y2
      unfold template_zzIndex.l0
      repeat' first
      | (with_reducible exact ih0 _ _ _)
      | (with_reducible exact LeO.refl _)
      | (with_reducible exact LeO.none _)
      | (with_reducible refine LeO.ite ?_ ?_)
      | (with_reducible refine LeO.bind ?_ (fun _ => ?_))
      | exact ih0 _ _ _
      | exact LeO.none _
      | refine LeO.ite ?_ ?_
      | refine LeO.bind ?_ (fun _ => ?_)
theorem template_zzIndex.mono : ∀ a0 a1 k, LeO (template_zzIndex.f k a0 a1) (template_zzIndex.f (k + 1) a0 a1) := by
  intro a0 a1 k
  have ih0 := template_zzIndex.mono_l k
  unfold template_zzIndex.f
  repeat' first
      | (with_reducible exact ih0 _ _ _)
      | (with_reducible exact LeO.refl _)
      | (with_reducible exact LeO.none _)
      | (with_reducible refine LeO.ite ?_ ?_)
      | (with_reducible refine LeO.bind ?_ (fun _ => ?_))
      | exact ih0 _ _ _
      | exact LeO.none _
      | refine LeO.ite ?_ ?_
      | refine LeO.bind ?_ (fun _ => ?_)
set_option maxHeartbeats 8000000 in
set_option maxRecDepth 100000 in
theorem template_zzIndex.calls (k : Nat) (a0 : ByteArray) (a1 : ByteArray) (r : Int) (w : World) (h : template_zzIndex.f k a0 a1 = some r) :
    Calls Tryz.prog 100 #[.string a0, .string a1] w fun e w' => e = .returned (.int .i64 r) ∧ Drawn0 w w' := by
  have H : (template_zzIndex.l0 k a0 a1 0) = some r := h
  clear h
  have H' := Aside0.mk H
  clear H
  go_enter Tryz.func100, Tryz.ntmps100
  go_wp2
  go_loopg [5] k (fun kq v5 w' => ∃ (x5_1 : Int), v5 = .int .i64 x5_1 ∧ Aside0 (template_zzIndex.l0 kq a0 a1 x5_1 = some r) ∧ Aside0 (kq ≤ k) ∧ Drawn0 w w')
  case atStart => exact ⟨(0), (by first | rfl | (simp; done) | (simp [*]; done)), H', ⟨Nat.le_refl _⟩, by repeat (first | exact Drawn0.refl _ | apply Drawn0.step)⟩
  case round =>
    clear H'
    try clear c1
    try clear p2
    obtain ⟨x5_1, rfl, HA, HK1, ⟨m1, rfl⟩⟩ := hrel
    cases gk with
    | zero => exact absurd HA.out (by simp [template_zzIndex.l0])
    | succ k1 =>
      have H := HA.out
      clear HA
      simp only [template_zzIndex.l0] at H
      by_cases c3 : (wrap64 (x5_1 + (a1.size : Int))) ≤ (a0.size : Int)
      · rw [if_pos c3] at H
        have c3b0 : decide ((wrap64 (x5_1 + (a1.size : Int))) ≤ (a0.size : Int)) = true := decide_eq_true c3
        clear c3
        by_cases c4 : 0 ≤ x5_1
        · rw [if_pos c4] at H
          have c4b0 := eq_true c4
          have c4b1 : decide (0 ≤ x5_1) = true := decide_eq_true c4
          clear c4
          by_cases c5 : x5_1 ≤ (wrap64 (x5_1 + (a1.size : Int)))
          · rw [if_pos c5] at H
            have c5b0 := eq_true c5
            have c5b1 : decide (x5_1 ≤ (wrap64 (x5_1 + (a1.size : Int)))) = true := decide_eq_true c5
            have c6b0 := eq_true (of_decide_eq_true (by first | (with_reducible assumption) | assumption) : (wrap64 (x5_1 + (a1.size : Int))) ≤ (a0.size : Int))
            by_cases c7 : (a0.extract (x5_1 : Int).toNat ((wrap64 (x5_1 + (a1.size : Int))) : Int).toNat).toList = a1.toList
            · rw [if_pos c7] at H
              have c7b0 : ((a0.extract (x5_1 : Int).toNat ((wrap64 (x5_1 + (a1.size : Int))) : Int).toNat).toList == a1.toList) = true := beq_iff_eq.mpr c7
              have c7b1 : ((a0.extract (x5_1 : Int).toNat ((wrap64 (x5_1 + (a1.size : Int))) : Int).toNat).toList != a1.toList) = false := bne_eq_false_iff_eq.mpr c7
              clear c7
              obtain rfl := Option.some.inj H
              go_wp2
              go_ret
              exact ⟨by first | rfl | (simp; done) | (simp [*]; done), by repeat (first | exact Drawn0.refl _ | apply Drawn0.step)⟩
            · rw [if_neg c7] at H
              have c7b0 : ((a0.extract (x5_1 : Int).toNat ((wrap64 (x5_1 + (a1.size : Int))) : Int).toNat).toList == a1.toList) = false := beq_eq_false_iff_ne.mpr c7
              have c7b1 : ((a0.extract (x5_1 : Int).toNat ((wrap64 (x5_1 + (a1.size : Int))) : Int).toNat).toList != a1.toList) = true := bne_iff_ne.mpr c7
              have H' := Aside0.mk H
              clear H
              go_wp2
              go_roundg k1
              case measure => have := HK1.out; omega
              case rel => exact ⟨(wrap64 (x5_1 + 1)), (by first | rfl | (simp; done) | (simp [*]; done)), H', ⟨by have := HK1.out; omega⟩, by repeat (first | exact Drawn0.refl _ | apply Drawn0.step)⟩
          · rw [if_neg c5] at H
            exact absurd H (by simp)
        · rw [if_neg c4] at H
          exact absurd H (by simp)
      · rw [if_neg c3] at H
        have c3b0 : decide ((wrap64 (x5_1 + (a1.size : Int))) ≤ (a0.size : Int)) = false := decide_eq_false c3
        clear c3
        obtain rfl := Option.some.inj H
        go_wp2
        go_ret
        exact ⟨by first | rfl | (simp; done) | (simp [*]; done), by repeat (first | exact Drawn0.refl _ | apply Drawn0.step)⟩

/-! ### template_zzContains: function 69 -/
def template_zzContains.f (k : Nat) (a0 : ByteArray) (a1 : ByteArray) : Option (Bool) := (template_zzIndex.f k a0 a1).bind fun t125 => (some (decide (t125 ≥ 0)))
theorem template_zzContains.mono : ∀ a0 a1 k, LeO (template_zzContains.f k a0 a1) (template_zzContains.f (k + 1) a0 a1) := by
  intro a0 a1 k
  unfold template_zzContains.f
  repeat' first
      | (with_reducible exact template_zzIndex.mono _ _ _)
      | (with_reducible exact LeO.refl _)
      | (with_reducible exact LeO.none _)
      | (with_reducible refine LeO.ite ?_ ?_)
      | (with_reducible refine LeO.bind ?_ (fun _ => ?_))
      | exact template_zzIndex.mono _ _ _
      | exact LeO.none _
      | refine LeO.ite ?_ ?_
      | refine LeO.bind ?_ (fun _ => ?_)
set_option maxHeartbeats 8000000 in
set_option maxRecDepth 100000 in
theorem template_zzContains.calls (k : Nat) (a0 : ByteArray) (a1 : ByteArray) (r : Bool) (w : World) (h : template_zzContains.f k a0 a1 = some r) :
    Calls Tryz.prog 69 #[.string a0, .string a1] w fun e w' => e = .returned (.bool r) ∧ Drawn0 w w' := by
  have H : ((template_zzIndex.f k a0 a1).bind fun t125 => (some (decide (t125 ≥ 0)))) = some r := h
  clear h
  replace H := Option.bind_eq_some_iff.mp H
  obtain ⟨t125, A30, H⟩ := H
  replace H : (some (decide (t125 ≥ 0))) = some r := H
  have A3 := Aside0.mk A30
  clear A30
  obtain rfl := Option.some.inj H
  go_enter Tryz.func69, Tryz.ntmps69
  go_wp2_with (first | ((with_reducible refine gate_callee (f := 100) rfl ?_); refine goesL_ (some 7) rfl rfl Tryz.func100 (by kernel_rfl) rfl #[.string a0, .string a1] rfl (by (try simp only [List.map_toArray, List.map_cons, List.map_nil]); first | done | rfl | (simp only [List.length_drop, List.length_take]; rfl)) ?_; (with_reducible refine (template_zzIndex.calls k a0 a1 t125 _ A3.out).mono ?_); rintro e w' ⟨rfl, ⟨nd, rfl⟩⟩; refine ⟨_, rfl, ?_⟩))
  go_ret
  exact ⟨by first | rfl | (simp; done) | (simp [*]; done), by repeat (first | exact Drawn0.refl _ | apply Drawn0.step)⟩

/-! ### template_zzSplitTwo: function 70 -/
def template_zzSplitTwo.f (k : Nat) (a0 : ByteArray) (a1 : ByteArray) : Option (List ByteArray) := (template_zzIndex.f k a0 a1).bind fun t126 => (if 0 ≤ t126 then (if t126 ≤ (a0.size : Int) then (if 0 ≤ (wrap64 (t126 + (a1.size : Int))) then (if (wrap64 (t126 + (a1.size : Int))) ≤ (a0.size : Int) then (some (([a0.extract 0 (t126 : Int).toNat, a0.extract ((wrap64 (t126 + (a1.size : Int))) : Int).toNat a0.size] : List ByteArray))) else (none)) else (none)) else (none)) else (none))
theorem template_zzSplitTwo.mono : ∀ a0 a1 k, LeO (template_zzSplitTwo.f k a0 a1) (template_zzSplitTwo.f (k + 1) a0 a1) := by
  intro a0 a1 k
  unfold template_zzSplitTwo.f
  repeat' first
      | (with_reducible exact template_zzIndex.mono _ _ _)
      | (with_reducible exact LeO.refl _)
      | (with_reducible exact LeO.none _)
      | (with_reducible refine LeO.ite ?_ ?_)
      | (with_reducible refine LeO.bind ?_ (fun _ => ?_))
      | exact template_zzIndex.mono _ _ _
      | exact LeO.none _
      | refine LeO.ite ?_ ?_
      | refine LeO.bind ?_ (fun _ => ?_)
def template_zzSplitTwo.T2 : Bool × List (List Nat × List Nat) := (true, [([], []), ([], []), ([0, 1], [0, 1]), ([], []), ([], []), ([], []), ([5], [5]), ([4, 6], [4, 6]), ([3, 7], [3, 7]), ([2, 8], [2, 8]), ([9, 0, 1, 2, 3, 4, 5, 6, 7, 8, 9], [9])])
def template_zzSplitTwo.B2 : List Nat := [0, 0, 3, 0, 0, 0, 32, 112, 248, 511, 1023]
theorem template_zzSplitTwo.tab2 : rtab .any (opsOf Tryz.f70 2) = template_zzSplitTwo.T2 := by kernel_rfl
theorem template_zzSplitTwo.bits2 : waitsOk template_zzSplitTwo.T2.2 template_zzSplitTwo.B2 = true := by kernel_rfl
set_option maxHeartbeats 8000000 in
set_option maxRecDepth 100000 in
theorem template_zzSplitTwo.calls (k : Nat) (a0 : ByteArray) (a1 : ByteArray) (r : List ByteArray) (w : World) (h : template_zzSplitTwo.f k a0 a1 = some r) :
    Calls Tryz.prog 70 #[.string a0, .string a1] w fun e w' => ∃ v0_ : Value, e = .returned (v0_) ∧ Kd.R Kd.string 9 w' w.heap.size (fun _ => True) v0_ r ∧ Below w.heap.size w w' := by
  have HB := Aside0.mk (Below.refl w.heap.size w)
  have H : ((template_zzIndex.f k a0 a1).bind fun t126 => (if 0 ≤ t126 then (if t126 ≤ (a0.size : Int) then (if 0 ≤ (wrap64 (t126 + (a1.size : Int))) then (if (wrap64 (t126 + (a1.size : Int))) ≤ (a0.size : Int) then (some (([a0.extract 0 (t126 : Int).toNat, a0.extract ((wrap64 (t126 + (a1.size : Int))) : Int).toNat a0.size] : List ByteArray))) else (none)) else (none)) else (none)) else (none))) = some r := h
  clear h
  replace H := Option.bind_eq_some_iff.mp H
  obtain ⟨t126, A30, H⟩ := H
  replace H : (if 0 ≤ t126 then (if t126 ≤ (a0.size : Int) then (if 0 ≤ (wrap64 (t126 + (a1.size : Int))) then (if (wrap64 (t126 + (a1.size : Int))) ≤ (a0.size : Int) then (some (([a0.extract 0 (t126 : Int).toNat, a0.extract ((wrap64 (t126 + (a1.size : Int))) : Int).toNat a0.size] : List ByteArray))) else (none)) else (none)) else (none)) else (none)) = some r := H
  have A3 := Aside0.mk A30
  clear A30
  by_cases c4 : 0 ≤ t126
  · rw [if_pos c4] at H
    have c4b0 := eq_true c4
    have c4b1 : decide (0 ≤ t126) = true := decide_eq_true c4
    clear c4
    by_cases c5 : t126 ≤ (a0.size : Int)
    · rw [if_pos c5] at H
      have c5b0 := eq_true c5
      have c5b1 : decide (t126 ≤ (a0.size : Int)) = true := decide_eq_true c5
      clear c5
      obtain ⟨ji6, hji6⟩ : ∃ j_ : Int, (wrap64 (t126 + (a1.size : Int))) = j_ := ⟨_, rfl⟩
      replace H : (if 0 ≤ (ji6) then (if (ji6) ≤ (a0.size : Int) then (some (([a0.extract 0 (t126 : Int).toNat, a0.extract ((ji6) : Int).toNat a0.size] : List ByteArray))) else (none)) else (none)) = some r := by first | (rw [hji6] at H; exact H) | (simp only [hji6] at H ⊢; exact H)
      (try rw [hji6] at A3)
      have hji6w : (IntKind.i64.wrap (t126 + (a1.size : Int))) = ji6 := (i64_w _).trans hji6
      by_cases c7 : 0 ≤ (ji6)
      · rw [if_pos c7] at H
        have c7b0 := eq_true c7
        have c7b1 : decide (0 ≤ (ji6)) = true := decide_eq_true c7
        clear c7
        by_cases c8 : (ji6) ≤ (a0.size : Int)
        · rw [if_pos c8] at H
          have c8b0 := eq_true c8
          have c8b1 : decide ((ji6) ≤ (a0.size : Int)) = true := decide_eq_true c8
          clear c8
          obtain ⟨y127, hy127⟩ : ∃ y_ : List ByteArray, y_ = (([a0.extract 0 (t126 : Int).toNat, a0.extract ((ji6) : Int).toNat a0.size] : List ByteArray)) := ⟨_, rfl⟩
          replace H : (some y127) = some r := by first | (rw [hy127]; with_reducible exact H) | (have H2_ := (Option.bind_some _ _).symm.trans H; rw [hy127]; with_reducible exact H2_) | (have H2_ := (Option.bind_some _ _).symm.trans H; with_reducible exact H2_) | with_reducible exact H | (rw [hy127]; exact H) | exact H
          have Ny127 := Aside0.mk hy127
          clear hy127
          obtain rfl := Option.some.inj H
          go_enter Tryz.func70, Tryz.ntmps70
          try go_wp2_with (first | ((with_reducible refine gate_callee (f := 100) rfl ?_); refine goesL_ (some 8) rfl rfl Tryz.func100 (by kernel_rfl) rfl #[.string a0, .string a1] rfl (by (try simp only [List.map_toArray, List.map_cons, List.map_nil]); first | done | rfl | (simp only [List.length_drop, List.length_take]; rfl)) ?_; (with_reducible refine (template_zzIndex.calls k a0 a1 t126 _ A3.out).mono ?_); rintro e w' ⟨rfl, ⟨nd, rfl⟩⟩; refine ⟨_, rfl, ?_⟩))
          have n0_ := Aside0.mk (below_drew1 HB.out)
          clear HB
          have HB := n0_
          clear n0_
          refine start_ (n := 11) (S := fun w' => True) (ds := []) #[false, false, false, false, false, false, false, false, false, false, false] (by kernel_rfl) rfl rfl trivial (fun hHeld => ?_); refine with_tabW template_zzSplitTwo.tab2 template_zzSplitTwo.bits2 (fun HT_ HW_ => ?_)
          generalize w.drew = w9 at HB hHeld ⊢
          refine pure_ (i := 0) (N := some 9) (v := ?_) (a' := ?_) #[true, false, false, false, false, false, false, false, false, false, false] rfl rfl (any_of HT_.out (by kernel_rfl)) (fun _ _ _ h => h) (Or.inl ⟨by rfl, ?_⟩) ?_ ?_
          rotate_left
          · intro w'
            go_simp
            with_reducible rfl
          rotate_left
          · simp only [Act.put, List.setIfInBounds_toArray, List.set_cons_zero, List.set_cons_succ, i64_w, i32_w]
            rfl
          refine pure_ (i := 1) (N := some 10) (v := ?_) (a' := ?_) #[true, true, false, false, false, false, false, false, false, false, false] rfl rfl (any_of HT_.out (by kernel_rfl)) (fun _ _ _ h => h) (Or.inl ⟨by rfl, ?_⟩) ?_ ?_
          rotate_left
          · intro w'
            go_simp
            with_reducible rfl
          rotate_left
          · simp only [Act.put, List.setIfInBounds_toArray, List.set_cons_zero, List.set_cons_succ, i64_w, i32_w]
            rfl
          refine pure_ (i := 2) (N := some 11) (v := ?_) (a' := ?_) #[true, true, true, false, false, false, false, false, false, false, false] rfl rfl (any_of HT_.out (by kernel_rfl)) (fun _ _ _ h => h) (Or.inl ⟨by rfl, ?_⟩) ?_ ?_
          rotate_left
          · intro w'
            go_simp
            with_reducible rfl
          rotate_left
          · simp only [Act.put, List.setIfInBounds_toArray, List.set_cons_zero, List.set_cons_succ, i64_w, i32_w]
            rfl
          refine pure_ (i := 3) (N := some 12) (v := ?_) (a' := ?_) #[true, true, true, true, false, false, false, false, false, false, false] rfl rfl (any_of HT_.out (by kernel_rfl)) (fun _ _ _ h => h) (Or.inl ⟨by rfl, ?_⟩) ?_ ?_
          rotate_left
          · intro w'
            go_simp
            with_reducible rfl
          rotate_left
          · simp only [Act.put, List.setIfInBounds_toArray, List.set_cons_zero, List.set_cons_succ, i64_w, i32_w]
            rfl
          refine pure_ (i := 4) (N := some 13) (v := ?_) (a' := ?_) #[true, true, true, true, true, false, false, false, false, false, false] rfl rfl (any_of HT_.out (by kernel_rfl)) (fun _ _ _ h => h) (Or.inl ⟨by rfl, ?_⟩) ?_ ?_
          rotate_left
          · intro w'
            go_simp
            with_reducible rfl
          rotate_left
          · simp only [Act.put, List.setIfInBounds_toArray, List.set_cons_zero, List.set_cons_succ, i64_w, i32_w]
            rfl
          refine pure_ (i := 5) (N := some 14) (v := ?_) (a' := ?_) #[true, true, true, true, true, true, false, false, false, false, false] rfl rfl (any_of HT_.out (by kernel_rfl)) (fun _ _ _ h => h) (Or.inl ⟨by rfl, ?_⟩) ?_ ?_
          rotate_left
          · intro w'
            go_simp
            with_reducible rfl
          rotate_left
          · simp only [Act.put, List.setIfInBounds_toArray, List.set_cons_zero, List.set_cons_succ, i64_w, i32_w]
            rfl
          refine pure_ (i := 6) (N := some 15) (v := ?_) (a' := ?_) #[true, true, true, true, true, true, true, false, false, false, false] rfl rfl (any_of HT_.out (by kernel_rfl)) (fun _ _ _ h => h) (Or.inl ⟨by rfl, ?_⟩) ?_ ?_
          rotate_left
          · intro w'
            go_simp
            with_reducible rfl
          rotate_left
          · simp only [Act.put, List.setIfInBounds_toArray, List.set_cons_zero, List.set_cons_succ, i64_w, i32_w]
            rfl
          refine pure_ (i := 7) (N := some 16) (v := ?_) (a' := ?_) #[true, true, true, true, true, true, true, true, false, false, false] rfl rfl (any_of HT_.out (by kernel_rfl)) (fun _ _ _ h => h) (Or.inl ⟨by rfl, ?_⟩) ?_ ?_
          rotate_left
          · intro w'
            go_simp
            with_reducible rfl
          rotate_left
          · simp only [Act.put, List.setIfInBounds_toArray, List.set_cons_zero, List.set_cons_succ, i64_w, i32_w]
            rfl
          refine pure_ (i := 8) (N := some 17) (v := ?_) (a' := ?_) #[true, true, true, true, true, true, true, true, true, false, false] rfl rfl (any_of HT_.out (by kernel_rfl)) (fun _ _ _ h => h) (Or.inl ⟨by rfl, ?_⟩) ?_ ?_
          rotate_left
          · intro w'
            go_simp
            with_reducible rfl
          rotate_left
          · simp only [Act.put, List.setIfInBounds_toArray, List.set_cons_zero, List.set_cons_succ, i64_w, i32_w]
            rfl
          refine one_ (i := 9) (N := some 18) #[true, true, true, true, true, true, true, true, true, true, false] rfl rfl (one_of HT_.out (by kernel_rfl)) (by decide) (fun K hK => ?_)
          refine Kd.R_lit_step Kd.string _ 9 ?hg (N := 18) ?hd (xs := ([a0.extract 0 (t126 : Int).toNat, a0.extract ((ji6) : Int).toNat a0.size] : List ByteArray)) (inner := [.string (a0.extract 0 (t126 : Int).toNat), .string (a0.extract ((ji6) : Int).toNat a0.size)]) (ok := fun _ => True) (okp := fun _ => True) ?hr ?hp (fun _ hk => hk) trivial (Below.refl _ _) (Nat.le_refl _) (by simp) ?_; (case hd => rfl); (case hg => rfl); (case hr => first | (go_simp; done) | (go_simp; rfl)); (case hp => exact (Reps.one (show Kd.M Kd.string _ _ _ (a0.extract 0 (t126 : Int).toNat) [.string (a0.extract 0 (t126 : Int).toNat)] from rfl) (Reps.one (show Kd.M Kd.string _ _ _ (a0.extract ((ji6) : Int).toNat a0.size) [.string (a0.extract ((ji6) : Int).toNat a0.size)] from rfl) (Reps.none _ _))))
          intro v128 w10 ho11 hb hg_ hnew_
          clear hg_ hnew_
          (first | rw [← Ny127.out] at ho11 | (simp only [Int.reduceToNat] at ho11; rw [← Ny127.out] at ho11))
          have n0_ := Aside0.mk (Kd.R_lower ho11 (below_size (show Below w.heap.size w (w.drewN nd).drew from below_drew1 (pw_below_drewN (Below.refl _ _) nd))))
          have n1_ := Aside0.mk (below_step (show Below w.heap.size w (w.drewN nd).drew from below_drew1 (pw_below_drewN (Below.refl _ _) nd)) hb)
          have HO129 := n0_
          have HB := n1_
          clear n0_ n1_
          clear hb ho11
          refine hK.out _ _ trivial (fun hHeld => ?_)
          clear hK K
          refine norm_ (a' := ?_) ?_ ?_
          rotate_left
          · show Act.put _ (some 18) _ = _
            simp only [Act.put, List.setIfInBounds_toArray, List.set_cons_zero, List.set_cons_succ, i64_w, i32_w]
            rfl
          refine pure_ (i := 10) (N := some 4) (v := ?_) (a' := ?_) #[true, true, true, true, true, true, true, true, true, true, true] rfl rfl (any_of HT_.out (by kernel_rfl)) (fun _ _ _ h => h) (Or.inl ⟨by rfl, ?_⟩) ?_ ?_
          rotate_left
          · intro w'
            go_simp
            with_reducible rfl
          rotate_left
          · simp only [Act.put, List.setIfInBounds_toArray, List.set_cons_zero, List.set_cons_succ, i64_w, i32_w]
            rfl
          refine done_ (done_of HT_.out (by kernel_rfl)) ?_
          try go_wp2
          go_ret
          exact ⟨_, by first | rfl | (simp [errW_none, errW_some] <;> rfl) | (simp only [← hji6]; first | rfl | (simp [errW_none, errW_some] <;> rfl)) | (simp [*, errW_none, errW_some] <;> rfl), by (with_reducible repeat (first | apply Kd.R_alloc | apply Kd.R_drewN | apply Kd.R_drew)); exact HO129.out, by repeat (first | (with_reducible first | exact HB.out | apply below_alloc | apply pw_below_drewN | apply below_drew1) | exact HB.out)⟩
        · rw [if_neg c8] at H
          exact absurd H (by simp)
      · rw [if_neg c7] at H
        exact absurd H (by simp)
    · rw [if_neg c5] at H
      exact absurd H (by simp)
  · rw [if_neg c4] at H
    exact absurd H (by simp)

/-! ### template_partition: function 54 -/
def template_partition.f (k : Nat) (a0 : ByteArray) (a1 : ByteArray) : Option (ByteArray × ByteArray) := (template_zzContains.f k a0 a1).bind fun t130 => (if t130 = true then ((template_zzSplitTwo.f k a0 a1).bind fun t131 => (if 0 < (t131.length : Int) then (if 1 < (t131.length : Int) then (some (rdOf ByteArray.empty t131 0, rdOf ByteArray.empty t131 1)) else (none)) else (none))) else (some (a0, (⟨#[]⟩ : ByteArray))))
theorem template_partition.mono : ∀ a0 a1 k, LeO (template_partition.f k a0 a1) (template_partition.f (k + 1) a0 a1) := by
  intro a0 a1 k
  unfold template_partition.f
  repeat' first
      | (with_reducible exact template_zzContains.mono _ _ _)
      | (with_reducible exact template_zzSplitTwo.mono _ _ _)
      | (with_reducible exact LeO.refl _)
      | (with_reducible exact LeO.none _)
      | (with_reducible refine LeO.ite ?_ ?_)
      | (with_reducible refine LeO.bind ?_ (fun _ => ?_))
      | exact template_zzContains.mono _ _ _
      | exact template_zzSplitTwo.mono _ _ _
      | exact LeO.none _
      | refine LeO.ite ?_ ?_
      | refine LeO.bind ?_ (fun _ => ?_)
set_option maxHeartbeats 8000000 in
set_option maxRecDepth 100000 in
theorem template_partition.calls (k : Nat) (a0 : ByteArray) (a1 : ByteArray) (r1 : ByteArray) (r2 : ByteArray) (w : World) (h : template_partition.f k a0 a1 = some (r1, r2)) :
    Calls Tryz.prog 54 #[.string a0, .string a1] w fun e w' => e = .returned (.tuple #[.string r1, .string r2]) ∧ Below w.heap.size w w' := by
  have HB := Aside0.mk (Below.refl w.heap.size w)
  have H : ((template_zzContains.f k a0 a1).bind fun t130 => (if t130 = true then ((template_zzSplitTwo.f k a0 a1).bind fun t131 => (if 0 < (t131.length : Int) then (if 1 < (t131.length : Int) then (some (rdOf ByteArray.empty t131 0, rdOf ByteArray.empty t131 1)) else (none)) else (none))) else (some (a0, (⟨#[]⟩ : ByteArray))))) = some (r1, r2) := h
  clear h
  replace H := Option.bind_eq_some_iff.mp H
  obtain ⟨t130, A30, H⟩ := H
  replace H : (if t130 = true then ((template_zzSplitTwo.f k a0 a1).bind fun t131 => (if 0 < (t131.length : Int) then (if 1 < (t131.length : Int) then (some (rdOf ByteArray.empty t131 0, rdOf ByteArray.empty t131 1)) else (none)) else (none))) else (some (a0, (⟨#[]⟩ : ByteArray)))) = some (r1, r2) := H
  have A3 := Aside0.mk A30
  clear A30
  by_cases c4 : t130 = true
  · subst c4
    have H1 : ((template_zzSplitTwo.f k a0 a1).bind fun t131 => (if 0 < (t131.length : Int) then (if 1 < (t131.length : Int) then (some (rdOf ByteArray.empty t131 0, rdOf ByteArray.empty t131 1)) else (none)) else (none))) = some (r1, r2) := by rw [if_pos rfl] at H; exact H
    clear H
    have H := H1
    clear H1
    replace H := Option.bind_eq_some_iff.mp H
    obtain ⟨t131, A50, H⟩ := H
    replace H : (if 0 < (t131.length : Int) then (if 1 < (t131.length : Int) then (some (rdOf ByteArray.empty t131 0, rdOf ByteArray.empty t131 1)) else (none)) else (none)) = some (r1, r2) := H
    have A5 := Aside0.mk A50
    clear A50
    by_cases c6 : 0 < (t131.length : Int)
    · rw [if_pos c6] at H
      have c6b0 : decide (0 < (t131.length : Int)) = true := decide_eq_true c6
      have c6b1 : decide (0 < t131.length) = true := decide_eq_true (by omega)
      clear c6
      by_cases c7 : 1 < (t131.length : Int)
      · rw [if_pos c7] at H
        have c7b0 : decide (1 < (t131.length : Int)) = true := decide_eq_true c7
        have c7b1 : decide (1 < t131.length) = true := decide_eq_true (by omega)
        clear c7
        simp only [Option.some.injEq, Prod.mk.injEq] at H
        obtain ⟨rfl, rfl⟩ := H
        go_enter Tryz.func54, Tryz.ntmps54
        go_wp2_with (first | (go_at_call 69; (with_reducible refine (template_zzContains.calls k a0 a1 true _ A3.out).mono ?_); rintro e w' ⟨rfl, ⟨nd, rfl⟩⟩; (try first | exact ⟨rfl, _, World.drewN_drewN _ _ _⟩ | exact ⟨rfl, _, Eq.trans (World.drewN_drewN _ _ _) (congrArg (World.drewN _) (Nat.add_assoc _ _ _))⟩)) | (go_at_call 70; (with_reducible refine (template_zzSplitTwo.calls k a0 a1 t131 _ A5.out).mono ?_); rintro e w8 ⟨v132, rfl, ho0, hb⟩; have n0_ := Aside0.mk (Kd.R_lower ho0 (below_size (by repeat (first | (with_reducible first | exact HB.out | apply below_alloc | apply pw_below_drewN | apply below_drew1) | exact HB.out)))); have n1_ := Aside0.mk (below_step (by repeat (first | (with_reducible first | exact HB.out | apply below_alloc | apply pw_below_drewN | apply below_drew1) | exact HB.out)) hb); clear HB; have HO133 := n0_; have HB := n1_; clear n0_ n1_; (try clear hb); (try clear hb2); (try clear hk); (try clear hi); (try clear ho0); obtain ⟨Ao9, co9, eo9⟩ := Kd.R_slice HO133.out; subst eo9; have p134 : 0 ≤ (0 : Int) := (by omega); have q134 : 0 < (t131.length : Int) := of_decide_eq_true (by first | (with_reducible assumption) | assumption); obtain ⟨ad134, e134, hx134_0⟩ := Kd.at_string (Kd.R_reads' HO133.out).2.2 0 p134 q134; cases e134; have qi134 : (0 < t131.length) = True := eq_true (by omega); (try rw [show ((0 : Int)).toNat = 0 from rfl] at hx134_0); (try rw [Addr.add_zero'] at hx134_0); replace p134 := eq_true p134; replace q134 := eq_true q134; have p135 : 0 ≤ (1 : Int) := (by omega); have q135 : 1 < (t131.length : Int) := of_decide_eq_true (by first | (with_reducible assumption) | assumption); obtain ⟨ad135, e135, hx135_0⟩ := Kd.at_string (Kd.R_reads' HO133.out).2.2 1 p135 q135; obtain rfl : ad134 = ad135 := (by injection e135); (try simp only [show (1 : Int).toNat = 1 from rfl, Nat.reduceMul, Nat.reduceEqDiff, Go.Addr.add, ↓reduceIte] at hx135_0); have qi135 : (1 < t131.length) = True := eq_true (by omega); (try rw [show ((1 : Int)).toNat = 1 from rfl] at hx135_0); replace p135 := eq_true p135; replace q135 := eq_true q135))
        repeat (go_quiet (first | (go_at_call 69; (with_reducible refine (template_zzContains.calls k a0 a1 true _ A3.out).mono ?_); rintro e w' ⟨rfl, ⟨nd, rfl⟩⟩; (try first | exact ⟨rfl, _, World.drewN_drewN _ _ _⟩ | exact ⟨rfl, _, Eq.trans (World.drewN_drewN _ _ _) (congrArg (World.drewN _) (Nat.add_assoc _ _ _))⟩)) | (go_at_call 70; (with_reducible refine (template_zzSplitTwo.calls k a0 a1 t131 _ A5.out).mono ?_); rintro e w8 ⟨v132, rfl, ho0, hb⟩; have n0_ := Aside0.mk (Kd.R_lower ho0 (below_size (by repeat (first | (with_reducible first | exact HB.out | apply below_alloc | apply pw_below_drewN | apply below_drew1) | exact HB.out)))); have n1_ := Aside0.mk (below_step (by repeat (first | (with_reducible first | exact HB.out | apply below_alloc | apply pw_below_drewN | apply below_drew1) | exact HB.out)) hb); clear HB; have HO133 := n0_; have HB := n1_; clear n0_ n1_; (try clear hb); (try clear hb2); (try clear hk); (try clear hi); (try clear ho0); obtain ⟨Ao9, co9, eo9⟩ := Kd.R_slice HO133.out; subst eo9; have p134 : 0 ≤ (0 : Int) := (by omega); have q134 : 0 < (t131.length : Int) := of_decide_eq_true (by first | (with_reducible assumption) | assumption); obtain ⟨ad134, e134, hx134_0⟩ := Kd.at_string (Kd.R_reads' HO133.out).2.2 0 p134 q134; cases e134; have qi134 : (0 < t131.length) = True := eq_true (by omega); (try rw [show ((0 : Int)).toNat = 0 from rfl] at hx134_0); (try rw [Addr.add_zero'] at hx134_0); replace p134 := eq_true p134; replace q134 := eq_true q134; have p135 : 0 ≤ (1 : Int) := (by omega); have q135 : 1 < (t131.length : Int) := of_decide_eq_true (by first | (with_reducible assumption) | assumption); obtain ⟨ad135, e135, hx135_0⟩ := Kd.at_string (Kd.R_reads' HO133.out).2.2 1 p135 q135; obtain rfl : ad134 = ad135 := (by injection e135); (try simp only [show (1 : Int).toNat = 1 from rfl, Nat.reduceMul, Nat.reduceEqDiff, Go.Addr.add, ↓reduceIte] at hx135_0); have qi135 : (1 < t131.length) = True := eq_true (by omega); (try rw [show ((1 : Int)).toNat = 1 from rfl] at hx135_0); replace p135 := eq_true p135; replace q135 := eq_true q135)); try go_wp2_with (first | (go_at_call 69; (with_reducible refine (template_zzContains.calls k a0 a1 true _ A3.out).mono ?_); rintro e w' ⟨rfl, ⟨nd, rfl⟩⟩; (try first | exact ⟨rfl, _, World.drewN_drewN _ _ _⟩ | exact ⟨rfl, _, Eq.trans (World.drewN_drewN _ _ _) (congrArg (World.drewN _) (Nat.add_assoc _ _ _))⟩)) | (go_at_call 70; (with_reducible refine (template_zzSplitTwo.calls k a0 a1 t131 _ A5.out).mono ?_); rintro e w8 ⟨v132, rfl, ho0, hb⟩; have n0_ := Aside0.mk (Kd.R_lower ho0 (below_size (by repeat (first | (with_reducible first | exact HB.out | apply below_alloc | apply pw_below_drewN | apply below_drew1) | exact HB.out)))); have n1_ := Aside0.mk (below_step (by repeat (first | (with_reducible first | exact HB.out | apply below_alloc | apply pw_below_drewN | apply below_drew1) | exact HB.out)) hb); clear HB; have HO133 := n0_; have HB := n1_; clear n0_ n1_; (try clear hb); (try clear hb2); (try clear hk); (try clear hi); (try clear ho0); obtain ⟨Ao9, co9, eo9⟩ := Kd.R_slice HO133.out; subst eo9; have p134 : 0 ≤ (0 : Int) := (by omega); have q134 : 0 < (t131.length : Int) := of_decide_eq_true (by first | (with_reducible assumption) | assumption); obtain ⟨ad134, e134, hx134_0⟩ := Kd.at_string (Kd.R_reads' HO133.out).2.2 0 p134 q134; cases e134; have qi134 : (0 < t131.length) = True := eq_true (by omega); (try rw [show ((0 : Int)).toNat = 0 from rfl] at hx134_0); (try rw [Addr.add_zero'] at hx134_0); replace p134 := eq_true p134; replace q134 := eq_true q134; have p135 : 0 ≤ (1 : Int) := (by omega); have q135 : 1 < (t131.length : Int) := of_decide_eq_true (by first | (with_reducible assumption) | assumption); obtain ⟨ad135, e135, hx135_0⟩ := Kd.at_string (Kd.R_reads' HO133.out).2.2 1 p135 q135; obtain rfl : ad134 = ad135 := (by injection e135); (try simp only [show (1 : Int).toNat = 1 from rfl, Nat.reduceMul, Nat.reduceEqDiff, Go.Addr.add, ↓reduceIte] at hx135_0); have qi135 : (1 < t131.length) = True := eq_true (by omega); (try rw [show ((1 : Int)).toNat = 1 from rfl] at hx135_0); replace p135 := eq_true p135; replace q135 := eq_true q135)))
        go_ret2
        exact ⟨by first | rfl | (simp [errW_none, errW_some] <;> rfl) | (simp [*, errW_none, errW_some] <;> rfl), by repeat (first | (with_reducible first | exact HB.out | apply below_alloc | apply pw_below_drewN | apply below_drew1) | exact HB.out)⟩
      · rw [if_neg c7] at H
        exact absurd H (by simp)
    · rw [if_neg c6] at H
      exact absurd H (by simp)
  · replace c4 := Bool.eq_false_iff.mpr c4
    subst c4
    have H1 : (some (a0, (⟨#[]⟩ : ByteArray))) = some (r1, r2) := by rw [if_neg (show ¬ (false = true) by decide)] at H; exact H
    clear H
    have H := H1
    clear H1
    simp only [Option.some.injEq, Prod.mk.injEq] at H
    obtain ⟨rfl, rfl⟩ := H
    go_enter Tryz.func54, Tryz.ntmps54
    go_wp2_with (first | (go_at_call 69; (with_reducible refine (template_zzContains.calls k a0 a1 false _ A3.out).mono ?_); rintro e w' ⟨rfl, ⟨nd, rfl⟩⟩; (try first | exact ⟨rfl, _, World.drewN_drewN _ _ _⟩ | exact ⟨rfl, _, Eq.trans (World.drewN_drewN _ _ _) (congrArg (World.drewN _) (Nat.add_assoc _ _ _))⟩)))
    repeat (go_quiet (first | (go_at_call 69; (with_reducible refine (template_zzContains.calls k a0 a1 false _ A3.out).mono ?_); rintro e w' ⟨rfl, ⟨nd, rfl⟩⟩; (try first | exact ⟨rfl, _, World.drewN_drewN _ _ _⟩ | exact ⟨rfl, _, Eq.trans (World.drewN_drewN _ _ _) (congrArg (World.drewN _) (Nat.add_assoc _ _ _))⟩))); try go_wp2_with (first | (go_at_call 69; (with_reducible refine (template_zzContains.calls k a0 a1 false _ A3.out).mono ?_); rintro e w' ⟨rfl, ⟨nd, rfl⟩⟩; (try first | exact ⟨rfl, _, World.drewN_drewN _ _ _⟩ | exact ⟨rfl, _, Eq.trans (World.drewN_drewN _ _ _) (congrArg (World.drewN _) (Nat.add_assoc _ _ _))⟩))))
    go_ret2
    exact ⟨by first | rfl | (simp [errW_none, errW_some] <;> rfl) | (simp [*, errW_none, errW_some] <;> rfl), by repeat (first | (with_reducible first | exact HB.out | apply below_alloc | apply pw_below_drewN | apply below_drew1) | exact HB.out)⟩

-- NOT PRINTED: function 114 (template_zzPattern_SubexpNames)

/-! ### spec_SubstDouble: function 19 -/
def spec_SubstDouble.l0 : Nat → ByteArray → List Int → Int → Option (ByteArray)
  | 0, _, _, _ => none
  | k + 1, x0, x3, x4 => if x4 < (x0.size : Int) then (if 0 ≤ x4 then (if x3.length < 140737488355328 then ((some (x3 ++ [bt x0 x4] : List Int)).bind fun y136 => (if (bt x0 x4) = 36 then (if y136.length < 140737488355328 then (spec_SubstDouble.l0 k x0 (y136 ++ [36]) (wrap64 (x4 + 1))) else (none)) else (spec_SubstDouble.l0 k x0 y136 (wrap64 (x4 + 1))))) else (none)) else (none)) else (some (strOfNums x3))
def spec_SubstDouble.f (k : Nat) (a0 : ByteArray) : Option (ByteArray) := spec_SubstDouble.l0 k a0 ([] : List Int) 0
theorem spec_SubstDouble.mono_l : ∀ k, (∀ y0 y1 y2, LeO (spec_SubstDouble.l0 k y0 y1 y2) (spec_SubstDouble.l0 (k + 1) y0 y1 y2))
  | 0 => fun _ _ _ r h => by simp [spec_SubstDouble.l0] at h
  | k + 1 => by
    have ih0 := spec_SubstDouble.mono_l k
    · intro y0 y1 y2
      unfold spec_SubstDouble.l0
      repeat' first
      | (with_reducible exact ih0 _ _ _)
      | (with_reducible exact LeO.refl _)
      | (with_reducible exact LeO.none _)
      | (with_reducible refine LeO.ite ?_ ?_)
      | (with_reducible refine LeO.bind ?_ (fun _ => ?_))
      | exact ih0 _ _ _
      | exact LeO.none _
      | refine LeO.ite ?_ ?_
      | refine LeO.bind ?_ (fun _ => ?_)
theorem spec_SubstDouble.mono : ∀ a0 k, LeO (spec_SubstDouble.f k a0) (spec_SubstDouble.f (k + 1) a0) := by
  intro a0 k
  have ih0 := spec_SubstDouble.mono_l k
  unfold spec_SubstDouble.f
  repeat' first
      | (with_reducible exact ih0 _ _ _)
      | (with_reducible exact LeO.refl _)
      | (with_reducible exact LeO.none _)
      | (with_reducible refine LeO.ite ?_ ?_)
      | (with_reducible refine LeO.bind ?_ (fun _ => ?_))
      | exact ih0 _ _ _
      | exact LeO.none _
      | refine LeO.ite ?_ ?_
      | refine LeO.bind ?_ (fun _ => ?_)
set_option maxHeartbeats 8000000 in
set_option maxRecDepth 100000 in
theorem spec_SubstDouble.calls (k : Nat) (a0 : ByteArray) (r : ByteArray) (w : World) (h : spec_SubstDouble.f k a0 = some r) :
    Calls Tryz.prog 19 #[.string a0] w fun e w' => e = .returned (.string r) ∧ Below w.heap.size w w' := by
  have HB := Aside0.mk (Below.refl w.heap.size w)
  have H : (spec_SubstDouble.l0 k a0 ([] : List Int) 0) = some r := h
  clear h
  have H' := Aside0.mk H
  clear H
  go_enter Tryz.func19, Tryz.ntmps19
  go_wp2
  go_loopg [3, 4] k (fun kq v3 v4 w' => ∃ (x3_1 : List Int) (x4_1 : Int), v4 = .int .i64 x4_1 ∧ Aside0 (spec_SubstDouble.l0 kq a0 x3_1 x4_1 = some r) ∧ Aside0 (kq ≤ k) ∧ Aside0 (Kd.R (Kd.int .u8) 5 w' w.heap.size (fun _ => True) v3 x3_1) ∧ Aside0 (Below w.heap.size w w'))
  case atStart => exact ⟨(([] : List Int)), (0), (by first | rfl | (simp; done) | (simp [*]; done)), H', ⟨Nat.le_refl _⟩, ⟨by first | exact Kd.R_nil _ _ _ _ _ | exact Kd.N_nil _ _ _ _ _ | exact Kd.V_nil _ _ _ _ _ | exact Kd.Q_nil _ _ _ _ _ | exact Kd.S_nil _ _ _ _ _⟩, ⟨by repeat (first | (with_reducible first | exact HB.out | apply below_alloc | apply pw_below_drewN | apply below_drew1) | exact HB.out)⟩⟩
  case round =>
    clear H'
    try clear c1
    obtain ⟨x3_1, x4_1, rfl, HA, HK1, HO_3, HB⟩ := hrel
    cases gk with
    | zero => exact absurd HA.out (by simp [spec_SubstDouble.l0])
    | succ k1 =>
      have H := HA.out
      clear HA
      simp only [spec_SubstDouble.l0] at H
      by_cases c2 : x4_1 < (a0.size : Int)
      · rw [if_pos c2] at H
        have c2b0 : decide (x4_1 < (a0.size : Int)) = true := decide_eq_true c2
        clear c2
        by_cases c3 : 0 ≤ x4_1
        · rw [if_pos c3] at H
          have c3b0 : decide (0 ≤ x4_1) = true := decide_eq_true c3
          clear c3
          by_cases c5 : x3_1.length < 140737488355328
          · rw [if_pos c5] at H
            have LMc5 := Aside0.mk c5
            clear c5
            obtain ⟨y136, hy136⟩ : ∃ y_ : List Int, y_ = (x3_1 ++ [bt a0 x4_1]) := ⟨_, rfl⟩
            replace H : (if (bt a0 x4_1) = 36 then (if y136.length < 140737488355328 then (spec_SubstDouble.l0 k1 a0 (y136 ++ [36]) (wrap64 (x4_1 + 1))) else (none)) else (spec_SubstDouble.l0 k1 a0 y136 (wrap64 (x4_1 + 1)))) = some r := by first | (rw [hy136]; with_reducible exact H) | (have H2_ := (Option.bind_some _ _).symm.trans H; rw [hy136]; with_reducible exact H2_) | (have H2_ := (Option.bind_some _ _).symm.trans H; with_reducible exact H2_) | with_reducible exact H | (rw [hy136]; exact H) | exact H
            have Ny136 := Aside0.mk hy136
            clear hy136
            by_cases c7 : (bt a0 x4_1) = 36
            · rw [if_pos c7] at H
              have c7b0 : ((bt a0 x4_1) == 36) = true := beq_iff_eq.mpr c7
              have c7b1 : ((bt a0 x4_1) != 36) = false := bne_eq_false_iff_eq.mpr c7
              clear c7
              by_cases c8 : y136.length < 140737488355328
              · rw [if_pos c8] at H
                have LMc8 := Aside0.mk c8
                clear c8
                obtain ⟨y139, hy139⟩ : ∃ y_ : List Int, y_ = (y136 ++ [36]) := ⟨_, rfl⟩
                replace H : (spec_SubstDouble.l0 k1 a0 y139 (wrap64 (x4_1 + 1))) = some r := by first | (rw [hy139]; with_reducible exact H) | (have H2_ := (Option.bind_some _ _).symm.trans H; rw [hy139]; with_reducible exact H2_) | (have H2_ := (Option.bind_some _ _).symm.trans H; with_reducible exact H2_) | with_reducible exact H | (rw [hy139]; exact H) | exact H
                have Ny139 := Aside0.mk hy139
                clear hy139
                have H' := Aside0.mk H
                clear H
                have p4 : 0 ≤ (x4_1 : Int) := of_decide_eq_true (by first | (with_reducible assumption) | assumption)
                have q4 : x4_1 < (a0.size : Int) := of_decide_eq_true (by first | (with_reducible assumption) | assumption)
                have hx4 := bt_at a0 x4_1
                replace p4 := eq_true p4
                replace q4 := eq_true q4
                go_wp2_with (first | ((with_reducible refine gate_builtin (b := .append) (xs := #[.tmp 11, .tmp 15]) rfl ?_); at_builtin; refine Kd.R_append (Kd.int .u8) (w0 := w) w.heap.size rfl (.tmp 11) (.tmp 15) 61 5 (.int .u8 0) 1 rfl Tryz.underlying61 info5 rfl (by decide) (by omega) u3 x3_1 (bt a0 x4_1) [.int .u8 (bt a0 x4_1)] (fun _ => True) (fun _ => False) rfl rfl ?aP (fun _ hk => hk.elim) ?aF ?aO ?aB ?aS ?aL ?_; (case aP => exact rfl); (case aB => exact (by repeat (first | (with_reducible first | exact HB.out | apply below_alloc | apply pw_below_drewN | apply below_drew1) | exact HB.out))); (case aF => exact (fun _ _ => trivial)); (case aO => exact (by (with_reducible repeat (first | apply Kd.R_alloc | apply Kd.R_drewN | apply Kd.R_drew)); exact HO_3.out)); (case aS => exact (below_size (by repeat (first | (with_reducible first | exact HB.out | apply below_alloc | apply pw_below_drewN | apply below_drew1) | exact HB.out)))); (case aL => have := LMc5.out; omega); intro v137 w9 ho hb hg hat; rw [← Ny136.out] at ho; have n0_ := Aside0.mk (hb); have n1_ := Aside0.mk (ho); clear HB; clear HO_3; have HB := n0_; have HO138 := n1_; clear n0_ n1_; clear ho hb hg hat; have p6 : 0 ≤ (x4_1 : Int) := of_decide_eq_true (by first | (with_reducible assumption) | assumption); have q6 : x4_1 < (a0.size : Int) := of_decide_eq_true (by first | (with_reducible assumption) | assumption); have hx6 := bt_at a0 x4_1; replace p6 := eq_true p6; replace q6 := eq_true q6) | ((with_reducible refine gate_builtin (b := .append) (xs := #[.tmp 21, .tmp 22]) rfl ?_); at_builtin; refine Kd.R_append (Kd.int .u8) (w0 := w) w.heap.size rfl (.tmp 21) (.tmp 22) 61 5 (.int .u8 0) 1 rfl Tryz.underlying61 info5 rfl (by decide) (by omega) v137 y136 36 [.int .u8 36] (fun _ => True) (fun _ => False) rfl rfl ?aP (fun _ hk => hk.elim) ?aF ?aO ?aB ?aS ?aL ?_; (case aP => exact rfl); (case aB => exact (by repeat (first | (with_reducible first | exact HB.out | apply below_alloc | apply pw_below_drewN | apply below_drew1) | exact HB.out))); (case aF => exact (fun _ _ => trivial)); (case aO => exact (by (with_reducible repeat (first | apply Kd.R_alloc | apply Kd.R_drewN | apply Kd.R_drew)); exact HO138.out)); (case aS => exact (below_size (by repeat (first | (with_reducible first | exact HB.out | apply below_alloc | apply pw_below_drewN | apply below_drew1) | exact HB.out)))); (case aL => have := LMc8.out; omega); intro v140 w10 ho hb hg hat; rw [← Ny139.out] at ho; have n0_ := Aside0.mk (hb); have n1_ := Aside0.mk (ho); clear HB; clear HO138; have HB := n0_; have HO141 := n1_; clear n0_ n1_; clear ho hb hg hat))
                go_roundg k1
                case measure => have := HK1.out; omega
                case rel => exact ⟨(y139), (wrap64 (x4_1 + 1)), (by first | rfl | (simp; done) | (simp [*]; done)), H', ⟨by have := HK1.out; omega⟩, ⟨by (with_reducible repeat (first | apply Kd.R_alloc | apply Kd.R_drewN | apply Kd.R_drew)); exact HO141.out⟩, ⟨by repeat (first | (with_reducible first | exact HB.out | apply below_alloc | apply pw_below_drewN | apply below_drew1) | exact HB.out)⟩⟩
              · rw [if_neg c8] at H
                exact absurd H (by simp)
            · rw [if_neg c7] at H
              have c7b0 : ((bt a0 x4_1) == 36) = false := beq_eq_false_iff_ne.mpr c7
              have c7b1 : ((bt a0 x4_1) != 36) = true := bne_iff_ne.mpr c7
              have H' := Aside0.mk H
              clear H
              have p4 : 0 ≤ (x4_1 : Int) := of_decide_eq_true (by first | (with_reducible assumption) | assumption)
              have q4 : x4_1 < (a0.size : Int) := of_decide_eq_true (by first | (with_reducible assumption) | assumption)
              have hx4 := bt_at a0 x4_1
              replace p4 := eq_true p4
              replace q4 := eq_true q4
              go_wp2_with (first | ((with_reducible refine gate_builtin (b := .append) (xs := #[.tmp 11, .tmp 15]) rfl ?_); at_builtin; refine Kd.R_append (Kd.int .u8) (w0 := w) w.heap.size rfl (.tmp 11) (.tmp 15) 61 5 (.int .u8 0) 1 rfl Tryz.underlying61 info5 rfl (by decide) (by omega) u3 x3_1 (bt a0 x4_1) [.int .u8 (bt a0 x4_1)] (fun _ => True) (fun _ => False) rfl rfl ?aP (fun _ hk => hk.elim) ?aF ?aO ?aB ?aS ?aL ?_; (case aP => exact rfl); (case aB => exact (by repeat (first | (with_reducible first | exact HB.out | apply below_alloc | apply pw_below_drewN | apply below_drew1) | exact HB.out))); (case aF => exact (fun _ _ => trivial)); (case aO => exact (by (with_reducible repeat (first | apply Kd.R_alloc | apply Kd.R_drewN | apply Kd.R_drew)); exact HO_3.out)); (case aS => exact (below_size (by repeat (first | (with_reducible first | exact HB.out | apply below_alloc | apply pw_below_drewN | apply below_drew1) | exact HB.out)))); (case aL => have := LMc5.out; omega); intro v137 w11 ho hb hg hat; rw [← Ny136.out] at ho; have n0_ := Aside0.mk (hb); have n1_ := Aside0.mk (ho); clear HB; clear HO_3; have HB := n0_; have HO138 := n1_; clear n0_ n1_; clear ho hb hg hat; have p6 : 0 ≤ (x4_1 : Int) := of_decide_eq_true (by first | (with_reducible assumption) | assumption); have q6 : x4_1 < (a0.size : Int) := of_decide_eq_true (by first | (with_reducible assumption) | assumption); have hx6 := bt_at a0 x4_1; replace p6 := eq_true p6; replace q6 := eq_true q6))
              go_roundg k1
              case measure => have := HK1.out; omega
              case rel => exact ⟨(y136), (wrap64 (x4_1 + 1)), (by first | rfl | (simp; done) | (simp [*]; done)), H', ⟨by have := HK1.out; omega⟩, ⟨by (with_reducible repeat (first | apply Kd.R_alloc | apply Kd.R_drewN | apply Kd.R_drew)); exact HO138.out⟩, ⟨by repeat (first | (with_reducible first | exact HB.out | apply below_alloc | apply pw_below_drewN | apply below_drew1) | exact HB.out)⟩⟩
          · rw [if_neg c5] at H
            exact absurd H (by simp)
        · rw [if_neg c3] at H
          exact absurd H (by simp)
      · rw [if_neg c2] at H
        have c2b0 : decide (x4_1 < (a0.size : Int)) = false := decide_eq_false c2
        clear c2
        obtain rfl := Option.some.inj H
        have hcv12 := own_string (P := Tryz.prog) Tryz.underlying61 Tryz.underlying5 Tryz.underlying9 (Kd.own_of_R HO_3.out)
        go_wp2
        go_ret
        exact ⟨by first | rfl | (simp [errW_none, errW_some] <;> rfl) | (simp [*, errW_none, errW_some] <;> rfl), by repeat (first | (with_reducible first | exact HB.out | apply below_alloc | apply pw_below_drewN | apply below_drew1) | exact HB.out)⟩

/-! ### spec_substLetter: function 32 -/
def spec_substLetter.f (a0 : Int) : Option (Bool) := if a0 = 95 then (some true) else (if a0 ≥ 97 then (if a0 ≤ 122 then (some true) else (if a0 ≥ 65 then (some (decide (a0 ≤ 90))) else (some false))) else (if a0 ≥ 65 then (some (decide (a0 ≤ 90))) else (some false)))
set_option maxHeartbeats 8000000 in
set_option maxRecDepth 100000 in
theorem spec_substLetter.calls (a0 : Int) (r : Bool) (w : World) (h : spec_substLetter.f a0 = some r) :
    Calls Tryz.prog 32 #[.int .u8 a0] w fun e w' => e = .returned (.bool r) ∧ Drawn0 w w' := by
  have H : (if a0 = 95 then (some true) else (if a0 ≥ 97 then (if a0 ≤ 122 then (some true) else (if a0 ≥ 65 then (some (decide (a0 ≤ 90))) else (some false))) else (if a0 ≥ 65 then (some (decide (a0 ≤ 90))) else (some false)))) = some r := h
  clear h
  by_cases c2 : a0 = 95
  · rw [if_pos c2] at H
    have c2b0 : (a0 == 95) = true := beq_iff_eq.mpr c2
    have c2b1 : (a0 != 95) = false := bne_eq_false_iff_eq.mpr c2
    clear c2
    obtain rfl := Option.some.inj H
    go_enter Tryz.func32, Tryz.ntmps32
    go_wp2
    go_ret
    exact ⟨by first | rfl | (simp; done) | (simp [*]; done), by repeat (first | exact Drawn0.refl _ | apply Drawn0.step)⟩
  · rw [if_neg c2] at H
    have c2b0 : (a0 == 95) = false := beq_eq_false_iff_ne.mpr c2
    have c2b1 : (a0 != 95) = true := bne_iff_ne.mpr c2
    by_cases c3 : a0 ≥ 97
    · rw [if_pos c3] at H
      have c3b0 : decide (97 ≤ a0) = true := decide_eq_true c3
      clear c3
      by_cases c4 : a0 ≤ 122
      · rw [if_pos c4] at H
        have c4b0 : decide (a0 ≤ 122) = true := decide_eq_true c4
        clear c4
        obtain rfl := Option.some.inj H
        go_enter Tryz.func32, Tryz.ntmps32
        go_wp2
        go_ret
        exact ⟨by first | rfl | (simp; done) | (simp [*]; done), by repeat (first | exact Drawn0.refl _ | apply Drawn0.step)⟩
      · rw [if_neg c4] at H
        have c4b0 : decide (a0 ≤ 122) = false := decide_eq_false c4
        clear c4
        by_cases c5 : a0 ≥ 65
        · rw [if_pos c5] at H
          have c5b0 : decide (65 ≤ a0) = true := decide_eq_true c5
          clear c5
          obtain rfl := Option.some.inj H
          go_enter Tryz.func32, Tryz.ntmps32
          go_wp2
          go_ret
          exact ⟨by first | rfl | (simp; done) | (simp [*]; done), by repeat (first | exact Drawn0.refl _ | apply Drawn0.step)⟩
        · rw [if_neg c5] at H
          have c5b0 : decide (65 ≤ a0) = false := decide_eq_false c5
          clear c5
          obtain rfl := Option.some.inj H
          go_enter Tryz.func32, Tryz.ntmps32
          go_wp2
          go_ret
          exact ⟨by first | rfl | (simp; done) | (simp [*]; done), by repeat (first | exact Drawn0.refl _ | apply Drawn0.step)⟩
    · rw [if_neg c3] at H
      have c3b0 : decide (97 ≤ a0) = false := decide_eq_false c3
      clear c3
      by_cases c6 : a0 ≥ 65
      · rw [if_pos c6] at H
        have c6b0 : decide (65 ≤ a0) = true := decide_eq_true c6
        clear c6
        obtain rfl := Option.some.inj H
        go_enter Tryz.func32, Tryz.ntmps32
        go_wp2
        go_ret
        exact ⟨by first | rfl | (simp; done) | (simp [*]; done), by repeat (first | exact Drawn0.refl _ | apply Drawn0.step)⟩
      · rw [if_neg c6] at H
        have c6b0 : decide (65 ≤ a0) = false := decide_eq_false c6
        clear c6
        obtain rfl := Option.some.inj H
        go_enter Tryz.func32, Tryz.ntmps32
        go_wp2
        go_ret
        exact ⟨by first | rfl | (simp; done) | (simp [*]; done), by repeat (first | exact Drawn0.refl _ | apply Drawn0.step)⟩

end Go.Proofs.YtlncdacoefoldaaGreatDoor.PX
