-- Written by a program over the translation (xprint.py). Lean checks it.
import Derived.Test.YtklbghadhneejaaDoorPXx0
import Derived.Test.YtklbghadhneejaaDoorPXx1
namespace Go.Proofs.YtklbghadhneejaaDoor.PX
open Go.RowKit Go.Proofs.YtklbghadhneejaaDoorW.PrintWords Go.Proofs.YtklbghadhneejaaDoorW.PrintLast Go.Proofs.YtklbghadhneejaaDoorW.PrintMore
attribute [local go_sem] max2_int min2_int max_two min_two max_three min_three max_four min_four   -- for this text's walks alone
set_option linter.unusedVariables false
set_option linter.unusedSimpArgs false

/-! ### spec_shortPath: function 13 -/
mutual
def spec_shortPath.j0 : Nat → ByteArray → Bool → Option (Bool × Bool)
  | 0, _, _ => none
  | k + 1, x0, x4 => if x4 = true then (some (true, true)) else (if (x0.size : Int) ≥ 3 then (if 0 ≤ 2 then (if 2 ≤ (x0.size : Int) then (if (x0.extract 0 2).toList = ([46, 47] : List UInt8) then ((spec_shortWord.f k x0 true).bind fun t110 => (spec_shortPath.j1 k x0 t110)) else (spec_shortPath.j1 k x0 false)) else (none)) else (none)) else (spec_shortPath.j1 k x0 false))
def spec_shortPath.j1 : Nat → ByteArray → Bool → Option (Bool × Bool)
  | 0, _, _ => none
  | k + 1, x0, x17 => if x17 = true then (some (true, true)) else (if (x0.size : Int) ≥ 4 then (if 0 ≤ 3 then (if 3 ≤ (x0.size : Int) then (if (x0.extract 0 3).toList = ([46, 46, 47] : List UInt8) then ((spec_shortWord.f k x0 true).bind fun t111 => (spec_shortPath.j2 k x0 t111)) else (spec_shortPath.j2 k x0 false)) else (none)) else (none)) else (spec_shortPath.j2 k x0 false))
def spec_shortPath.j2 : Nat → ByteArray → Bool → Option (Bool × Bool)
  | 0, _, _ => none
  | k + 1, x0, x30 => if x30 = true then (some (true, true)) else (if (x0.size : Int) ≥ 3 then (if 0 ≤ 2 then (if 2 ≤ (x0.size : Int) then (if (x0.extract 0 2).toList = ([126, 47] : List UInt8) then (if 1 ≤ (x0.size : Int) then ((spec_shortWord.f k (x0.extract 1 x0.size) true).bind fun t112 => (spec_shortPath.j3 k x0 t112)) else (none)) else (spec_shortPath.j3 k x0 false)) else (none)) else (none)) else (spec_shortPath.j3 k x0 false))
def spec_shortPath.j3 : Nat → ByteArray → Bool → Option (Bool × Bool)
  | 0, _, _ => none
  | k + 1, x0, x43 => if x43 = true then (some (true, true)) else (if (x0.size : Int) ≥ 2 then ((spec_shortWord.f k x0 false).bind fun t113 => (if t113 = true then (if 0 < (x0.size : Int) then (if (bt x0 0) = 46 then (some (false, false)) else (if (bt x0 0) = 45 then (some (false, false)) else (if (bt x0 0) = 95 then (some (false, false)) else (some (false, true))))) else (none)) else (some (false, false)))) else (some (false, false)))
end
def spec_shortPath.f (k : Nat) (a0 : ByteArray) : Option (Bool × Bool) := if (a0.size : Int) ≥ 2 then (if 0 < (a0.size : Int) then (if (bt a0 0) = 47 then ((spec_shortWord.f k a0 true).bind fun t109 => (spec_shortPath.j0 k a0 t109)) else (spec_shortPath.j0 k a0 false)) else (none)) else (spec_shortPath.j0 k a0 false)
theorem spec_shortPath.mono_l : ∀ k, (∀ y0 y1, LeO (spec_shortPath.j0 k y0 y1) (spec_shortPath.j0 (k + 1) y0 y1)) ∧ (∀ y0 y1, LeO (spec_shortPath.j1 k y0 y1) (spec_shortPath.j1 (k + 1) y0 y1)) ∧ (∀ y0 y1, LeO (spec_shortPath.j2 k y0 y1) (spec_shortPath.j2 (k + 1) y0 y1)) ∧ (∀ y0 y1, LeO (spec_shortPath.j3 k y0 y1) (spec_shortPath.j3 (k + 1) y0 y1))
  | 0 => ⟨fun _ _ r h => by simp [spec_shortPath.j0] at h, fun _ _ r h => by simp [spec_shortPath.j1] at h, fun _ _ r h => by simp [spec_shortPath.j2] at h, fun _ _ r h => by simp [spec_shortPath.j3] at h⟩
  | k + 1 => by
    obtain ⟨ih0, ih1, ih2, ih3⟩ := spec_shortPath.mono_l k
    refine ⟨?_, ?_, ?_, ?_⟩
    · intro y0 y1
      unfold spec_shortPath.j0
      repeat' first
      | (with_reducible exact ih0 _ _)
      | (with_reducible exact ih1 _ _)
      | (with_reducible exact ih2 _ _)
      | (with_reducible exact ih3 _ _)
      | (with_reducible exact spec_shortWord.mono _ _ _)
      | (with_reducible exact LeO.refl _)
      | (with_reducible exact LeO.none _)
      | (with_reducible refine LeO.ite ?_ ?_)
      | (with_reducible refine LeO.bind ?_ (fun _ => ?_))
      | exact ih0 _ _
      | exact ih1 _ _
      | exact ih2 _ _
      | exact ih3 _ _
      | exact spec_shortWord.mono _ _ _
      | exact LeO.none _
      | refine LeO.ite ?_ ?_
      | refine LeO.bind ?_ (fun _ => ?_)
    · intro y0 y1
      unfold spec_shortPath.j1
      repeat' first
      | (with_reducible exact ih0 _ _)
      | (with_reducible exact ih1 _ _)
      | (with_reducible exact ih2 _ _)
      | (with_reducible exact ih3 _ _)
      | (with_reducible exact spec_shortWord.mono _ _ _)
      | (with_reducible exact LeO.refl _)
      | (with_reducible exact LeO.none _)
      | (with_reducible refine LeO.ite ?_ ?_)
      | (with_reducible refine LeO.bind ?_ (fun _ => ?_))
      | exact ih0 _ _
      | exact ih1 _ _
      | exact ih2 _ _
      | exact ih3 _ _
      | exact spec_shortWord.mono _ _ _
      | exact LeO.none _
      | refine LeO.ite ?_ ?_
      | refine LeO.bind ?_ (fun _ => ?_)
    · intro y0 y1
      unfold spec_shortPath.j2
      repeat' first
      | (with_reducible exact ih0 _ _)
      | (with_reducible exact ih1 _ _)
      | (with_reducible exact ih2 _ _)
      | (with_reducible exact ih3 _ _)
      | (with_reducible exact spec_shortWord.mono _ _ _)
      | (with_reducible exact LeO.refl _)
      | (with_reducible exact LeO.none _)
      | (with_reducible refine LeO.ite ?_ ?_)
      | (with_reducible refine LeO.bind ?_ (fun _ => ?_))
      | exact ih0 _ _
      | exact ih1 _ _
      | exact ih2 _ _
      | exact ih3 _ _
      | exact spec_shortWord.mono _ _ _
      | exact LeO.none _
      | refine LeO.ite ?_ ?_
      | refine LeO.bind ?_ (fun _ => ?_)
    · intro y0 y1
      unfold spec_shortPath.j3
      repeat' first
      | (with_reducible exact ih0 _ _)
      | (with_reducible exact ih1 _ _)
      | (with_reducible exact ih2 _ _)
      | (with_reducible exact ih3 _ _)
      | (with_reducible exact spec_shortWord.mono _ _ _)
      | (with_reducible exact LeO.refl _)
      | (with_reducible exact LeO.none _)
      | (with_reducible refine LeO.ite ?_ ?_)
      | (with_reducible refine LeO.bind ?_ (fun _ => ?_))
      | exact ih0 _ _
      | exact ih1 _ _
      | exact ih2 _ _
      | exact ih3 _ _
      | exact spec_shortWord.mono _ _ _
      | exact LeO.none _
      | refine LeO.ite ?_ ?_
      | refine LeO.bind ?_ (fun _ => ?_)
theorem spec_shortPath.mono : ∀ a0 k, LeO (spec_shortPath.f k a0) (spec_shortPath.f (k + 1) a0) := by
  intro a0 k
  obtain ⟨ih0, ih1, ih2, ih3⟩ := spec_shortPath.mono_l k
  unfold spec_shortPath.f
  repeat' first
      | (with_reducible exact ih0 _ _)
      | (with_reducible exact ih1 _ _)
      | (with_reducible exact ih2 _ _)
      | (with_reducible exact ih3 _ _)
      | (with_reducible exact spec_shortWord.mono _ _ _)
      | (with_reducible exact LeO.refl _)
      | (with_reducible exact LeO.none _)
      | (with_reducible refine LeO.ite ?_ ?_)
      | (with_reducible refine LeO.bind ?_ (fun _ => ?_))
      | exact ih0 _ _
      | exact ih1 _ _
      | exact ih2 _ _
      | exact ih3 _ _
      | exact spec_shortWord.mono _ _ _
      | exact LeO.none _
      | refine LeO.ite ?_ ?_
      | refine LeO.bind ?_ (fun _ => ?_)
set_option maxHeartbeats 8000000 in
set_option maxRecDepth 100000 in
theorem spec_shortPath.calls (k : Nat) (a0 : ByteArray) (r1 : Bool) (r2 : Bool) (w : World) (h : spec_shortPath.f k a0 = some (r1, r2)) :
    Calls Tryd.prog 13 #[.string a0] w fun e w' => e = .returned (.tuple #[.bool r1, .bool r2]) ∧ Drawn0 w w' := by
  have H : (if (a0.size : Int) ≥ 2 then (if 0 < (a0.size : Int) then (if (bt a0 0) = 47 then ((spec_shortWord.f k a0 true).bind fun t109 => (spec_shortPath.j0 k a0 t109)) else (spec_shortPath.j0 k a0 false)) else (none)) else (spec_shortPath.j0 k a0 false)) = some (r1, r2) := h
  clear h
  have HC2 := Aside0.mk H
  clear H
  go_enter Tryd.func13, Tryd.ntmps13
  go_upto_region 1 with (fail)
  go_cut [4] (fun v4 wc => ∃ (kq : Nat) (x4_1 : Bool), v4 = .bool x4_1 ∧ Aside0 (spec_shortPath.j0 kq a0 x4_1 = some (r1, r2)) ∧ Aside0 (kq ≤ k) ∧ Drawn0 w wc)
  case first =>
    have H := HC2.out
    clear HC2
    by_cases c3 : (a0.size : Int) ≥ 2
    · rw [if_pos c3] at H
      have c3b0 : decide (2 ≤ (a0.size : Int)) = true := decide_eq_true c3
      have c3b1 : decide (2 ≤ a0.size) = true := decide_eq_true (by omega)
      clear c3
      (first | rw [c3b0] | (simp only [i64_w, i32_w]; rw [c3b0]) | skip)
      by_cases c4 : 0 < (a0.size : Int)
      · rw [if_pos c4] at H
        have c4b0 : decide (0 < (a0.size : Int)) = true := decide_eq_true c4
        have c4b1 : decide (0 < a0.size) = true := decide_eq_true (by omega)
        clear c4
        by_cases c6 : (bt a0 0) = 47
        · rw [if_pos c6] at H
          have c6b0 : ((bt a0 0) == 47) = true := beq_iff_eq.mpr c6
          have c6b1 : ((bt a0 0) != 47) = false := bne_eq_false_iff_eq.mpr c6
          clear c6
          replace H := Option.bind_eq_some_iff.mp H
          obtain ⟨t109, A70, H⟩ := H
          replace H : (spec_shortPath.j0 k a0 t109) = some (r1, r2) := H
          have A7 := Aside0.mk A70
          clear A70
          have H' := Aside0.mk H
          clear H
          have p5 : 0 ≤ (0 : Int) := (by omega)
          have q5 : 0 < a0.size := (by have : (0 : Int) < (a0.size : Int) := of_decide_eq_true (by first | (with_reducible assumption) | assumption); omega)
          have hx5 : ∀ h : 0 < a0.size, ((a0[0]'h).toNat : Int) = bt a0 0 := bt_at a0 0
          clear p5
          have qi5 : (0 < (a0.size : Int)) = True := eq_true (of_decide_eq_true (by first | (with_reducible assumption) | assumption))
          replace q5 := eq_true q5
          go_wp2_with (first | (go_at_call 14; (with_reducible refine (spec_shortWord.calls k a0 true t109 _ A7.out).mono ?_); rintro e w' ⟨rfl, ⟨nd, rfl⟩⟩))
          go_meet
          case rel => exact ⟨_, (t109), (by first | rfl | (simp; done) | (simp [*]; done)), H', ⟨by first | omega | exact Nat.le_refl _⟩, by repeat (first | exact Drawn0.refl _ | apply Drawn0.step)⟩
        · rw [if_neg c6] at H
          have c6b0 : ((bt a0 0) == 47) = false := beq_eq_false_iff_ne.mpr c6
          have c6b1 : ((bt a0 0) != 47) = true := bne_iff_ne.mpr c6
          have H' := Aside0.mk H
          clear H
          have p5 : 0 ≤ (0 : Int) := (by omega)
          have q5 : 0 < a0.size := (by have : (0 : Int) < (a0.size : Int) := of_decide_eq_true (by first | (with_reducible assumption) | assumption); omega)
          have hx5 : ∀ h : 0 < a0.size, ((a0[0]'h).toNat : Int) = bt a0 0 := bt_at a0 0
          clear p5
          have qi5 : (0 < (a0.size : Int)) = True := eq_true (of_decide_eq_true (by first | (with_reducible assumption) | assumption))
          replace q5 := eq_true q5
          go_wp2
          go_meet
          case rel => exact ⟨_, (false), (by first | rfl | (simp; done) | (simp [*]; done)), H', ⟨by first | omega | exact Nat.le_refl _⟩, by repeat (first | exact Drawn0.refl _ | apply Drawn0.step)⟩
      · rw [if_neg c4] at H
        exact absurd H (by simp)
    · rw [if_neg c3] at H
      have c3b0 : decide (2 ≤ (a0.size : Int)) = false := decide_eq_false c3
      have c3b1 : decide (2 ≤ a0.size) = false := decide_eq_false (by omega)
      clear c3
      (first | rw [c3b0] | (simp only [i64_w, i32_w]; rw [c3b0]) | skip)
      have H' := Aside0.mk H
      clear H
      go_wp2
      go_meet
      case rel => exact ⟨_, (false), (by first | rfl | (simp; done) | (simp [*]; done)), H', ⟨by first | omega | exact Nat.le_refl _⟩, by repeat (first | exact Drawn0.refl _ | apply Drawn0.step)⟩
  case rest =>
    clear HC2
    try clear c1
    try clear p2
    try clear c3
    try clear c3b0
    try clear c3b1
    try clear c4
    try clear c4b0
    try clear c4b1
    try clear p5
    try clear q5
    try clear hx5
    try clear qi5
    try clear c6
    try clear c6b0
    try clear c6b1
    try clear p5
    try clear q5
    obtain ⟨kq, x4_1, rfl, HA, HJ1, ⟨mc1, rfl⟩⟩ := hcut
    cases kq with
    | zero => exact absurd HA.out (by simp [spec_shortPath.j0])
    | succ kj1 =>
      have H := HA.out
      clear HA
      simp only [spec_shortPath.j0] at H
      by_cases c8 : x4_1 = true
      · subst c8
        have H1 : (some (true, true)) = some (r1, r2) := by rw [if_pos rfl] at H; exact H
        clear H
        have H := H1
        clear H1
        simp only [Option.some.injEq, Prod.mk.injEq] at H
        obtain ⟨rfl, rfl⟩ := H
        go_wp2
        go_ret2
        exact ⟨by first | rfl | (simp; done) | (simp [*]; done), by repeat (first | exact Drawn0.refl _ | apply Drawn0.step)⟩
      · replace c8 := Bool.eq_false_iff.mpr c8
        subst c8
        have H1 : (if (a0.size : Int) ≥ 3 then (if 0 ≤ 2 then (if 2 ≤ (a0.size : Int) then (if (a0.extract 0 2).toList = ([46, 47] : List UInt8) then ((spec_shortWord.f kj1 a0 true).bind fun t110 => (spec_shortPath.j1 kj1 a0 t110)) else (spec_shortPath.j1 kj1 a0 false)) else (none)) else (none)) else (spec_shortPath.j1 kj1 a0 false)) = some (r1, r2) := by rw [if_neg (show ¬ (false = true) by decide)] at H; exact H
        clear H
        have H := H1
        clear H1
        have HC9 := Aside0.mk H
        clear H
        go_upto_region 3 with (fail)
        go_cut [17] (fun v17 wc => ∃ (kq : Nat) (x17_8 : Bool), v17 = .bool x17_8 ∧ Aside0 (spec_shortPath.j1 kq a0 x17_8 = some (r1, r2)) ∧ Aside0 (kq ≤ kj1) ∧ Drawn0 w wc)
        case first =>
          have H := HC9.out
          clear HC9
          by_cases c10 : (a0.size : Int) ≥ 3
          · rw [if_pos c10] at H
            have c10b0 : decide (3 ≤ (a0.size : Int)) = true := decide_eq_true c10
            have c10b1 : decide (3 ≤ a0.size) = true := decide_eq_true (by omega)
            clear c10
            (first | rw [c10b0] | (simp only [i64_w, i32_w]; rw [c10b0]) | skip)
            by_cases c11 : 0 ≤ 2
            · rw [if_pos c11] at H
              have c11b0 := eq_true c11
              have c11b1 : decide (0 ≤ 2) = true := decide_eq_true c11
              clear c11
              by_cases c12 : 2 ≤ (a0.size : Int)
              · rw [if_pos c12] at H
                have c12b0 := eq_true c12
                have c12b1 : decide (2 ≤ (a0.size : Int)) = true := decide_eq_true c12
                clear c12
                by_cases c13 : (a0.extract 0 2).toList = ([46, 47] : List UInt8)
                · rw [if_pos c13] at H
                  have c13b0 : ((a0.extract 0 2).toList == ([46, 47] : List UInt8)) = true := beq_iff_eq.mpr c13
                  have c13b1 : ((a0.extract 0 2).toList != ([46, 47] : List UInt8)) = false := bne_eq_false_iff_eq.mpr c13
                  clear c13
                  replace H := Option.bind_eq_some_iff.mp H
                  obtain ⟨t110, A140, H⟩ := H
                  replace H : (spec_shortPath.j1 kj1 a0 t110) = some (r1, r2) := H
                  have A14 := Aside0.mk A140
                  clear A140
                  have H' := Aside0.mk H
                  clear H
                  go_wp2_with (first | (go_at_call 14; (with_reducible refine (spec_shortWord.calls kj1 a0 true t110 _ A14.out).mono ?_); rintro e w' ⟨rfl, ⟨nd, rfl⟩⟩))
                  go_meet
                  case rel => exact ⟨_, (t110), (by first | rfl | (simp; done) | (simp [*]; done)), H', ⟨by have := HJ1.out; first | omega | exact Nat.le_refl _⟩, by repeat (first | exact Drawn0.refl _ | apply Drawn0.step)⟩
                · rw [if_neg c13] at H
                  have c13b0 : ((a0.extract 0 2).toList == ([46, 47] : List UInt8)) = false := beq_eq_false_iff_ne.mpr c13
                  have c13b1 : ((a0.extract 0 2).toList != ([46, 47] : List UInt8)) = true := bne_iff_ne.mpr c13
                  have H' := Aside0.mk H
                  clear H
                  go_wp2
                  go_meet
                  case rel => exact ⟨_, (false), (by first | rfl | (simp; done) | (simp [*]; done)), H', ⟨by have := HJ1.out; first | omega | exact Nat.le_refl _⟩, by repeat (first | exact Drawn0.refl _ | apply Drawn0.step)⟩
              · rw [if_neg c12] at H
                exact absurd H (by simp)
            · rw [if_neg c11] at H
              exact absurd H (by simp)
          · rw [if_neg c10] at H
            have c10b0 : decide (3 ≤ (a0.size : Int)) = false := decide_eq_false c10
            have c10b1 : decide (3 ≤ a0.size) = false := decide_eq_false (by omega)
            clear c10
            (first | rw [c10b0] | (simp only [i64_w, i32_w]; rw [c10b0]) | skip)
            have H' := Aside0.mk H
            clear H
            go_wp2
            go_meet
            case rel => exact ⟨_, (false), (by first | rfl | (simp; done) | (simp [*]; done)), H', ⟨by have := HJ1.out; first | omega | exact Nat.le_refl _⟩, by repeat (first | exact Drawn0.refl _ | apply Drawn0.step)⟩
        case rest =>
          clear HC9
          try clear c1
          try clear p2
          try clear c3
          try clear c3b0
          try clear c3b1
          try clear c4
          try clear c4b0
          try clear c4b1
          try clear p5
          try clear q5
          try clear hx5
          try clear qi5
          try clear c6
          try clear c6b0
          try clear c6b1
          try clear c8
          try clear c10
          try clear c10b0
          try clear c10b1
          try clear c11
          try clear c11b0
          try clear c11b1
          try clear c12
          try clear c12b0
          try clear c12b1
          try clear c13
          try clear c13b0
          try clear c13b1
          try clear p2
          try clear p5
          try clear q5
          obtain ⟨kq, x17_8, rfl, HA, HJ8, ⟨mc8, rfl⟩⟩ := hcut
          cases kq with
          | zero => exact absurd HA.out (by simp [spec_shortPath.j1])
          | succ kj8 =>
            have H := HA.out
            clear HA
            simp only [spec_shortPath.j1] at H
            by_cases c15 : x17_8 = true
            · subst c15
              have H1 : (some (true, true)) = some (r1, r2) := by rw [if_pos rfl] at H; exact H
              clear H
              have H := H1
              clear H1
              simp only [Option.some.injEq, Prod.mk.injEq] at H
              obtain ⟨rfl, rfl⟩ := H
              go_wp2
              go_ret2
              exact ⟨by first | rfl | (simp; done) | (simp [*]; done), by repeat (first | exact Drawn0.refl _ | apply Drawn0.step)⟩
            · replace c15 := Bool.eq_false_iff.mpr c15
              subst c15
              have H1 : (if (a0.size : Int) ≥ 4 then (if 0 ≤ 3 then (if 3 ≤ (a0.size : Int) then (if (a0.extract 0 3).toList = ([46, 46, 47] : List UInt8) then ((spec_shortWord.f kj8 a0 true).bind fun t111 => (spec_shortPath.j2 kj8 a0 t111)) else (spec_shortPath.j2 kj8 a0 false)) else (none)) else (none)) else (spec_shortPath.j2 kj8 a0 false)) = some (r1, r2) := by rw [if_neg (show ¬ (false = true) by decide)] at H; exact H
              clear H
              have H := H1
              clear H1
              have HC16 := Aside0.mk H
              clear H
              go_upto_region 5 with (fail)
              go_cut [30] (fun v30 wc => ∃ (kq : Nat) (x30_15 : Bool), v30 = .bool x30_15 ∧ Aside0 (spec_shortPath.j2 kq a0 x30_15 = some (r1, r2)) ∧ Aside0 (kq ≤ kj8) ∧ Drawn0 w wc)
              case first =>
                have H := HC16.out
                clear HC16
                by_cases c17 : (a0.size : Int) ≥ 4
                · rw [if_pos c17] at H
                  have c17b0 : decide (4 ≤ (a0.size : Int)) = true := decide_eq_true c17
                  have c17b1 : decide (4 ≤ a0.size) = true := decide_eq_true (by omega)
                  clear c17
                  (first | rw [c17b0] | (simp only [i64_w, i32_w]; rw [c17b0]) | skip)
                  by_cases c18 : 0 ≤ 3
                  · rw [if_pos c18] at H
                    have c18b0 := eq_true c18
                    have c18b1 : decide (0 ≤ 3) = true := decide_eq_true c18
                    clear c18
                    by_cases c19 : 3 ≤ (a0.size : Int)
                    · rw [if_pos c19] at H
                      have c19b0 := eq_true c19
                      have c19b1 : decide (3 ≤ (a0.size : Int)) = true := decide_eq_true c19
                      clear c19
                      by_cases c20 : (a0.extract 0 3).toList = ([46, 46, 47] : List UInt8)
                      · rw [if_pos c20] at H
                        have c20b0 : ((a0.extract 0 3).toList == ([46, 46, 47] : List UInt8)) = true := beq_iff_eq.mpr c20
                        have c20b1 : ((a0.extract 0 3).toList != ([46, 46, 47] : List UInt8)) = false := bne_eq_false_iff_eq.mpr c20
                        clear c20
                        replace H := Option.bind_eq_some_iff.mp H
                        obtain ⟨t111, A210, H⟩ := H
                        replace H : (spec_shortPath.j2 kj8 a0 t111) = some (r1, r2) := H
                        have A21 := Aside0.mk A210
                        clear A210
                        have H' := Aside0.mk H
                        clear H
                        go_wp2_with (first | (go_at_call 14; (with_reducible refine (spec_shortWord.calls kj8 a0 true t111 _ A21.out).mono ?_); rintro e w' ⟨rfl, ⟨nd, rfl⟩⟩))
                        go_meet
                        case rel => exact ⟨_, (t111), (by first | rfl | (simp; done) | (simp [*]; done)), H', ⟨by have := HJ1.out; have := HJ8.out; first | omega | exact Nat.le_refl _⟩, by repeat (first | exact Drawn0.refl _ | apply Drawn0.step)⟩
                      · rw [if_neg c20] at H
                        have c20b0 : ((a0.extract 0 3).toList == ([46, 46, 47] : List UInt8)) = false := beq_eq_false_iff_ne.mpr c20
                        have c20b1 : ((a0.extract 0 3).toList != ([46, 46, 47] : List UInt8)) = true := bne_iff_ne.mpr c20
                        have H' := Aside0.mk H
                        clear H
                        go_wp2
                        go_meet
                        case rel => exact ⟨_, (false), (by first | rfl | (simp; done) | (simp [*]; done)), H', ⟨by have := HJ1.out; have := HJ8.out; first | omega | exact Nat.le_refl _⟩, by repeat (first | exact Drawn0.refl _ | apply Drawn0.step)⟩
                    · rw [if_neg c19] at H
                      exact absurd H (by simp)
                  · rw [if_neg c18] at H
                    exact absurd H (by simp)
                · rw [if_neg c17] at H
                  have c17b0 : decide (4 ≤ (a0.size : Int)) = false := decide_eq_false c17
                  have c17b1 : decide (4 ≤ a0.size) = false := decide_eq_false (by omega)
                  clear c17
                  (first | rw [c17b0] | (simp only [i64_w, i32_w]; rw [c17b0]) | skip)
                  have H' := Aside0.mk H
                  clear H
                  go_wp2
                  go_meet
                  case rel => exact ⟨_, (false), (by first | rfl | (simp; done) | (simp [*]; done)), H', ⟨by have := HJ1.out; have := HJ8.out; first | omega | exact Nat.le_refl _⟩, by repeat (first | exact Drawn0.refl _ | apply Drawn0.step)⟩
              case rest =>
                clear HC16
                try clear c1
                try clear c2
                try clear p2
                try clear c3
                try clear c3b0
                try clear c3b1
                try clear c4
                try clear c4b0
                try clear c4b1
                try clear p5
                try clear q5
                try clear hx5
                try clear qi5
                try clear c6
                try clear c6b0
                try clear c6b1
                try clear c8
                try clear c10
                try clear c10b0
                try clear c10b1
                try clear c11
                try clear c11b0
                try clear c11b1
                try clear c12
                try clear c12b0
                try clear c12b1
                try clear c13
                try clear c13b0
                try clear c13b1
                try clear c15
                try clear c17
                try clear c17b0
                try clear c17b1
                try clear c18
                try clear c18b0
                try clear c18b1
                try clear c19
                try clear c19b0
                try clear c19b1
                try clear c20
                try clear c20b0
                try clear c20b1
                try clear p2
                try clear p5
                try clear q5
                obtain ⟨kq, x30_15, rfl, HA, HJ15, ⟨mc15, rfl⟩⟩ := hcut
                cases kq with
                | zero => exact absurd HA.out (by simp [spec_shortPath.j2])
                | succ kj15 =>
                  have H := HA.out
                  clear HA
                  simp only [spec_shortPath.j2] at H
                  by_cases c22 : x30_15 = true
                  · subst c22
                    have H1 : (some (true, true)) = some (r1, r2) := by rw [if_pos rfl] at H; exact H
                    clear H
                    have H := H1
                    clear H1
                    simp only [Option.some.injEq, Prod.mk.injEq] at H
                    obtain ⟨rfl, rfl⟩ := H
                    go_wp2
                    go_ret2
                    exact ⟨by first | rfl | (simp; done) | (simp [*]; done), by repeat (first | exact Drawn0.refl _ | apply Drawn0.step)⟩
                  · replace c22 := Bool.eq_false_iff.mpr c22
                    subst c22
                    have H1 : (if (a0.size : Int) ≥ 3 then (if 0 ≤ 2 then (if 2 ≤ (a0.size : Int) then (if (a0.extract 0 2).toList = ([126, 47] : List UInt8) then (if 1 ≤ (a0.size : Int) then ((spec_shortWord.f kj15 (a0.extract 1 a0.size) true).bind fun t112 => (spec_shortPath.j3 kj15 a0 t112)) else (none)) else (spec_shortPath.j3 kj15 a0 false)) else (none)) else (none)) else (spec_shortPath.j3 kj15 a0 false)) = some (r1, r2) := by rw [if_neg (show ¬ (false = true) by decide)] at H; exact H
                    clear H
                    have H := H1
                    clear H1
                    have HC23 := Aside0.mk H
                    clear H
                    go_upto_region 7 with (fail)
                    go_cut [43] (fun v43 wc => ∃ (kq : Nat) (x43_22 : Bool), v43 = .bool x43_22 ∧ Aside0 (spec_shortPath.j3 kq a0 x43_22 = some (r1, r2)) ∧ Aside0 (kq ≤ kj15) ∧ Drawn0 w wc)
                    case first =>
                      have H := HC23.out
                      clear HC23
                      by_cases c24 : (a0.size : Int) ≥ 3
                      · rw [if_pos c24] at H
                        have c24b0 : decide (3 ≤ (a0.size : Int)) = true := decide_eq_true c24
                        have c24b1 : decide (3 ≤ a0.size) = true := decide_eq_true (by omega)
                        clear c24
                        (first | rw [c24b0] | (simp only [i64_w, i32_w]; rw [c24b0]) | skip)
                        by_cases c25 : 0 ≤ 2
                        · rw [if_pos c25] at H
                          have c25b0 := eq_true c25
                          have c25b1 : decide (0 ≤ 2) = true := decide_eq_true c25
                          clear c25
                          by_cases c26 : 2 ≤ (a0.size : Int)
                          · rw [if_pos c26] at H
                            have c26b0 := eq_true c26
                            have c26b1 : decide (2 ≤ (a0.size : Int)) = true := decide_eq_true c26
                            clear c26
                            by_cases c27 : (a0.extract 0 2).toList = ([126, 47] : List UInt8)
                            · rw [if_pos c27] at H
                              have c27b0 : ((a0.extract 0 2).toList == ([126, 47] : List UInt8)) = true := beq_iff_eq.mpr c27
                              have c27b1 : ((a0.extract 0 2).toList != ([126, 47] : List UInt8)) = false := bne_eq_false_iff_eq.mpr c27
                              clear c27
                              by_cases c28 : 1 ≤ (a0.size : Int)
                              · rw [if_pos c28] at H
                                have c28b0 := eq_true c28
                                have c28b1 : decide (1 ≤ (a0.size : Int)) = true := decide_eq_true c28
                                clear c28
                                replace H := Option.bind_eq_some_iff.mp H
                                obtain ⟨t112, A290, H⟩ := H
                                replace H : (spec_shortPath.j3 kj15 a0 t112) = some (r1, r2) := H
                                have A29 := Aside0.mk A290
                                clear A290
                                have H' := Aside0.mk H
                                clear H
                                go_wp2_with (first | (go_at_call 14; (with_reducible refine (spec_shortWord.calls kj15 (a0.extract 1 a0.size) true t112 _ A29.out).mono ?_); rintro e w' ⟨rfl, ⟨nd, rfl⟩⟩))
                                go_meet
                                case rel => exact ⟨_, (t112), (by first | rfl | (simp; done) | (simp [*]; done)), H', ⟨by have := HJ1.out; have := HJ8.out; have := HJ15.out; first | omega | exact Nat.le_refl _⟩, by repeat (first | exact Drawn0.refl _ | apply Drawn0.step)⟩
                              · rw [if_neg c28] at H
                                exact absurd H (by simp)
                            · rw [if_neg c27] at H
                              have c27b0 : ((a0.extract 0 2).toList == ([126, 47] : List UInt8)) = false := beq_eq_false_iff_ne.mpr c27
                              have c27b1 : ((a0.extract 0 2).toList != ([126, 47] : List UInt8)) = true := bne_iff_ne.mpr c27
                              have H' := Aside0.mk H
                              clear H
                              go_wp2
                              go_meet
                              case rel => exact ⟨_, (false), (by first | rfl | (simp; done) | (simp [*]; done)), H', ⟨by have := HJ1.out; have := HJ8.out; have := HJ15.out; first | omega | exact Nat.le_refl _⟩, by repeat (first | exact Drawn0.refl _ | apply Drawn0.step)⟩
                          · rw [if_neg c26] at H
                            exact absurd H (by simp)
                        · rw [if_neg c25] at H
                          exact absurd H (by simp)
                      · rw [if_neg c24] at H
                        have c24b0 : decide (3 ≤ (a0.size : Int)) = false := decide_eq_false c24
                        have c24b1 : decide (3 ≤ a0.size) = false := decide_eq_false (by omega)
                        clear c24
                        (first | rw [c24b0] | (simp only [i64_w, i32_w]; rw [c24b0]) | skip)
                        have H' := Aside0.mk H
                        clear H
                        go_wp2
                        go_meet
                        case rel => exact ⟨_, (false), (by first | rfl | (simp; done) | (simp [*]; done)), H', ⟨by have := HJ1.out; have := HJ8.out; have := HJ15.out; first | omega | exact Nat.le_refl _⟩, by repeat (first | exact Drawn0.refl _ | apply Drawn0.step)⟩
                    case rest =>
                      clear HC23
                      try clear c1
                      try clear c2
                      try clear p2
                      try clear c3
                      try clear c3b0
                      try clear c3b1
                      try clear c4
                      try clear c4b0
                      try clear c4b1
                      try clear p5
                      try clear q5
                      try clear hx5
                      try clear qi5
                      try clear c6
                      try clear c6b0
                      try clear c6b1
                      try clear c8
                      try clear c10
                      try clear c10b0
                      try clear c10b1
                      try clear c11
                      try clear c11b0
                      try clear c11b1
                      try clear c12
                      try clear c12b0
                      try clear c12b1
                      try clear c13
                      try clear c13b0
                      try clear c13b1
                      try clear c15
                      try clear c17
                      try clear c17b0
                      try clear c17b1
                      try clear c18
                      try clear c18b0
                      try clear c18b1
                      try clear c19
                      try clear c19b0
                      try clear c19b1
                      try clear c20
                      try clear c20b0
                      try clear c20b1
                      try clear c22
                      try clear c24
                      try clear c24b0
                      try clear c24b1
                      try clear c25
                      try clear c25b0
                      try clear c25b1
                      try clear c26
                      try clear c26b0
                      try clear c26b1
                      try clear c27
                      try clear c27b0
                      try clear c27b1
                      try clear c28
                      try clear c28b0
                      try clear c28b1
                      try clear p2
                      try clear p5
                      try clear q5
                      obtain ⟨kq, x43_22, rfl, HA, HJ22, ⟨mc22, rfl⟩⟩ := hcut
                      cases kq with
                      | zero => exact absurd HA.out (by simp [spec_shortPath.j3])
                      | succ kj22 =>
                        have H := HA.out
                        clear HA
                        simp only [spec_shortPath.j3] at H
                        by_cases c30 : x43_22 = true
                        · subst c30
                          have H1 : (some (true, true)) = some (r1, r2) := by rw [if_pos rfl] at H; exact H
                          clear H
                          have H := H1
                          clear H1
                          simp only [Option.some.injEq, Prod.mk.injEq] at H
                          obtain ⟨rfl, rfl⟩ := H
                          go_wp2
                          go_ret2
                          exact ⟨by first | rfl | (simp; done) | (simp [*]; done), by repeat (first | exact Drawn0.refl _ | apply Drawn0.step)⟩
                        · replace c30 := Bool.eq_false_iff.mpr c30
                          subst c30
                          have H1 : (if (a0.size : Int) ≥ 2 then ((spec_shortWord.f kj22 a0 false).bind fun t113 => (if t113 = true then (if 0 < (a0.size : Int) then (if (bt a0 0) = 46 then (some (false, false)) else (if (bt a0 0) = 45 then (some (false, false)) else (if (bt a0 0) = 95 then (some (false, false)) else (some (false, true))))) else (none)) else (some (false, false)))) else (some (false, false))) = some (r1, r2) := by rw [if_neg (show ¬ (false = true) by decide)] at H; exact H
                          clear H
                          have H := H1
                          clear H1
                          by_cases c31 : (a0.size : Int) ≥ 2
                          · rw [if_pos c31] at H
                            have c31b0 : decide (2 ≤ (a0.size : Int)) = true := decide_eq_true c31
                            have c31b1 : decide (2 ≤ a0.size) = true := decide_eq_true (by omega)
                            clear c31
                            replace H := Option.bind_eq_some_iff.mp H
                            obtain ⟨t113, A320, H⟩ := H
                            replace H : (if t113 = true then (if 0 < (a0.size : Int) then (if (bt a0 0) = 46 then (some (false, false)) else (if (bt a0 0) = 45 then (some (false, false)) else (if (bt a0 0) = 95 then (some (false, false)) else (some (false, true))))) else (none)) else (some (false, false))) = some (r1, r2) := H
                            have A32 := Aside0.mk A320
                            clear A320
                            by_cases c33 : t113 = true
                            · subst c33
                              have H1 : (if 0 < (a0.size : Int) then (if (bt a0 0) = 46 then (some (false, false)) else (if (bt a0 0) = 45 then (some (false, false)) else (if (bt a0 0) = 95 then (some (false, false)) else (some (false, true))))) else (none)) = some (r1, r2) := by rw [if_pos rfl] at H; exact H
                              clear H
                              have H := H1
                              clear H1
                              by_cases c34 : 0 < (a0.size : Int)
                              · rw [if_pos c34] at H
                                have c34b0 : decide (0 < (a0.size : Int)) = true := decide_eq_true c34
                                have c34b1 : decide (0 < a0.size) = true := decide_eq_true (by omega)
                                clear c34
                                by_cases c36 : (bt a0 0) = 46
                                · rw [if_pos c36] at H
                                  have c36b0 : ((bt a0 0) == 46) = true := beq_iff_eq.mpr c36
                                  have c36b1 : ((bt a0 0) != 46) = false := bne_eq_false_iff_eq.mpr c36
                                  clear c36
                                  simp only [Option.some.injEq, Prod.mk.injEq] at H
                                  obtain ⟨rfl, rfl⟩ := H
                                  go_wp2_with (first | (go_at_call 14; (with_reducible refine (spec_shortWord.calls kj22 a0 false true _ A32.out).mono ?_); rintro e w' ⟨rfl, ⟨nd, rfl⟩⟩; have p35 : 0 ≤ (0 : Int) := (by omega); have q35 : 0 < a0.size := (by have : (0 : Int) < (a0.size : Int) := of_decide_eq_true (by first | (with_reducible assumption) | assumption); omega); have hx35 : ∀ h : 0 < a0.size, ((a0[0]'h).toNat : Int) = bt a0 0 := bt_at a0 0; clear p35; have qi35 : (0 < (a0.size : Int)) = True := eq_true (of_decide_eq_true (by first | (with_reducible assumption) | assumption)); replace q35 := eq_true q35))
                                  go_ret2
                                  exact ⟨by first | rfl | (simp; done) | (simp [*]; done), by repeat (first | exact Drawn0.refl _ | apply Drawn0.step)⟩
                                · rw [if_neg c36] at H
                                  have c36b0 : ((bt a0 0) == 46) = false := beq_eq_false_iff_ne.mpr c36
                                  have c36b1 : ((bt a0 0) != 46) = true := bne_iff_ne.mpr c36
                                  by_cases c38 : (bt a0 0) = 45
                                  · rw [if_pos c38] at H
                                    have c38b0 : ((bt a0 0) == 45) = true := beq_iff_eq.mpr c38
                                    have c38b1 : ((bt a0 0) != 45) = false := bne_eq_false_iff_eq.mpr c38
                                    clear c38
                                    simp only [Option.some.injEq, Prod.mk.injEq] at H
                                    obtain ⟨rfl, rfl⟩ := H
                                    go_wp2_with (first | (go_at_call 14; (with_reducible refine (spec_shortWord.calls kj22 a0 false true _ A32.out).mono ?_); rintro e w' ⟨rfl, ⟨nd, rfl⟩⟩; have p35 : 0 ≤ (0 : Int) := (by omega); have q35 : 0 < a0.size := (by have : (0 : Int) < (a0.size : Int) := of_decide_eq_true (by first | (with_reducible assumption) | assumption); omega); have hx35 : ∀ h : 0 < a0.size, ((a0[0]'h).toNat : Int) = bt a0 0 := bt_at a0 0; clear p35; have qi35 : (0 < (a0.size : Int)) = True := eq_true (of_decide_eq_true (by first | (with_reducible assumption) | assumption)); replace q35 := eq_true q35; have p37 : 0 ≤ (0 : Int) := (by omega); have q37 : 0 < a0.size := (by have : (0 : Int) < (a0.size : Int) := of_decide_eq_true (by first | (with_reducible assumption) | assumption); omega); have hx37 : ∀ h : 0 < a0.size, ((a0[0]'h).toNat : Int) = bt a0 0 := bt_at a0 0; clear p37; have qi37 : (0 < (a0.size : Int)) = True := eq_true (of_decide_eq_true (by first | (with_reducible assumption) | assumption)); replace q37 := eq_true q37))
                                    go_ret2
                                    exact ⟨by first | rfl | (simp; done) | (simp [*]; done), by repeat (first | exact Drawn0.refl _ | apply Drawn0.step)⟩
                                  · rw [if_neg c38] at H
                                    have c38b0 : ((bt a0 0) == 45) = false := beq_eq_false_iff_ne.mpr c38
                                    have c38b1 : ((bt a0 0) != 45) = true := bne_iff_ne.mpr c38
                                    by_cases c40 : (bt a0 0) = 95
                                    · rw [if_pos c40] at H
                                      have c40b0 : ((bt a0 0) == 95) = true := beq_iff_eq.mpr c40
                                      have c40b1 : ((bt a0 0) != 95) = false := bne_eq_false_iff_eq.mpr c40
                                      clear c40
                                      simp only [Option.some.injEq, Prod.mk.injEq] at H
                                      obtain ⟨rfl, rfl⟩ := H
                                      go_wp2_with (first | (go_at_call 14; (with_reducible refine (spec_shortWord.calls kj22 a0 false true _ A32.out).mono ?_); rintro e w' ⟨rfl, ⟨nd, rfl⟩⟩; have p35 : 0 ≤ (0 : Int) := (by omega); have q35 : 0 < a0.size := (by have : (0 : Int) < (a0.size : Int) := of_decide_eq_true (by first | (with_reducible assumption) | assumption); omega); have hx35 : ∀ h : 0 < a0.size, ((a0[0]'h).toNat : Int) = bt a0 0 := bt_at a0 0; clear p35; have qi35 : (0 < (a0.size : Int)) = True := eq_true (of_decide_eq_true (by first | (with_reducible assumption) | assumption)); replace q35 := eq_true q35; have p37 : 0 ≤ (0 : Int) := (by omega); have q37 : 0 < a0.size := (by have : (0 : Int) < (a0.size : Int) := of_decide_eq_true (by first | (with_reducible assumption) | assumption); omega); have hx37 : ∀ h : 0 < a0.size, ((a0[0]'h).toNat : Int) = bt a0 0 := bt_at a0 0; clear p37; have qi37 : (0 < (a0.size : Int)) = True := eq_true (of_decide_eq_true (by first | (with_reducible assumption) | assumption)); replace q37 := eq_true q37; have p39 : 0 ≤ (0 : Int) := (by omega); have q39 : 0 < a0.size := (by have : (0 : Int) < (a0.size : Int) := of_decide_eq_true (by first | (with_reducible assumption) | assumption); omega); have hx39 : ∀ h : 0 < a0.size, ((a0[0]'h).toNat : Int) = bt a0 0 := bt_at a0 0; clear p39; have qi39 : (0 < (a0.size : Int)) = True := eq_true (of_decide_eq_true (by first | (with_reducible assumption) | assumption)); replace q39 := eq_true q39))
                                      go_ret2
                                      exact ⟨by first | rfl | (simp; done) | (simp [*]; done), by repeat (first | exact Drawn0.refl _ | apply Drawn0.step)⟩
                                    · rw [if_neg c40] at H
                                      have c40b0 : ((bt a0 0) == 95) = false := beq_eq_false_iff_ne.mpr c40
                                      have c40b1 : ((bt a0 0) != 95) = true := bne_iff_ne.mpr c40
                                      simp only [Option.some.injEq, Prod.mk.injEq] at H
                                      obtain ⟨rfl, rfl⟩ := H
                                      go_wp2_with (first | (go_at_call 14; (with_reducible refine (spec_shortWord.calls kj22 a0 false true _ A32.out).mono ?_); rintro e w' ⟨rfl, ⟨nd, rfl⟩⟩; have p35 : 0 ≤ (0 : Int) := (by omega); have q35 : 0 < a0.size := (by have : (0 : Int) < (a0.size : Int) := of_decide_eq_true (by first | (with_reducible assumption) | assumption); omega); have hx35 : ∀ h : 0 < a0.size, ((a0[0]'h).toNat : Int) = bt a0 0 := bt_at a0 0; clear p35; have qi35 : (0 < (a0.size : Int)) = True := eq_true (of_decide_eq_true (by first | (with_reducible assumption) | assumption)); replace q35 := eq_true q35; have p37 : 0 ≤ (0 : Int) := (by omega); have q37 : 0 < a0.size := (by have : (0 : Int) < (a0.size : Int) := of_decide_eq_true (by first | (with_reducible assumption) | assumption); omega); have hx37 : ∀ h : 0 < a0.size, ((a0[0]'h).toNat : Int) = bt a0 0 := bt_at a0 0; clear p37; have qi37 : (0 < (a0.size : Int)) = True := eq_true (of_decide_eq_true (by first | (with_reducible assumption) | assumption)); replace q37 := eq_true q37; have p39 : 0 ≤ (0 : Int) := (by omega); have q39 : 0 < a0.size := (by have : (0 : Int) < (a0.size : Int) := of_decide_eq_true (by first | (with_reducible assumption) | assumption); omega); have hx39 : ∀ h : 0 < a0.size, ((a0[0]'h).toNat : Int) = bt a0 0 := bt_at a0 0; clear p39; have qi39 : (0 < (a0.size : Int)) = True := eq_true (of_decide_eq_true (by first | (with_reducible assumption) | assumption)); replace q39 := eq_true q39))
                                      go_ret2
                                      exact ⟨by first | rfl | (simp; done) | (simp [*]; done), by repeat (first | exact Drawn0.refl _ | apply Drawn0.step)⟩
                              · rw [if_neg c34] at H
                                exact absurd H (by simp)
                            · replace c33 := Bool.eq_false_iff.mpr c33
                              subst c33
                              have H1 : (some (false, false)) = some (r1, r2) := by rw [if_neg (show ¬ (false = true) by decide)] at H; exact H
                              clear H
                              have H := H1
                              clear H1
                              simp only [Option.some.injEq, Prod.mk.injEq] at H
                              obtain ⟨rfl, rfl⟩ := H
                              go_wp2_with (first | (go_at_call 14; (with_reducible refine (spec_shortWord.calls kj22 a0 false false _ A32.out).mono ?_); rintro e w' ⟨rfl, ⟨nd, rfl⟩⟩))
                              go_ret2
                              exact ⟨by first | rfl | (simp; done) | (simp [*]; done), by repeat (first | exact Drawn0.refl _ | apply Drawn0.step)⟩
                          · rw [if_neg c31] at H
                            have c31b0 : decide (2 ≤ (a0.size : Int)) = false := decide_eq_false c31
                            have c31b1 : decide (2 ≤ a0.size) = false := decide_eq_false (by omega)
                            clear c31
                            simp only [Option.some.injEq, Prod.mk.injEq] at H
                            obtain ⟨rfl, rfl⟩ := H
                            go_wp2
                            go_ret2
                            exact ⟨by first | rfl | (simp; done) | (simp [*]; done), by repeat (first | exact Drawn0.refl _ | apply Drawn0.step)⟩

/-! ### spec_mapsIn: function 19 -/
def spec_mapsIn.l0 : Nat → List ByteArray → ByteArray → Int → Option (Bool)
  | 0, _, _, _ => none
  | k + 1, x0, x1, x5 => if x5 < (x0.length : Int) then (if 0 ≤ x5 then (if (rdOf ByteArray.empty x0 x5).toList = x1.toList then (some true) else (spec_mapsIn.l0 k x0 x1 (wrap64 (x5 + 1)))) else (none)) else (some false)
def spec_mapsIn.f (k : Nat) (l0 : List ByteArray) (a1 : ByteArray) : Option (Bool) := spec_mapsIn.l0 k l0 a1 0
theorem spec_mapsIn.mono_l : ∀ k, (∀ y0 y1 y2, LeO (spec_mapsIn.l0 k y0 y1 y2) (spec_mapsIn.l0 (k + 1) y0 y1 y2))
  | 0 => fun _ _ _ r h => by simp [spec_mapsIn.l0] at h
  | k + 1 => by
    have ih0 := spec_mapsIn.mono_l k
    · intro y0 y1 y2
      unfold spec_mapsIn.l0
      repeat' first
      | (with_reducible exact ih0 _ _ _)
      | (with_reducible exact LeO.refl _)
      | (with_reducible exact LeO.none _)
      | (with_reducible refine LeO.ite ?_ ?_)
      | (with_reducible refine LeO.bind ?_ (fun _ => ?_))
      | exact ih0 _ _ _
      | exact LeO.none _
      | refine LeO.ite ?_ ?_
      | refine LeO.bind ?_ (fun _ => ?_)
theorem spec_mapsIn.mono : ∀ a0 a1 k, LeO (spec_mapsIn.f k a0 a1) (spec_mapsIn.f (k + 1) a0 a1) := by
  intro a0 a1 k
  have ih0 := spec_mapsIn.mono_l k
  unfold spec_mapsIn.f
  repeat' first
      | (with_reducible exact ih0 _ _ _)
      | (with_reducible exact LeO.refl _)
      | (with_reducible exact LeO.none _)
      | (with_reducible refine LeO.ite ?_ ?_)
      | (with_reducible refine LeO.bind ?_ (fun _ => ?_))
      | exact ih0 _ _ _
      | exact LeO.none _
      | refine LeO.ite ?_ ?_
      | refine LeO.bind ?_ (fun _ => ?_)
set_option maxHeartbeats 8000000 in
set_option maxRecDepth 100000 in
theorem spec_mapsIn.calls (k : Nat) (A0 : Option Addr) (c0 : Nat) (l0 : List ByteArray) (a1 : ByteArray) (r : Bool) (w : World) (hr0 : Kd.C Kd.string w A0 l0.length l0) (hc0 : l0.length ≤ c0) (h : spec_mapsIn.f k l0 a1 = some r) :
    Calls Tryd.prog 19 #[.slice A0 l0.length c0, .string a1] w fun e w' => e = .returned (.bool r) ∧ Drawn0 w w' := by
  have HR0 := Aside0.mk hr0
  have HC0 := Aside0.mk hc0
  clear hr0 hc0
  have H : (spec_mapsIn.l0 k l0 a1 0) = some r := h
  clear h
  have H' := Aside0.mk H
  clear H
  go_enter Tryd.func19, Tryd.ntmps19
  go_wp2
  go_loopg [5] k (fun kq v5 w' => ∃ (x5_1 : Int), v5 = .int .i64 x5_1 ∧ Aside0 (spec_mapsIn.l0 kq l0 a1 x5_1 = some r) ∧ Aside0 (kq ≤ k) ∧ Drawn0 w w')
  case atStart => exact ⟨(0), (by first | rfl | (simp; done) | (simp [*]; done)), H', ⟨Nat.le_refl _⟩, by repeat (first | exact Drawn0.refl _ | apply Drawn0.step)⟩
  case round =>
    clear H'
    try clear c1
    try clear p2
    obtain ⟨x5_1, rfl, HA, HK1, ⟨m1, rfl⟩⟩ := hrel
    cases gk with
    | zero => exact absurd HA.out (by simp [spec_mapsIn.l0])
    | succ k1 =>
      have H := HA.out
      clear HA
      simp only [spec_mapsIn.l0] at H
      by_cases c3 : x5_1 < (l0.length : Int)
      · rw [if_pos c3] at H
        have c3b0 : decide (x5_1 < (l0.length : Int)) = true := decide_eq_true c3
        clear c3
        by_cases c4 : 0 ≤ x5_1
        · rw [if_pos c4] at H
          have c4b0 : decide (0 ≤ x5_1) = true := decide_eq_true c4
          clear c4
          by_cases c5 : (rdOf ByteArray.empty l0 x5_1).toList = a1.toList
          · rw [if_pos c5] at H
            have c5b0 : ((rdOf ByteArray.empty l0 x5_1).toList == a1.toList) = true := beq_iff_eq.mpr c5
            have c5b1 : ((rdOf ByteArray.empty l0 x5_1).toList != a1.toList) = false := bne_eq_false_iff_eq.mpr c5
            clear c5
            obtain rfl := Option.some.inj H
            have p114 : 0 ≤ (x5_1 : Int) := of_decide_eq_true (by first | (with_reducible assumption) | assumption)
            have q114 : x5_1 < (l0.length : Int) := of_decide_eq_true (by first | (with_reducible assumption) | assumption)
            obtain ⟨ad114, e114, hx114_0⟩ := Kd.at_string HR0.out x5_1 p114 q114
            cases e114
            replace p114 := eq_true p114
            replace q114 := eq_true q114
            go_wp2
            go_ret
            exact ⟨by first | rfl | (simp; done) | (simp [*]; done), by repeat (first | exact Drawn0.refl _ | apply Drawn0.step)⟩
          · rw [if_neg c5] at H
            have c5b0 : ((rdOf ByteArray.empty l0 x5_1).toList == a1.toList) = false := beq_eq_false_iff_ne.mpr c5
            have c5b1 : ((rdOf ByteArray.empty l0 x5_1).toList != a1.toList) = true := bne_iff_ne.mpr c5
            have H' := Aside0.mk H
            clear H
            have p114 : 0 ≤ (x5_1 : Int) := of_decide_eq_true (by first | (with_reducible assumption) | assumption)
            have q114 : x5_1 < (l0.length : Int) := of_decide_eq_true (by first | (with_reducible assumption) | assumption)
            obtain ⟨ad114, e114, hx114_0⟩ := Kd.at_string HR0.out x5_1 p114 q114
            cases e114
            replace p114 := eq_true p114
            replace q114 := eq_true q114
            go_wp2
            go_roundg k1
            case measure => have := HK1.out; omega
            case rel => exact ⟨(wrap64 (x5_1 + 1)), (by first | rfl | (simp; done) | (simp [*]; done)), H', ⟨by have := HK1.out; omega⟩, by repeat (first | exact Drawn0.refl _ | apply Drawn0.step)⟩
        · rw [if_neg c4] at H
          exact absurd H (by simp)
      · rw [if_neg c3] at H
        have c3b0 : decide (x5_1 < (l0.length : Int)) = false := decide_eq_false c3
        clear c3
        obtain rfl := Option.some.inj H
        go_wp2
        go_ret
        exact ⟨by first | rfl | (simp; done) | (simp [*]; done), by repeat (first | exact Drawn0.refl _ | apply Drawn0.step)⟩

end Go.Proofs.YtklbghadhneejaaDoor.PX
