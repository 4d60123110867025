-- Written by a program over the translation (xprint.py). Lean checks it.
import Derived.Test.YtlncdacoefoldaaGreatDoorPXx0
import Derived.Test.YtlncdacoefoldaaGreatDoorPXx1
import Derived.Test.YtlncdacoefoldaaGreatDoorPXx2
namespace Go.Proofs.YtlncdacoefoldaaGreatDoor.PX
open Go.RowKit Go.Proofs.YtlncdacoefoldaaGreatDoorW.PrintWords Go.Proofs.YtlncdacoefoldaaGreatDoorW.PrintLast Go.Proofs.YtlncdacoefoldaaGreatDoorW.PrintMore
attribute [local go_sem] max2_int min2_int max_two min_two max_three min_three max_four min_four   -- for this text's walks alone
set_option linter.unusedVariables false
set_option linter.unusedSimpArgs false

/-! ### template_zzAt: function 113 -/
mutual
def template_zzAt.j0 : Nat → ByteArray → Int → Bool → Option (List ByteArray × Int × Bool)
  | 0, _, _, _ => none
  | k + 1, x0, x1, x21 => if x21 = true then (some (([] : List ByteArray), 0, false)) else (if 0 ≤ (wrap64 (x1 + 1)) then (if (wrap64 (x1 + 1)) < (x0.size : Int) then (if (bt x0 (wrap64 (x1 + 1))) = 36 then (some ((([(⟨#[36, 36]⟩ : ByteArray), (⟨#[36]⟩ : ByteArray), (⟨#[]⟩ : ByteArray), (⟨#[]⟩ : ByteArray), (⟨#[]⟩ : ByteArray), (⟨#[]⟩ : ByteArray)] : List ByteArray)), wrap64 (x1 + 2), true)) else ((template_zzName.f k x0 (wrap64 (x1 + 1))).bind fun t106 => (if t106 > (wrap64 (x1 + 1)) then (if 0 ≤ x1 then (if x1 ≤ t106 then (if t106 ≤ (x0.size : Int) then (if (wrap64 (x1 + 1)) ≤ t106 then (some ((([x0.extract (x1 : Int).toNat (t106 : Int).toNat, (⟨#[]⟩ : ByteArray), x0.extract ((wrap64 (x1 + 1)) : Int).toNat (t106 : Int).toNat, (⟨#[]⟩ : ByteArray), (⟨#[]⟩ : ByteArray), (⟨#[]⟩ : ByteArray)] : List ByteArray)), t106, true)) else (none)) else (none)) else (none)) else (none)) else (if (bt x0 (wrap64 (x1 + 1))) = 123 then ((template_zzName.f k x0 (wrap64 (x1 + 2))).bind fun t110 => (if t110 > (wrap64 (x1 + 2)) then (if t110 < (x0.size : Int) then (if 0 ≤ t110 then (template_zzAt.j1 k x0 x1 t110 ((bt x0 t110) == 125)) else (none)) else (template_zzAt.j1 k x0 x1 t110 false)) else (template_zzAt.j1 k x0 x1 t110 false))) else (some (([] : List ByteArray), 0, false)))))) else (none)) else (none))
def template_zzAt.j1 : Nat → ByteArray → Int → Int → Bool → Option (List ByteArray × Int × Bool)
  | 0, _, _, _, _ => none
  | k + 1, x0, x1, x8, x73 => if x73 = true then (if 0 ≤ x1 then (if x1 ≤ (wrap64 (x8 + 1)) then (if (wrap64 (x8 + 1)) ≤ (x0.size : Int) then (if 0 ≤ (wrap64 (x1 + 2)) then (if (wrap64 (x1 + 2)) ≤ x8 then (if x8 ≤ (x0.size : Int) then (some ((([x0.extract (x1 : Int).toNat ((wrap64 (x8 + 1)) : Int).toNat, (⟨#[]⟩ : ByteArray), (⟨#[]⟩ : ByteArray), x0.extract ((wrap64 (x1 + 2)) : Int).toNat (x8 : Int).toNat, (⟨#[]⟩ : ByteArray), (⟨#[]⟩ : ByteArray)] : List ByteArray)), wrap64 (x8 + 1), true)) else (none)) else (none)) else (none)) else (none)) else (none)) else (none)) else ((template_zzOperator.f k x0 x8).bind fun t114 => (if x8 > (wrap64 (x1 + 2)) then (template_zzAt.j2 k x0 x1 t114 (decide (t114 > 0))) else (template_zzAt.j2 k x0 x1 t114 false)))
def template_zzAt.j2 : Nat → ByteArray → Int → Int → Bool → Option (List ByteArray × Int × Bool)
  | 0, _, _, _, _ => none
  | k + 1, x0, x1, x9, x97 => if x97 = true then ((template_zzLast.f k x0 x9).bind fun t115 => (if t115 ≥ 0 then (if 0 ≤ x1 then (if x1 ≤ (wrap64 (t115 + 1)) then (if (wrap64 (t115 + 1)) ≤ (x0.size : Int) then (if 0 ≤ (wrap64 (x1 + 2)) then (if (wrap64 (x1 + 2)) ≤ t115 then (if t115 ≤ (x0.size : Int) then (if 0 ≤ x9 then (if x9 ≤ t115 then (some ((([x0.extract (x1 : Int).toNat ((wrap64 (t115 + 1)) : Int).toNat, (⟨#[]⟩ : ByteArray), (⟨#[]⟩ : ByteArray), x0.extract ((wrap64 (x1 + 2)) : Int).toNat (t115 : Int).toNat, x0.extract (x9 : Int).toNat (t115 : Int).toNat, (⟨#[]⟩ : ByteArray)] : List ByteArray)), wrap64 (t115 + 1), true)) else (none)) else (none)) else (none)) else (none)) else (none)) else (none)) else (none)) else (none)) else (some ((([(⟨#[36, 123]⟩ : ByteArray), (⟨#[]⟩ : ByteArray), (⟨#[]⟩ : ByteArray), (⟨#[]⟩ : ByteArray), (⟨#[]⟩ : ByteArray), (⟨#[]⟩ : ByteArray)] : List ByteArray)), wrap64 (x1 + 2), true)))) else (some ((([(⟨#[36, 123]⟩ : ByteArray), (⟨#[]⟩ : ByteArray), (⟨#[]⟩ : ByteArray), (⟨#[]⟩ : ByteArray), (⟨#[]⟩ : ByteArray), (⟨#[]⟩ : ByteArray)] : List ByteArray)), wrap64 (x1 + 2), true))
end
def template_zzAt.f (k : Nat) (a0 : ByteArray) (a1 : Int) : Option (List ByteArray × Int × Bool) := if (wrap64 (a1 + 1)) ≥ (a0.size : Int) then (template_zzAt.j0 k a0 a1 true) else (if 0 ≤ a1 then (if a1 < (a0.size : Int) then (template_zzAt.j0 k a0 a1 ((bt a0 a1) != 36)) else (none)) else (none))
theorem template_zzAt.mono_l : ∀ k, (∀ y0 y1 y2, LeO (template_zzAt.j0 k y0 y1 y2) (template_zzAt.j0 (k + 1) y0 y1 y2)) ∧ (∀ y0 y1 y2 y3, LeO (template_zzAt.j1 k y0 y1 y2 y3) (template_zzAt.j1 (k + 1) y0 y1 y2 y3)) ∧ (∀ y0 y1 y2 y3, LeO (template_zzAt.j2 k y0 y1 y2 y3) (template_zzAt.j2 (k + 1) y0 y1 y2 y3))
  | 0 => ⟨fun _ _ _ r h => by simp [template_zzAt.j0] at h, fun _ _ _ _ r h => by simp [template_zzAt.j1] at h, fun _ _ _ _ r h => by simp [template_zzAt.j2] at h⟩
  | k + 1 => by
    obtain ⟨ih0, ih1, ih2⟩ := template_zzAt.mono_l k
    refine ⟨?_, ?_, ?_⟩
    · intro y0 y1 y2
      unfold template_zzAt.j0
      repeat' first
      | (with_reducible exact ih0 _ _ _)
      | (with_reducible exact ih1 _ _ _ _)
      | (with_reducible exact ih2 _ _ _ _)
      | (with_reducible exact template_zzLast.mono _ _ _)
      | (with_reducible exact template_zzName.mono _ _ _)
      | (with_reducible exact template_zzOperator.mono _ _ _)
      | (with_reducible exact LeO.refl _)
      | (with_reducible exact LeO.none _)
      | (with_reducible refine LeO.ite ?_ ?_)
      | (with_reducible refine LeO.bind ?_ (fun _ => ?_))
      | exact ih0 _ _ _
      | exact ih1 _ _ _ _
      | exact ih2 _ _ _ _
      | exact template_zzLast.mono _ _ _
      | exact template_zzName.mono _ _ _
      | exact template_zzOperator.mono _ _ _
      | exact LeO.none _
      | refine LeO.ite ?_ ?_
      | refine LeO.bind ?_ (fun _ => ?_)
    · intro y0 y1 y2 y3
      unfold template_zzAt.j1
      repeat' first
      | (with_reducible exact ih0 _ _ _)
      | (with_reducible exact ih1 _ _ _ _)
      | (with_reducible exact ih2 _ _ _ _)
      | (with_reducible exact template_zzLast.mono _ _ _)
      | (with_reducible exact template_zzName.mono _ _ _)
      | (with_reducible exact template_zzOperator.mono _ _ _)
      | (with_reducible exact LeO.refl _)
      | (with_reducible exact LeO.none _)
      | (with_reducible refine LeO.ite ?_ ?_)
      | (with_reducible refine LeO.bind ?_ (fun _ => ?_))
      | exact ih0 _ _ _
      | exact ih1 _ _ _ _
      | exact ih2 _ _ _ _
      | exact template_zzLast.mono _ _ _
      | exact template_zzName.mono _ _ _
      | exact template_zzOperator.mono _ _ _
      | exact LeO.none _
      | refine LeO.ite ?_ ?_
      | refine LeO.bind ?_ (fun _ => ?_)
    · intro y0 y1 y2 y3
      unfold template_zzAt.j2
      repeat' first
      | (with_reducible exact ih0 _ _ _)
      | (with_reducible exact ih1 _ _ _ _)
      | (with_reducible exact ih2 _ _ _ _)
      | (with_reducible exact template_zzLast.mono _ _ _)
      | (with_reducible exact template_zzName.mono _ _ _)
      | (with_reducible exact template_zzOperator.mono _ _ _)
      | (with_reducible exact LeO.refl _)
      | (with_reducible exact LeO.none _)
      | (with_reducible refine LeO.ite ?_ ?_)
      | (with_reducible refine LeO.bind ?_ (fun _ => ?_))
      | exact ih0 _ _ _
      | exact ih1 _ _ _ _
      | exact ih2 _ _ _ _
      | exact template_zzLast.mono _ _ _
      | exact template_zzName.mono _ _ _
      | exact template_zzOperator.mono _ _ _
      | exact LeO.none _
      | refine LeO.ite ?_ ?_
      | refine LeO.bind ?_ (fun _ => ?_)
theorem template_zzAt.mono : ∀ a0 a1 k, LeO (template_zzAt.f k a0 a1) (template_zzAt.f (k + 1) a0 a1) := by
  intro a0 a1 k
  obtain ⟨ih0, ih1, ih2⟩ := template_zzAt.mono_l k
  unfold template_zzAt.f
  repeat' first
      | (with_reducible exact ih0 _ _ _)
      | (with_reducible exact ih1 _ _ _ _)
      | (with_reducible exact ih2 _ _ _ _)
      | (with_reducible exact template_zzLast.mono _ _ _)
      | (with_reducible exact template_zzName.mono _ _ _)
      | (with_reducible exact template_zzOperator.mono _ _ _)
      | (with_reducible exact LeO.refl _)
      | (with_reducible exact LeO.none _)
      | (with_reducible refine LeO.ite ?_ ?_)
      | (with_reducible refine LeO.bind ?_ (fun _ => ?_))
      | exact ih0 _ _ _
      | exact ih1 _ _ _ _
      | exact ih2 _ _ _ _
      | exact template_zzLast.mono _ _ _
      | exact template_zzName.mono _ _ _
      | exact template_zzOperator.mono _ _ _
      | exact LeO.none _
      | refine LeO.ite ?_ ?_
      | refine LeO.bind ?_ (fun _ => ?_)
def template_zzAt.T7 : Bool × List (List Nat × List Nat) := (true, [([], []), ([], []), ([], []), ([0, 1, 2], [0, 1, 2]), ([], []), ([], []), ([5], [5]), ([], []), ([4, 6, 7], [4, 6, 7]), ([3, 8], [3, 8]), ([], []), ([9, 0, 1, 2, 3, 4, 5, 6, 7, 8, 9], [9]), ([10, 11, 0, 1, 2, 3, 4, 5, 6, 7, 8, 9, 10, 11], [10]), ([12, 0, 1, 2, 3, 4, 5, 6, 7, 8, 9, 10, 11, 12], [])])
def template_zzAt.B7 : List Nat := [0, 0, 0, 7, 0, 0, 32, 0, 240, 511, 0, 1023, 4095, 8191]
theorem template_zzAt.tab7 : rtab .any (opsOf Tryz.f113 7) = template_zzAt.T7 := by kernel_rfl
theorem template_zzAt.bits7 : waitsOk template_zzAt.T7.2 template_zzAt.B7 = true := by kernel_rfl
def template_zzAt.T12 : Bool × List (List Nat × List Nat) := (true, [([], []), ([], []), ([], []), ([2], [2]), ([0, 1, 3], [0, 1, 3]), ([], []), ([], []), ([6], [6]), ([], []), ([5, 7, 8], [5, 7, 8]), ([4, 9], [4, 9]), ([], []), ([11], [11]), ([10, 0, 1, 2, 3, 4, 5, 6, 7, 8, 9, 10], [10]), ([12, 13, 0, 1, 2, 3, 4, 5, 6, 7, 8, 9, 10, 11, 12, 13], [12]), ([14, 0, 1, 2, 3, 4, 5, 6, 7, 8, 9, 10, 11, 12, 13, 14], [])])
def template_zzAt.B12 : List Nat := [0, 0, 0, 4, 15, 0, 0, 64, 0, 480, 1023, 0, 2048, 2047, 16383, 32767]
theorem template_zzAt.tab12 : rtab .any (opsOf Tryz.f113 12) = template_zzAt.T12 := by kernel_rfl
theorem template_zzAt.bits12 : waitsOk template_zzAt.T12.2 template_zzAt.B12 = true := by kernel_rfl
def template_zzAt.T17 : Bool × List (List Nat × List Nat) := (true, [([], []), ([], []), ([], []), ([2], [2]), ([0, 1, 3], [0, 1, 3]), ([], []), ([], []), ([6], [6]), ([], []), ([5, 7, 8], [5, 7, 8]), ([], []), ([], []), ([], []), ([10, 11, 12], [10, 11, 12]), ([4, 9, 13], [4, 9, 13]), ([], []), ([15], [15]), ([14, 0, 1, 2, 3, 4, 5, 6, 7, 8, 9, 10, 11, 12, 13, 14], [14]), ([16, 17, 0, 1, 2, 3, 4, 5, 6, 7, 8, 9, 10, 11, 12, 13, 14, 15, 16, 17], [16]), ([18, 0, 1, 2, 3, 4, 5, 6, 7, 8, 9, 10, 11, 12, 13, 14, 15, 16, 17, 18], [])])
def template_zzAt.B17 : List Nat := [0, 0, 0, 4, 15, 0, 0, 64, 0, 480, 0, 0, 0, 7168, 16383, 0, 32768, 32767, 262143, 524287]
theorem template_zzAt.tab17 : rtab .any (opsOf Tryz.f113 17) = template_zzAt.T17 := by kernel_rfl
theorem template_zzAt.bits17 : waitsOk template_zzAt.T17.2 template_zzAt.B17 = true := by kernel_rfl
set_option maxHeartbeats 8000000 in
set_option maxRecDepth 100000 in
theorem template_zzAt.calls (k : Nat) (a0 : ByteArray) (a1 : Int) (r1 : List ByteArray) (r2 : Int) (r3 : Bool) (w : World) (h : template_zzAt.f k a0 a1 = some (r1, r2, r3)) :
    Calls Tryz.prog 113 #[.string a0, .int .i64 a1] w fun e w' => ∃ v0_ : Value, e = .returned (.tuple #[v0_, .int .i64 r2, .bool r3]) ∧ Kd.R Kd.string 9 w' w.heap.size (fun _ => True) v0_ r1 ∧ Below w.heap.size w w' := by
  have HB := Aside0.mk (Below.refl w.heap.size w)
  have H : (if (wrap64 (a1 + 1)) ≥ (a0.size : Int) then (template_zzAt.j0 k a0 a1 true) else (if 0 ≤ a1 then (if a1 < (a0.size : Int) then (template_zzAt.j0 k a0 a1 ((bt a0 a1) != 36)) else (none)) else (none))) = some (r1, r2, r3) := h
  clear h
  have HC3 := Aside0.mk H
  clear H
  go_enter Tryz.func113, Tryz.ntmps113
  go_upto_region 1 with (fail)
  go_cut [21] (fun v21 wc => ∃ (kq : Nat) (x21_2 : Bool), v21 = .bool x21_2 ∧ Aside0 (template_zzAt.j0 kq a0 a1 x21_2 = some (r1, r2, r3)) ∧ Aside0 (kq ≤ k) ∧ Aside0 (Below w.heap.size w wc))
  case first =>
    have H := HC3.out
    clear HC3
    by_cases c4 : (wrap64 (a1 + 1)) ≥ (a0.size : Int)
    · rw [if_pos c4] at H
      have c4b0 : decide ((a0.size : Int) ≤ (wrap64 (a1 + 1))) = true := decide_eq_true c4
      clear c4
      (first | rw [c4b0] | (simp only [i64_w, i32_w]; rw [c4b0]) | skip)
      have H' := Aside0.mk H
      clear H
      go_wp2
      go_meet
      case rel => exact ⟨_, (true), (by first | rfl | (simp; done) | (simp [*]; done)), H', ⟨by first | omega | exact Nat.le_refl _⟩, ⟨by repeat (first | (with_reducible first | exact HB.out | apply below_alloc | apply pw_below_drewN | apply below_drew1) | exact HB.out)⟩⟩
    · rw [if_neg c4] at H
      have c4b0 : decide ((a0.size : Int) ≤ (wrap64 (a1 + 1))) = false := decide_eq_false c4
      clear c4
      (first | rw [c4b0] | (simp only [i64_w, i32_w]; rw [c4b0]) | skip)
      by_cases c5 : 0 ≤ a1
      · rw [if_pos c5] at H
        have c5b0 : decide (0 ≤ a1) = true := decide_eq_true c5
        clear c5
        by_cases c6 : a1 < (a0.size : Int)
        · rw [if_pos c6] at H
          have c6b0 : decide (a1 < (a0.size : Int)) = true := decide_eq_true c6
          clear c6
          have H' := Aside0.mk H
          clear H
          have p7 : 0 ≤ (a1 : Int) := of_decide_eq_true (by first | (with_reducible assumption) | assumption)
          have q7 : a1 < (a0.size : Int) := of_decide_eq_true (by first | (with_reducible assumption) | assumption)
          have hx7 := bt_at a0 a1
          replace p7 := eq_true p7
          replace q7 := eq_true q7
          go_wp2
          go_meet
          case rel => exact ⟨_, (((bt a0 a1) != 36)), (by first | rfl | (simp; done) | (simp [*]; done)), H', ⟨by first | omega | exact Nat.le_refl _⟩, ⟨by repeat (first | (with_reducible first | exact HB.out | apply below_alloc | apply pw_below_drewN | apply below_drew1) | exact HB.out)⟩⟩
        · rw [if_neg c6] at H
          exact absurd H (by simp)
      · rw [if_neg c5] at H
        exact absurd H (by simp)
  case rest =>
    clear HC3
    try clear c1
    try clear p2
    try clear c4
    try clear c4b0
    try clear c5
    try clear c5b0
    try clear c6
    try clear c6b0
    try clear p6
    try clear p7
    try clear q7
    try clear hx7
    try clear p7
    try clear q7
    obtain ⟨kq, x21_2, rfl, HA, HJ2, HB⟩ := hcut
    cases kq with
    | zero => exact absurd HA.out (by simp [template_zzAt.j0])
    | succ kj2 =>
      have H := HA.out
      clear HA
      simp only [template_zzAt.j0] at H
      by_cases c8 : x21_2 = true
      · subst c8
        have H1 : (some (([] : List ByteArray), 0, false)) = some (r1, r2, r3) := by rw [if_pos rfl] at H; exact H
        clear H
        have H := H1
        clear H1
        simp only [Option.some.injEq, Prod.mk.injEq] at H
        obtain ⟨rfl, rfl, rfl⟩ := H
        go_wp2
        go_ret3
        exact ⟨_, by first | rfl | (simp [errW_none, errW_some] <;> rfl) | (simp [*, errW_none, errW_some] <;> rfl), by first | exact Kd.R_nil _ _ _ _ _ | exact Kd.N_nil _ _ _ _ _ | exact Kd.V_nil _ _ _ _ _ | exact Kd.Q_nil _ _ _ _ _ | exact Kd.S_nil _ _ _ _ _, by repeat (first | (with_reducible first | exact HB.out | apply below_alloc | apply pw_below_drewN | apply below_drew1) | exact HB.out)⟩
      · replace c8 := Bool.eq_false_iff.mpr c8
        subst c8
        have H1 : (if 0 ≤ (wrap64 (a1 + 1)) then (if (wrap64 (a1 + 1)) < (a0.size : Int) then (if (bt a0 (wrap64 (a1 + 1))) = 36 then (some ((([(⟨#[36, 36]⟩ : ByteArray), (⟨#[36]⟩ : ByteArray), (⟨#[]⟩ : ByteArray), (⟨#[]⟩ : ByteArray), (⟨#[]⟩ : ByteArray), (⟨#[]⟩ : ByteArray)] : List ByteArray)), wrap64 (a1 + 2), true)) else ((template_zzName.f kj2 a0 (wrap64 (a1 + 1))).bind fun t106 => (if t106 > (wrap64 (a1 + 1)) then (if 0 ≤ a1 then (if a1 ≤ t106 then (if t106 ≤ (a0.size : Int) then (if (wrap64 (a1 + 1)) ≤ t106 then (some ((([a0.extract (a1 : Int).toNat (t106 : Int).toNat, (⟨#[]⟩ : ByteArray), a0.extract ((wrap64 (a1 + 1)) : Int).toNat (t106 : Int).toNat, (⟨#[]⟩ : ByteArray), (⟨#[]⟩ : ByteArray), (⟨#[]⟩ : ByteArray)] : List ByteArray)), t106, true)) else (none)) else (none)) else (none)) else (none)) else (if (bt a0 (wrap64 (a1 + 1))) = 123 then ((template_zzName.f kj2 a0 (wrap64 (a1 + 2))).bind fun t110 => (if t110 > (wrap64 (a1 + 2)) then (if t110 < (a0.size : Int) then (if 0 ≤ t110 then (template_zzAt.j1 kj2 a0 a1 t110 ((bt a0 t110) == 125)) else (none)) else (template_zzAt.j1 kj2 a0 a1 t110 false)) else (template_zzAt.j1 kj2 a0 a1 t110 false))) else (some (([] : List ByteArray), 0, false)))))) else (none)) else (none)) = some (r1, r2, r3) := by rw [if_neg (show ¬ (false = true) by decide)] at H; exact H
        clear H
        have H := H1
        clear H1
        obtain ⟨ji9, hji9⟩ : ∃ j_ : Int, (wrap64 (a1 + 1)) = j_ := ⟨_, rfl⟩
        replace H : (if 0 ≤ (ji9) then (if (ji9) < (a0.size : Int) then (if (bt a0 (ji9)) = 36 then (some ((([(⟨#[36, 36]⟩ : ByteArray), (⟨#[36]⟩ : ByteArray), (⟨#[]⟩ : ByteArray), (⟨#[]⟩ : ByteArray), (⟨#[]⟩ : ByteArray), (⟨#[]⟩ : ByteArray)] : List ByteArray)), wrap64 (a1 + 2), true)) else ((template_zzName.f kj2 a0 (ji9)).bind fun t106 => (if t106 > (ji9) then (if 0 ≤ a1 then (if a1 ≤ t106 then (if t106 ≤ (a0.size : Int) then (if (ji9) ≤ t106 then (some ((([a0.extract (a1 : Int).toNat (t106 : Int).toNat, (⟨#[]⟩ : ByteArray), a0.extract ((ji9) : Int).toNat (t106 : Int).toNat, (⟨#[]⟩ : ByteArray), (⟨#[]⟩ : ByteArray), (⟨#[]⟩ : ByteArray)] : List ByteArray)), t106, true)) else (none)) else (none)) else (none)) else (none)) else (if (bt a0 (ji9)) = 123 then ((template_zzName.f kj2 a0 (wrap64 (a1 + 2))).bind fun t110 => (if t110 > (wrap64 (a1 + 2)) then (if t110 < (a0.size : Int) then (if 0 ≤ t110 then (template_zzAt.j1 kj2 a0 a1 t110 ((bt a0 t110) == 125)) else (none)) else (template_zzAt.j1 kj2 a0 a1 t110 false)) else (template_zzAt.j1 kj2 a0 a1 t110 false))) else (some (([] : List ByteArray), 0, false)))))) else (none)) else (none)) = some (r1, r2, r3) := by first | (rw [hji9] at H; exact H) | (simp only [hji9] at H ⊢; exact H)
        have hji9w : (IntKind.i64.wrap (a1 + 1)) = ji9 := (i64_w _).trans hji9
        by_cases c10 : 0 ≤ (ji9)
        · rw [if_pos c10] at H
          have c10b0 : decide (0 ≤ (ji9)) = true := decide_eq_true c10
          clear c10
          by_cases c11 : (ji9) < (a0.size : Int)
          · rw [if_pos c11] at H
            have c11b0 : decide ((ji9) < (a0.size : Int)) = true := decide_eq_true c11
            clear c11
            by_cases c13 : (bt a0 (ji9)) = 36
            · rw [if_pos c13] at H
              have c13b0 : ((bt a0 (ji9)) == 36) = true := beq_iff_eq.mpr c13
              have c13b1 : ((bt a0 (ji9)) != 36) = false := bne_eq_false_iff_eq.mpr c13
              clear c13
              obtain ⟨y103, hy103⟩ : ∃ y_ : List ByteArray, y_ = (([(⟨#[36, 36]⟩ : ByteArray), (⟨#[36]⟩ : ByteArray), (⟨#[]⟩ : ByteArray), (⟨#[]⟩ : ByteArray), (⟨#[]⟩ : ByteArray), (⟨#[]⟩ : ByteArray)] : List ByteArray)) := ⟨_, rfl⟩
              replace H : (some (y103, wrap64 (a1 + 2), true)) = some (r1, r2, r3) := by first | (rw [hy103]; with_reducible exact H) | (have H2_ := (Option.bind_some _ _).symm.trans H; rw [hy103]; with_reducible exact H2_) | (have H2_ := (Option.bind_some _ _).symm.trans H; with_reducible exact H2_) | with_reducible exact H | (rw [hy103]; exact H) | exact H
              have Ny103 := Aside0.mk hy103
              clear hy103
              simp only [Option.some.injEq, Prod.mk.injEq] at H
              obtain ⟨rfl, rfl, rfl⟩ := H
              have p12 : 0 ≤ ((ji9) : Int) := of_decide_eq_true (by first | (with_reducible assumption) | assumption)
              have q12 : (ji9) < (a0.size : Int) := of_decide_eq_true (by first | (with_reducible assumption) | assumption)
              have hx12 := bt_at a0 (ji9)
              replace p12 := eq_true p12
              replace q12 := eq_true q12
              go_wp2_with (first | ((with_reducible refine gate_dst (N := 27) rfl ?_); (try (refine gate_guard (by rfl) ?_; dsimp only)); refine Kd.R_lit Kd.string _ 9 ?hg (N := 27) ?hd (xs := ([(⟨#[36, 36]⟩ : ByteArray), (⟨#[36]⟩ : ByteArray), (⟨#[]⟩ : ByteArray), (⟨#[]⟩ : ByteArray), (⟨#[]⟩ : ByteArray), (⟨#[]⟩ : ByteArray)] : List ByteArray)) (inner := [.string (⟨#[36, 36]⟩ : ByteArray), .string (⟨#[36]⟩ : ByteArray), .string (⟨#[]⟩ : ByteArray), .string (⟨#[]⟩ : ByteArray), .string (⟨#[]⟩ : ByteArray), .string (⟨#[]⟩ : ByteArray)]) (ok := fun _ => True) (okp := fun _ => True) ?hr ?hp (fun _ hk => hk) trivial (Below.refl _ _) (Nat.le_refl _) (by simp) ?_; (case hd => rfl); (case hg => rfl); (case hr => first | (go_simp; done) | (go_simp; rfl)); (case hp => exact (Reps.one (show Kd.M Kd.string _ _ _ (⟨#[36, 36]⟩ : ByteArray) [.string (⟨#[36, 36]⟩ : ByteArray)] from rfl) (Reps.one (show Kd.M Kd.string _ _ _ (⟨#[36]⟩ : ByteArray) [.string (⟨#[36]⟩ : ByteArray)] from rfl) (Reps.one (show Kd.M Kd.string _ _ _ (⟨#[]⟩ : ByteArray) [.string (⟨#[]⟩ : ByteArray)] from rfl) (Reps.one (show Kd.M Kd.string _ _ _ (⟨#[]⟩ : ByteArray) [.string (⟨#[]⟩ : ByteArray)] from rfl) (Reps.one (show Kd.M Kd.string _ _ _ (⟨#[]⟩ : ByteArray) [.string (⟨#[]⟩ : ByteArray)] from rfl) (Reps.one (show Kd.M Kd.string _ _ _ (⟨#[]⟩ : ByteArray) [.string (⟨#[]⟩ : ByteArray)] from rfl) (Reps.none _ _)))))))); intro v104 w14 ho15 hb hg_ hnew_; clear hg_ hnew_; (first | rw [← Ny103.out] at ho15 | (simp only [Int.reduceToNat] at ho15; rw [← Ny103.out] at ho15)); have n0_ := Aside0.mk (Kd.R_lower ho15 (below_size (by repeat (first | (with_reducible first | exact HB.out | apply below_alloc | apply pw_below_drewN | apply below_drew1) | exact HB.out)))); have n1_ := Aside0.mk (below_step (by repeat (first | (with_reducible first | exact HB.out | apply below_alloc | apply pw_below_drewN | apply below_drew1) | exact HB.out)) hb); clear HB; have HO105 := n0_; have HB := n1_; clear n0_ n1_; clear hb ho15))
              go_ret3
              exact ⟨_, by first | rfl | (simp [errW_none, errW_some] <;> rfl) | (simp only [← hji9]; first | rfl | (simp [errW_none, errW_some] <;> rfl)) | (simp [*, errW_none, errW_some] <;> rfl), by (with_reducible repeat (first | apply Kd.R_alloc | apply Kd.R_drewN | apply Kd.R_drew)); exact HO105.out, by repeat (first | (with_reducible first | exact HB.out | apply below_alloc | apply pw_below_drewN | apply below_drew1) | exact HB.out)⟩
            · rw [if_neg c13] at H
              have c13b0 : ((bt a0 (ji9)) == 36) = false := beq_eq_false_iff_ne.mpr c13
              have c13b1 : ((bt a0 (ji9)) != 36) = true := bne_iff_ne.mpr c13
              replace H := Option.bind_eq_some_iff.mp H
              obtain ⟨t106, A160, H⟩ := H
              replace H : (if t106 > (ji9) then (if 0 ≤ a1 then (if a1 ≤ t106 then (if t106 ≤ (a0.size : Int) then (if (ji9) ≤ t106 then (some ((([a0.extract (a1 : Int).toNat (t106 : Int).toNat, (⟨#[]⟩ : ByteArray), a0.extract ((ji9) : Int).toNat (t106 : Int).toNat, (⟨#[]⟩ : ByteArray), (⟨#[]⟩ : ByteArray), (⟨#[]⟩ : ByteArray)] : List ByteArray)), t106, true)) else (none)) else (none)) else (none)) else (none)) else (if (bt a0 (ji9)) = 123 then ((template_zzName.f kj2 a0 (wrap64 (a1 + 2))).bind fun t110 => (if t110 > (wrap64 (a1 + 2)) then (if t110 < (a0.size : Int) then (if 0 ≤ t110 then (template_zzAt.j1 kj2 a0 a1 t110 ((bt a0 t110) == 125)) else (none)) else (template_zzAt.j1 kj2 a0 a1 t110 false)) else (template_zzAt.j1 kj2 a0 a1 t110 false))) else (some (([] : List ByteArray), 0, false)))) = some (r1, r2, r3) := H
              have A16 := Aside0.mk A160
              clear A160
              by_cases c17 : t106 > (ji9)
              · rw [if_pos c17] at H
                have c17b0 : decide ((ji9) < t106) = true := decide_eq_true c17
                clear c17
                by_cases c18 : 0 ≤ a1
                · rw [if_pos c18] at H
                  have c18b0 := eq_true c18
                  have c18b1 : decide (0 ≤ a1) = true := decide_eq_true c18
                  clear c18
                  by_cases c19 : a1 ≤ t106
                  · rw [if_pos c19] at H
                    have c19b0 := eq_true c19
                    have c19b1 : decide (a1 ≤ t106) = true := decide_eq_true c19
                    clear c19
                    by_cases c20 : t106 ≤ (a0.size : Int)
                    · rw [if_pos c20] at H
                      have c20b0 := eq_true c20
                      have c20b1 : decide (t106 ≤ (a0.size : Int)) = true := decide_eq_true c20
                      clear c20
                      have c21b0 := eq_true (of_decide_eq_true (by first | (with_reducible assumption) | assumption) : 0 ≤ (ji9))
                      by_cases c22 : (ji9) ≤ t106
                      · rw [if_pos c22] at H
                        have c22b0 := eq_true c22
                        have c22b1 : decide ((ji9) ≤ t106) = true := decide_eq_true c22
                        clear c22
                        have c23b0 := eq_true (of_decide_eq_true (by first | (with_reducible assumption) | assumption) : t106 ≤ (a0.size : Int))
                        obtain ⟨y107, hy107⟩ : ∃ y_ : List ByteArray, y_ = (([a0.extract (a1 : Int).toNat (t106 : Int).toNat, (⟨#[]⟩ : ByteArray), a0.extract ((ji9) : Int).toNat (t106 : Int).toNat, (⟨#[]⟩ : ByteArray), (⟨#[]⟩ : ByteArray), (⟨#[]⟩ : ByteArray)] : List ByteArray)) := ⟨_, rfl⟩
                        replace H : (some (y107, t106, true)) = some (r1, r2, r3) := by first | (rw [hy107]; with_reducible exact H) | (have H2_ := (Option.bind_some _ _).symm.trans H; rw [hy107]; with_reducible exact H2_) | (have H2_ := (Option.bind_some _ _).symm.trans H; with_reducible exact H2_) | with_reducible exact H | (rw [hy107]; exact H) | exact H
                        have Ny107 := Aside0.mk hy107
                        clear hy107
                        simp only [Option.some.injEq, Prod.mk.injEq] at H
                        obtain ⟨rfl, rfl, rfl⟩ := H
                        have p12 : 0 ≤ ((ji9) : Int) := of_decide_eq_true (by first | (with_reducible assumption) | assumption)
                        have q12 : (ji9) < (a0.size : Int) := of_decide_eq_true (by first | (with_reducible assumption) | assumption)
                        have hx12 := bt_at a0 (ji9)
                        replace p12 := eq_true p12
                        replace q12 := eq_true q12
                        try go_wp2_with (first | ((with_reducible refine gate_callee (f := 120) rfl ?_); refine goesL_ (some 33) rfl rfl Tryz.func120 (by kernel_rfl) rfl #[.string a0, .int .i64 ji9] rfl (by (try simp only [List.map_toArray, List.map_cons, List.map_nil]); first | done | (simp only [hji9]; rfl) | rfl | (simp only [List.length_drop, List.length_take]; rfl)) ?_; (with_reducible refine (template_zzName.calls kj2 a0 ji9 t106 _ A16.out).mono ?_); rintro e w' ⟨rfl, ⟨nd, rfl⟩⟩; refine ⟨_, rfl, ?_⟩))
                        (try (rw [drewN_self wc]; generalize hq_ : World.drewN wc _ = wc; have n0_ : Aside0 (Below w.heap.size w wc) := ⟨by rw [← hq_]; exact (by repeat (first | (with_reducible first | exact HB.out | apply below_alloc | apply pw_below_drewN | apply below_drew1) | exact HB.out))⟩; clear HB hq_; have HB := n0_; clear n0_))
                        have n0_ := Aside0.mk (below_drew1 HB.out)
                        clear HB
                        have HB := n0_
                        clear n0_
                        refine start_ (n := 14) (S := fun w' => True) (ds := []) #[false, false, false, false, false, false, false, false, false, false, false, false, false, false] (by kernel_rfl) rfl rfl trivial (fun hHeld => ?_); refine with_tabW template_zzAt.tab7 template_zzAt.bits7 (fun HT_ HW_ => ?_)
                        generalize wc.drew = w24 at HB hHeld ⊢
                        refine pure_ (i := 0) (N := some 38) (v := ?_) (a' := ?_) #[true, false, false, false, false, false, false, false, false, false, false, false, false, false] rfl rfl (any_of HT_.out (by kernel_rfl)) (fun _ _ _ h => h) (Or.inl ⟨by rfl, ?_⟩) ?_ ?_
                        rotate_left
                        · intro w'
                          go_simp
                          with_reducible rfl
                        rotate_left
                        · simp only [Act.put, List.setIfInBounds_toArray, List.set_cons_zero, List.set_cons_succ, i64_w, i32_w]
                          rfl
                        refine pure_ (i := 1) (N := some 39) (v := ?_) (a' := ?_) #[true, true, false, false, false, false, false, false, false, false, false, false, false, false] rfl rfl (any_of HT_.out (by kernel_rfl)) (fun _ _ _ h => h) (Or.inl ⟨by rfl, ?_⟩) ?_ ?_
                        rotate_left
                        · intro w'
                          go_simp
                          with_reducible rfl
                        rotate_left
                        · simp only [Act.put, List.setIfInBounds_toArray, List.set_cons_zero, List.set_cons_succ, i64_w, i32_w]
                          rfl
                        refine pure_ (i := 2) (N := some 40) (v := ?_) (a' := ?_) #[true, true, true, false, false, false, false, false, false, false, false, false, false, false] rfl rfl (any_of HT_.out (by kernel_rfl)) (fun _ _ _ h => h) (Or.inl ⟨by rfl, ?_⟩) ?_ ?_
                        rotate_left
                        · intro w'
                          go_simp
                          with_reducible rfl
                        rotate_left
                        · simp only [Act.put, List.setIfInBounds_toArray, List.set_cons_zero, List.set_cons_succ, i64_w, i32_w]
                          rfl
                        refine pure_ (i := 3) (N := some 41) (v := ?_) (a' := ?_) #[true, true, true, true, false, false, false, false, false, false, false, false, false, false] rfl rfl (any_of HT_.out (by kernel_rfl)) (fun _ _ _ h => h) (Or.inl ⟨by rfl, ?_⟩) ?_ ?_
                        rotate_left
                        · intro w'
                          go_simp
                          with_reducible rfl
                        rotate_left
                        · simp only [Act.put, List.setIfInBounds_toArray, List.set_cons_zero, List.set_cons_succ, i64_w, i32_w]
                          rfl
                        refine pure_ (i := 4) (N := some 42) (v := ?_) (a' := ?_) #[true, true, true, true, true, false, false, false, false, false, false, false, false, false] rfl rfl (any_of HT_.out (by kernel_rfl)) (fun _ _ _ h => h) (Or.inl ⟨by rfl, ?_⟩) ?_ ?_
                        rotate_left
                        · intro w'
                          go_simp
                          with_reducible rfl
                        rotate_left
                        · simp only [Act.put, List.setIfInBounds_toArray, List.set_cons_zero, List.set_cons_succ, i64_w, i32_w]
                          rfl
                        refine pure_ (i := 5) (N := some 43) (v := ?_) (a' := ?_) #[true, true, true, true, true, true, false, false, false, false, false, false, false, false] rfl rfl (any_of HT_.out (by kernel_rfl)) (fun _ _ _ h => h) (Or.inl ⟨by rfl, ?_⟩) ?_ ?_
                        rotate_left
                        · intro w'
                          go_simp
                          with_reducible rfl
                        rotate_left
                        · simp only [Act.put, List.setIfInBounds_toArray, List.set_cons_zero, List.set_cons_succ, i64_w, i32_w]
                          rfl
                        refine pure_ (i := 6) (N := some 44) (v := ?_) (a' := ?_) #[true, true, true, true, true, true, true, false, false, false, false, false, false, false] rfl rfl (any_of HT_.out (by kernel_rfl)) (fun _ _ _ h => h) (Or.inl ⟨by rfl, ?_⟩) ?_ ?_
                        rotate_left
                        · intro w'
                          go_simp
                          with_reducible rfl
                        rotate_left
                        · simp only [Act.put, List.setIfInBounds_toArray, List.set_cons_zero, List.set_cons_succ, i64_w, i32_w]
                          rfl
                        refine pure_ (i := 7) (N := some 45) (v := ?_) (a' := ?_) #[true, true, true, true, true, true, true, true, false, false, false, false, false, false] rfl rfl (any_of HT_.out (by kernel_rfl)) (fun _ _ _ h => h) (Or.inl ⟨by rfl, ?_⟩) ?_ ?_
                        rotate_left
                        · intro w'
                          go_simp
                          with_reducible rfl
                        rotate_left
                        · simp only [Act.put, List.setIfInBounds_toArray, List.set_cons_zero, List.set_cons_succ, i64_w, i32_w]
                          rfl
                        refine pure_ (i := 8) (N := some 46) (v := ?_) (a' := ?_) #[true, true, true, true, true, true, true, true, true, false, false, false, false, false] rfl rfl (any_of HT_.out (by kernel_rfl)) (fun _ _ _ h => h) (Or.inl ⟨by rfl, ?_⟩) ?_ ?_
                        rotate_left
                        · intro w'
                          go_simp
                          with_reducible rfl
                        rotate_left
                        · simp only [Act.put, List.setIfInBounds_toArray, List.set_cons_zero, List.set_cons_succ, i64_w, i32_w]
                          rfl
                        refine pure_ (i := 10) (N := some 48) (v := ?_) (a' := ?_) #[true, true, true, true, true, true, true, true, true, false, true, false, false, false] rfl rfl (any_of HT_.out (by kernel_rfl)) (fun _ _ _ h => h) (Or.inl ⟨by rfl, ?_⟩) ?_ ?_
                        rotate_left
                        · intro w'
                          go_simp
                          with_reducible rfl
                        rotate_left
                        · simp only [Act.put, List.setIfInBounds_toArray, List.set_cons_zero, List.set_cons_succ, i64_w, i32_w]
                          rfl
                        refine one_ (i := 9) (N := some 47) #[true, true, true, true, true, true, true, true, true, true, true, false, false, false] rfl rfl (one_of HT_.out (by kernel_rfl)) (by decide) (fun K hK => ?_)
                        refine Kd.R_lit_step Kd.string _ 9 ?hg (N := 47) ?hd (xs := ([a0.extract (a1 : Int).toNat (t106 : Int).toNat, (⟨#[]⟩ : ByteArray), a0.extract ((ji9) : Int).toNat (t106 : Int).toNat, (⟨#[]⟩ : ByteArray), (⟨#[]⟩ : ByteArray), (⟨#[]⟩ : ByteArray)] : List ByteArray)) (inner := [.string (a0.extract (a1 : Int).toNat (t106 : Int).toNat), .string (⟨#[]⟩ : ByteArray), .string (a0.extract ((ji9) : Int).toNat (t106 : Int).toNat), .string (⟨#[]⟩ : ByteArray), .string (⟨#[]⟩ : ByteArray), .string (⟨#[]⟩ : ByteArray)]) (ok := fun _ => True) (okp := fun _ => True) ?hr ?hp (fun _ hk => hk) trivial (Below.refl _ _) (Nat.le_refl _) (by simp) ?_; (case hd => rfl); (case hg => rfl); (case hr => first | (go_simp; done) | (go_simp; rfl)); (case hp => exact (Reps.one (show Kd.M Kd.string _ _ _ (a0.extract (a1 : Int).toNat (t106 : Int).toNat) [.string (a0.extract (a1 : Int).toNat (t106 : Int).toNat)] from rfl) (Reps.one (show Kd.M Kd.string _ _ _ (⟨#[]⟩ : ByteArray) [.string (⟨#[]⟩ : ByteArray)] from rfl) (Reps.one (show Kd.M Kd.string _ _ _ (a0.extract ((ji9) : Int).toNat (t106 : Int).toNat) [.string (a0.extract ((ji9) : Int).toNat (t106 : Int).toNat)] from rfl) (Reps.one (show Kd.M Kd.string _ _ _ (⟨#[]⟩ : ByteArray) [.string (⟨#[]⟩ : ByteArray)] from rfl) (Reps.one (show Kd.M Kd.string _ _ _ (⟨#[]⟩ : ByteArray) [.string (⟨#[]⟩ : ByteArray)] from rfl) (Reps.one (show Kd.M Kd.string _ _ _ (⟨#[]⟩ : ByteArray) [.string (⟨#[]⟩ : ByteArray)] from rfl) (Reps.none _ _))))))))
                        intro v108 w25 ho26 hb hg_ hnew_
                        clear hg_ hnew_
                        (first | rw [← Ny107.out] at ho26 | (simp only [Int.reduceToNat] at ho26; rw [← Ny107.out] at ho26))
                        have n0_ := Aside0.mk (Kd.R_lower ho26 (below_size (by repeat (first | (with_reducible first | exact HB.out | apply below_alloc | apply pw_below_drewN | apply below_drew1) | exact HB.out))))
                        have n1_ := Aside0.mk (below_step (by repeat (first | (with_reducible first | exact HB.out | apply below_alloc | apply pw_below_drewN | apply below_drew1) | exact HB.out)) hb)
                        clear HB
                        have HO109 := n0_
                        have HB := n1_
                        clear n0_ n1_
                        clear hb ho26
                        refine hK.out _ _ trivial (fun hHeld => ?_)
                        clear hK K
                        refine norm_ (a' := ?_) ?_ ?_
                        rotate_left
                        · show Act.put _ (some 47) _ = _
                          simp only [Act.put, List.setIfInBounds_toArray, List.set_cons_zero, List.set_cons_succ, i64_w, i32_w]
                          rfl
                        refine pure_ (i := 11) (N := some 4) (v := ?_) (a' := ?_) #[true, true, true, true, true, true, true, true, true, true, true, true, false, false] rfl rfl (any_of HT_.out (by kernel_rfl)) (fun _ _ _ h => h) (Or.inl ⟨by rfl, ?_⟩) ?_ ?_
                        rotate_left
                        · intro w'
                          go_simp
                          with_reducible rfl
                        rotate_left
                        · simp only [Act.put, List.setIfInBounds_toArray, List.set_cons_zero, List.set_cons_succ, i64_w, i32_w]
                          rfl
                        refine pure_ (i := 12) (N := some 5) (v := ?_) (a' := ?_) #[true, true, true, true, true, true, true, true, true, true, true, true, true, false] rfl rfl (any_of HT_.out (by kernel_rfl)) (fun _ _ _ h => h) (Or.inl ⟨by rfl, ?_⟩) ?_ ?_
                        rotate_left
                        · intro w'
                          go_simp
                          with_reducible rfl
                        rotate_left
                        · simp only [Act.put, List.setIfInBounds_toArray, List.set_cons_zero, List.set_cons_succ, i64_w, i32_w]
                          rfl
                        refine pure_ (i := 13) (N := some 6) (v := ?_) (a' := ?_) #[true, true, true, true, true, true, true, true, true, true, true, true, true, true] rfl rfl (any_of HT_.out (by kernel_rfl)) (fun _ _ _ h => h) (Or.inl ⟨by rfl, ?_⟩) ?_ ?_
                        rotate_left
                        · intro w'
                          go_simp
                          with_reducible rfl
                        rotate_left
                        · simp only [Act.put, List.setIfInBounds_toArray, List.set_cons_zero, List.set_cons_succ, i64_w, i32_w]
                          rfl
                        refine done_ (done_of HT_.out (by kernel_rfl)) ?_
                        try go_wp2
                        go_ret3
                        exact ⟨_, by first | rfl | (simp [errW_none, errW_some] <;> rfl) | (simp only [← hji9]; first | rfl | (simp [errW_none, errW_some] <;> rfl)) | (simp [*, errW_none, errW_some] <;> rfl), by (with_reducible repeat (first | apply Kd.R_alloc | apply Kd.R_drewN | apply Kd.R_drew)); exact HO109.out, by repeat (first | (with_reducible first | exact HB.out | apply below_alloc | apply pw_below_drewN | apply below_drew1) | exact HB.out)⟩
                      · rw [if_neg c22] at H
                        exact absurd H (by simp)
                    · rw [if_neg c20] at H
                      exact absurd H (by simp)
                  · rw [if_neg c19] at H
                    exact absurd H (by simp)
                · rw [if_neg c18] at H
                  exact absurd H (by simp)
              · rw [if_neg c17] at H
                have c17b0 : decide ((ji9) < t106) = false := decide_eq_false c17
                clear c17
                by_cases c28 : (bt a0 (ji9)) = 123
                · rw [if_pos c28] at H
                  have c28b0 : ((bt a0 (ji9)) == 123) = true := beq_iff_eq.mpr c28
                  have c28b1 : ((bt a0 (ji9)) != 123) = false := bne_eq_false_iff_eq.mpr c28
                  clear c28
                  replace H := Option.bind_eq_some_iff.mp H
                  obtain ⟨t110, A290, H⟩ := H
                  replace H : (if t110 > (wrap64 (a1 + 2)) then (if t110 < (a0.size : Int) then (if 0 ≤ t110 then (template_zzAt.j1 kj2 a0 a1 t110 ((bt a0 t110) == 125)) else (none)) else (template_zzAt.j1 kj2 a0 a1 t110 false)) else (template_zzAt.j1 kj2 a0 a1 t110 false)) = some (r1, r2, r3) := H
                  have A29 := Aside0.mk A290
                  clear A290
                  have HC30 := Aside0.mk H
                  clear H
                  have p12 : 0 ≤ ((ji9) : Int) := of_decide_eq_true (by first | (with_reducible assumption) | assumption)
                  have q12 : (ji9) < (a0.size : Int) := of_decide_eq_true (by first | (with_reducible assumption) | assumption)
                  have hx12 := bt_at a0 (ji9)
                  replace p12 := eq_true p12
                  replace q12 := eq_true q12
                  go_upto_region 11 with (first | ((with_reducible refine gate_callee (f := 120) rfl ?_); refine goesL_ (some 33) rfl rfl Tryz.func120 (by kernel_rfl) rfl #[.string a0, .int .i64 ji9] rfl (by (try simp only [List.map_toArray, List.map_cons, List.map_nil]); first | done | (simp only [hji9]; rfl) | rfl | (simp only [List.length_drop, List.length_take]; rfl)) ?_; (with_reducible refine (template_zzName.calls kj2 a0 ji9 t106 _ A16.out).mono ?_); rintro e w' ⟨rfl, ⟨nd, rfl⟩⟩; refine ⟨_, rfl, ?_⟩; have p27 : 0 ≤ ((ji9) : Int) := of_decide_eq_true (by first | (with_reducible assumption) | assumption); have q27 : (ji9) < (a0.size : Int) := of_decide_eq_true (by first | (with_reducible assumption) | assumption); have hx27 := bt_at a0 (ji9); replace p27 := eq_true p27; replace q27 := eq_true q27) | ((with_reducible refine gate_callee (f := 120) rfl ?_); refine goesL_ (some 57) rfl rfl Tryz.func120 (by kernel_rfl) rfl #[.string a0, .int .i64 (wrap64 (a1 + 2))] rfl (by (try simp only [List.map_toArray, List.map_cons, List.map_nil]); first | done | rfl | (simp only [List.length_drop, List.length_take]; rfl)) ?_; (with_reducible refine (template_zzName.calls kj2 a0 (wrap64 (a1 + 2)) t110 _ A29.out).mono ?_); rintro e w' ⟨rfl, ⟨nd, rfl⟩⟩; refine ⟨_, rfl, ?_⟩))
                  (try simp only [Act.put, List.setIfInBounds_toArray, List.set_cons_zero, List.set_cons_succ])
                  go_cut [73] (fun v73 wc => ∃ (kq : Nat) (x73_29 : Bool), v73 = .bool x73_29 ∧ Aside0 (template_zzAt.j1 kq a0 a1 t110 x73_29 = some (r1, r2, r3)) ∧ Aside0 (kq ≤ kj2) ∧ Aside0 (Below w.heap.size w wc))
                  case first =>
                    have H := HC30.out
                    clear HC30
                    by_cases c31 : t110 > (wrap64 (a1 + 2))
                    · rw [if_pos c31] at H
                      have c31b0 : decide ((wrap64 (a1 + 2)) < t110) = true := decide_eq_true c31
                      clear c31
                      (first | rw [c31b0] | (simp only [i64_w, i32_w]; rw [c31b0]) | skip)
                      by_cases c32 : t110 < (a0.size : Int)
                      · rw [if_pos c32] at H
                        have c32b0 : decide (t110 < (a0.size : Int)) = true := decide_eq_true c32
                        clear c32
                        by_cases c33 : 0 ≤ t110
                        · rw [if_pos c33] at H
                          have c33b0 : decide (0 ≤ t110) = true := decide_eq_true c33
                          clear c33
                          have H' := Aside0.mk H
                          clear H
                          have p34 : 0 ≤ (t110 : Int) := of_decide_eq_true (by first | (with_reducible assumption) | assumption)
                          have q34 : t110 < (a0.size : Int) := of_decide_eq_true (by first | (with_reducible assumption) | assumption)
                          have hx34 := bt_at a0 t110
                          replace p34 := eq_true p34
                          replace q34 := eq_true q34
                          go_wp2
                          go_meet
                          case rel => exact ⟨_, (((bt a0 t110) == 125)), (by first | rfl | (simp; done) | (simp [*]; done)), H', ⟨by have := HJ2.out; first | omega | exact Nat.le_refl _⟩, ⟨by repeat (first | (with_reducible first | exact HB.out | apply below_alloc | apply pw_below_drewN | apply below_drew1) | exact HB.out)⟩⟩
                        · rw [if_neg c33] at H
                          exact absurd H (by simp)
                      · rw [if_neg c32] at H
                        have c32b0 : decide (t110 < (a0.size : Int)) = false := decide_eq_false c32
                        clear c32
                        have H' := Aside0.mk H
                        clear H
                        go_wp2
                        go_meet
                        case rel => exact ⟨_, (false), (by first | rfl | (simp; done) | (simp [*]; done)), H', ⟨by have := HJ2.out; first | omega | exact Nat.le_refl _⟩, ⟨by repeat (first | (with_reducible first | exact HB.out | apply below_alloc | apply pw_below_drewN | apply below_drew1) | exact HB.out)⟩⟩
                    · rw [if_neg c31] at H
                      have c31b0 : decide ((wrap64 (a1 + 2)) < t110) = false := decide_eq_false c31
                      clear c31
                      (first | rw [c31b0] | (simp only [i64_w, i32_w]; rw [c31b0]) | skip)
                      have H' := Aside0.mk H
                      clear H
                      go_wp2
                      go_meet
                      case rel => exact ⟨_, (false), (by first | rfl | (simp; done) | (simp [*]; done)), H', ⟨by have := HJ2.out; first | omega | exact Nat.le_refl _⟩, ⟨by repeat (first | (with_reducible first | exact HB.out | apply below_alloc | apply pw_below_drewN | apply below_drew1) | exact HB.out)⟩⟩
                  case rest =>
                    clear HC30
                    try clear c1
                    try clear p1
                    try clear q1
                    try clear hx1
                    try clear c2
                    try clear p2
                    try clear q2
                    try clear hx2
                    try clear c3
                    try clear p3
                    try clear q3
                    try clear hx3
                    try clear c4
                    try clear c4b0
                    try clear c5
                    try clear c5b0
                    try clear c6
                    try clear c6b0
                    try clear p6
                    try clear p7
                    try clear q7
                    try clear hx7
                    try clear c8
                    try clear c10
                    try clear c10b0
                    try clear c11
                    try clear c11b0
                    try clear c12
                    try clear p12
                    try clear q12
                    try clear hx12
                    try clear c13
                    try clear c13b0
                    try clear c13b1
                    try clear c17
                    try clear c17b0
                    try clear c18
                    try clear c18b0
                    try clear c18b1
                    try clear c19
                    try clear c19b0
                    try clear c19b1
                    try clear c20
                    try clear c20b0
                    try clear c20b1
                    try clear c21
                    try clear c21b0
                    try clear c22
                    try clear c22b0
                    try clear c22b1
                    try clear c23
                    try clear c23b0
                    try clear p27
                    try clear q27
                    try clear hx27
                    try clear c28
                    try clear c28b0
                    try clear c28b1
                    try clear c31
                    try clear c31b0
                    try clear c32
                    try clear c32b0
                    try clear c33
                    try clear c33b0
                    try clear p34
                    try clear q34
                    try clear hx34
                    try clear p12
                    try clear p2
                    try clear p27
                    try clear p34
                    try clear p6
                    try clear p7
                    try clear q12
                    try clear q27
                    try clear q34
                    try clear q7
                    obtain ⟨kq, x73_29, rfl, HA, HJ29, HB⟩ := hcut
                    cases kq with
                    | zero => exact absurd HA.out (by simp [template_zzAt.j1])
                    | succ kj29 =>
                      have H := HA.out
                      clear HA
                      simp only [template_zzAt.j1] at H
                      by_cases c35 : x73_29 = true
                      · subst c35
                        have H1 : (if 0 ≤ a1 then (if a1 ≤ (wrap64 (t110 + 1)) then (if (wrap64 (t110 + 1)) ≤ (a0.size : Int) then (if 0 ≤ (wrap64 (a1 + 2)) then (if (wrap64 (a1 + 2)) ≤ t110 then (if t110 ≤ (a0.size : Int) then (some ((([a0.extract (a1 : Int).toNat ((wrap64 (t110 + 1)) : Int).toNat, (⟨#[]⟩ : ByteArray), (⟨#[]⟩ : ByteArray), a0.extract ((wrap64 (a1 + 2)) : Int).toNat (t110 : Int).toNat, (⟨#[]⟩ : ByteArray), (⟨#[]⟩ : ByteArray)] : List ByteArray)), wrap64 (t110 + 1), true)) else (none)) else (none)) else (none)) else (none)) else (none)) else (none)) = some (r1, r2, r3) := by rw [if_pos rfl] at H; exact H
                        clear H
                        have H := H1
                        clear H1
                        by_cases c36 : 0 ≤ a1
                        · rw [if_pos c36] at H
                          have c36b0 := eq_true c36
                          have c36b1 : decide (0 ≤ a1) = true := decide_eq_true c36
                          clear c36
                          by_cases c37 : a1 ≤ (wrap64 (t110 + 1))
                          · rw [if_pos c37] at H
                            have c37b0 := eq_true c37
                            have c37b1 : decide (a1 ≤ (wrap64 (t110 + 1))) = true := decide_eq_true c37
                            by_cases c38 : (wrap64 (t110 + 1)) ≤ (a0.size : Int)
                            · rw [if_pos c38] at H
                              have c38b0 := eq_true c38
                              have c38b1 : decide ((wrap64 (t110 + 1)) ≤ (a0.size : Int)) = true := decide_eq_true c38
                              obtain ⟨ji39, hji39⟩ : ∃ j_ : Int, (wrap64 (a1 + 2)) = j_ := ⟨_, rfl⟩
                              replace H : (if 0 ≤ (ji39) then (if (ji39) ≤ t110 then (if t110 ≤ (a0.size : Int) then (some ((([a0.extract (a1 : Int).toNat ((wrap64 (t110 + 1)) : Int).toNat, (⟨#[]⟩ : ByteArray), (⟨#[]⟩ : ByteArray), a0.extract ((ji39) : Int).toNat (t110 : Int).toNat, (⟨#[]⟩ : ByteArray), (⟨#[]⟩ : ByteArray)] : List ByteArray)), wrap64 (t110 + 1), true)) else (none)) else (none)) else (none)) = some (r1, r2, r3) := by first | (rw [hji39] at H; exact H) | (simp only [hji39] at H ⊢; exact H)
                              have hji39w : (IntKind.i64.wrap (a1 + 2)) = ji39 := (i64_w _).trans hji39
                              by_cases c40 : 0 ≤ (ji39)
                              · rw [if_pos c40] at H
                                have c40b0 := eq_true c40
                                have c40b1 : decide (0 ≤ (ji39)) = true := decide_eq_true c40
                                clear c40
                                by_cases c41 : (ji39) ≤ t110
                                · rw [if_pos c41] at H
                                  have c41b0 := eq_true c41
                                  have c41b1 : decide ((ji39) ≤ t110) = true := decide_eq_true c41
                                  clear c41
                                  by_cases c42 : t110 ≤ (a0.size : Int)
                                  · rw [if_pos c42] at H
                                    have c42b0 := eq_true c42
                                    have c42b1 : decide (t110 ≤ (a0.size : Int)) = true := decide_eq_true c42
                                    clear c42
                                    obtain ⟨y111, hy111⟩ : ∃ y_ : List ByteArray, y_ = (([a0.extract (a1 : Int).toNat ((wrap64 (t110 + 1)) : Int).toNat, (⟨#[]⟩ : ByteArray), (⟨#[]⟩ : ByteArray), a0.extract ((ji39) : Int).toNat (t110 : Int).toNat, (⟨#[]⟩ : ByteArray), (⟨#[]⟩ : ByteArray)] : List ByteArray)) := ⟨_, rfl⟩
                                    replace H : (some (y111, wrap64 (t110 + 1), true)) = some (r1, r2, r3) := by first | (rw [hy111]; with_reducible exact H) | (have H2_ := (Option.bind_some _ _).symm.trans H; rw [hy111]; with_reducible exact H2_) | (have H2_ := (Option.bind_some _ _).symm.trans H; with_reducible exact H2_) | with_reducible exact H | (rw [hy111]; exact H) | exact H
                                    have Ny111 := Aside0.mk hy111
                                    clear hy111
                                    simp only [Option.some.injEq, Prod.mk.injEq] at H
                                    obtain ⟨rfl, rfl, rfl⟩ := H
                                    try go_wp2
                                    have n0_ := Aside0.mk (below_drew1 HB.out)
                                    clear HB
                                    have HB := n0_
                                    clear n0_
                                    refine start_ (n := 16) (S := fun w' => True) (ds := []) #[false, false, false, false, false, false, false, false, false, false, false, false, false, false, false, false] (by kernel_rfl) rfl rfl trivial (fun hHeld => ?_); refine with_tabW template_zzAt.tab12 template_zzAt.bits12 (fun HT_ HW_ => ?_)
                                    generalize wc.drew = w43 at HB hHeld ⊢
                                    refine pure_ (i := 0) (N := some 74) (v := ?_) (a' := ?_) #[true, false, false, false, false, false, false, false, false, false, false, false, false, false, false, false] rfl rfl (any_of HT_.out (by kernel_rfl)) (fun _ _ _ h => h) (Or.inl ⟨by rfl, ?_⟩) ?_ ?_
                                    rotate_left
                                    · intro w'
                                      go_simp
                                      with_reducible rfl
                                    rotate_left
                                    · simp only [Act.put, List.setIfInBounds_toArray, List.set_cons_zero, List.set_cons_succ, i64_w, i32_w]
                                      rfl
                                    refine pure_ (i := 1) (N := some 75) (v := ?_) (a' := ?_) #[true, true, false, false, false, false, false, false, false, false, false, false, false, false, false, false] rfl rfl (any_of HT_.out (by kernel_rfl)) (fun _ _ _ h => h) (Or.inl ⟨by rfl, ?_⟩) ?_ ?_
                                    rotate_left
                                    · intro w'
                                      go_simp
                                      with_reducible rfl
                                    rotate_left
                                    · simp only [Act.put, List.setIfInBounds_toArray, List.set_cons_zero, List.set_cons_succ, i64_w, i32_w]
                                      rfl
                                    refine pure_ (i := 2) (N := some 76) (v := ?_) (a' := ?_) #[true, true, true, false, false, false, false, false, false, false, false, false, false, false, false, false] rfl rfl (any_of HT_.out (by kernel_rfl)) (fun _ _ _ h => h) (Or.inl ⟨by rfl, ?_⟩) ?_ ?_
                                    rotate_left
                                    · intro w'
                                      go_simp
                                      with_reducible rfl
                                    rotate_left
                                    · simp only [Act.put, List.setIfInBounds_toArray, List.set_cons_zero, List.set_cons_succ, i64_w, i32_w]
                                      rfl
                                    refine pure_ (i := 3) (N := some 77) (v := ?_) (a' := ?_) #[true, true, true, true, false, false, false, false, false, false, false, false, false, false, false, false] rfl rfl (any_of HT_.out (by kernel_rfl)) (fun _ _ _ h => h) (Or.inl ⟨by rfl, ?_⟩) ?_ ?_
                                    rotate_left
                                    · intro w'
                                      go_simp
                                      with_reducible rfl
                                    rotate_left
                                    · simp only [Act.put, List.setIfInBounds_toArray, List.set_cons_zero, List.set_cons_succ, i64_w, i32_w]
                                      rfl
                                    refine pure_ (i := 4) (N := some 78) (v := ?_) (a' := ?_) #[true, true, true, true, true, false, false, false, false, false, false, false, false, false, false, false] rfl rfl (any_of HT_.out (by kernel_rfl)) (fun _ _ _ h => h) (Or.inl ⟨by rfl, ?_⟩) ?_ ?_
                                    rotate_left
                                    · intro w'
                                      go_simp
                                      with_reducible rfl
                                    rotate_left
                                    · simp only [Act.put, List.setIfInBounds_toArray, List.set_cons_zero, List.set_cons_succ, i64_w, i32_w]
                                      rfl
                                    refine pure_ (i := 5) (N := some 79) (v := ?_) (a' := ?_) #[true, true, true, true, true, true, false, false, false, false, false, false, false, false, false, false] rfl rfl (any_of HT_.out (by kernel_rfl)) (fun _ _ _ h => h) (Or.inl ⟨by rfl, ?_⟩) ?_ ?_
                                    rotate_left
                                    · intro w'
                                      go_simp
                                      with_reducible rfl
                                    rotate_left
                                    · simp only [Act.put, List.setIfInBounds_toArray, List.set_cons_zero, List.set_cons_succ, i64_w, i32_w]
                                      rfl
                                    refine pure_ (i := 6) (N := some 80) (v := ?_) (a' := ?_) #[true, true, true, true, true, true, true, false, false, false, false, false, false, false, false, false] rfl rfl (any_of HT_.out (by kernel_rfl)) (fun _ _ _ h => h) (Or.inl ⟨by rfl, ?_⟩) ?_ ?_
                                    rotate_left
                                    · intro w'
                                      go_simp
                                      with_reducible rfl
                                    rotate_left
                                    · simp only [Act.put, List.setIfInBounds_toArray, List.set_cons_zero, List.set_cons_succ, i64_w, i32_w]
                                      rfl
                                    refine pure_ (i := 7) (N := some 81) (v := ?_) (a' := ?_) #[true, true, true, true, true, true, true, true, false, false, false, false, false, false, false, false] rfl rfl (any_of HT_.out (by kernel_rfl)) (fun _ _ _ h => h) (Or.inl ⟨by rfl, ?_⟩) ?_ ?_
                                    rotate_left
                                    · intro w'
                                      go_simp
                                      with_reducible rfl
                                    rotate_left
                                    · simp only [Act.put, List.setIfInBounds_toArray, List.set_cons_zero, List.set_cons_succ, i64_w, i32_w]
                                      rfl
                                    refine pure_ (i := 8) (N := some 82) (v := ?_) (a' := ?_) #[true, true, true, true, true, true, true, true, true, false, false, false, false, false, false, false] rfl rfl (any_of HT_.out (by kernel_rfl)) (fun _ _ _ h => h) (Or.inl ⟨by rfl, ?_⟩) ?_ ?_
                                    rotate_left
                                    · intro w'
                                      go_simp
                                      with_reducible rfl
                                    rotate_left
                                    · simp only [Act.put, List.setIfInBounds_toArray, List.set_cons_zero, List.set_cons_succ, i64_w, i32_w]
                                      rfl
                                    refine pure_ (i := 9) (N := some 83) (v := ?_) (a' := ?_) #[true, true, true, true, true, true, true, true, true, true, false, false, false, false, false, false] rfl rfl (any_of HT_.out (by kernel_rfl)) (fun _ _ _ h => h) (Or.inl ⟨by rfl, ?_⟩) ?_ ?_
                                    rotate_left
                                    · intro w'
                                      go_simp
                                      with_reducible rfl
                                    rotate_left
                                    · simp only [Act.put, List.setIfInBounds_toArray, List.set_cons_zero, List.set_cons_succ, i64_w, i32_w]
                                      rfl
                                    refine pure_ (i := 11) (N := some 85) (v := ?_) (a' := ?_) #[true, true, true, true, true, true, true, true, true, true, false, true, false, false, false, false] rfl rfl (any_of HT_.out (by kernel_rfl)) (fun _ _ _ h => h) (Or.inl ⟨by rfl, ?_⟩) ?_ ?_
                                    rotate_left
                                    · intro w'
                                      go_simp
                                      with_reducible rfl
                                    rotate_left
                                    · simp only [Act.put, List.setIfInBounds_toArray, List.set_cons_zero, List.set_cons_succ, i64_w, i32_w]
                                      rfl
                                    refine pure_ (i := 12) (N := some 86) (v := ?_) (a' := ?_) #[true, true, true, true, true, true, true, true, true, true, false, true, true, false, false, false] rfl rfl (any_of HT_.out (by kernel_rfl)) (fun _ _ _ h => h) (Or.inl ⟨by rfl, ?_⟩) ?_ ?_
                                    rotate_left
                                    · intro w'
                                      go_simp
                                      with_reducible rfl
                                    rotate_left
                                    · simp only [Act.put, List.setIfInBounds_toArray, List.set_cons_zero, List.set_cons_succ, i64_w, i32_w]
                                      rfl
                                    refine one_ (i := 10) (N := some 84) #[true, true, true, true, true, true, true, true, true, true, true, true, true, false, false, false] rfl rfl (one_of HT_.out (by kernel_rfl)) (by decide) (fun K hK => ?_)
                                    refine Kd.R_lit_step Kd.string _ 9 ?hg (N := 84) ?hd (xs := ([a0.extract (a1 : Int).toNat ((wrap64 (t110 + 1)) : Int).toNat, (⟨#[]⟩ : ByteArray), (⟨#[]⟩ : ByteArray), a0.extract ((ji39) : Int).toNat (t110 : Int).toNat, (⟨#[]⟩ : ByteArray), (⟨#[]⟩ : ByteArray)] : List ByteArray)) (inner := [.string (a0.extract (a1 : Int).toNat ((wrap64 (t110 + 1)) : Int).toNat), .string (⟨#[]⟩ : ByteArray), .string (⟨#[]⟩ : ByteArray), .string (a0.extract ((ji39) : Int).toNat (t110 : Int).toNat), .string (⟨#[]⟩ : ByteArray), .string (⟨#[]⟩ : ByteArray)]) (ok := fun _ => True) (okp := fun _ => True) ?hr ?hp (fun _ hk => hk) trivial (Below.refl _ _) (Nat.le_refl _) (by simp) ?_; (case hd => rfl); (case hg => rfl); (case hr => first | (go_simp; done) | (go_simp; rfl)); (case hp => exact (Reps.one (show Kd.M Kd.string _ _ _ (a0.extract (a1 : Int).toNat ((wrap64 (t110 + 1)) : Int).toNat) [.string (a0.extract (a1 : Int).toNat ((wrap64 (t110 + 1)) : Int).toNat)] from rfl) (Reps.one (show Kd.M Kd.string _ _ _ (⟨#[]⟩ : ByteArray) [.string (⟨#[]⟩ : ByteArray)] from rfl) (Reps.one (show Kd.M Kd.string _ _ _ (⟨#[]⟩ : ByteArray) [.string (⟨#[]⟩ : ByteArray)] from rfl) (Reps.one (show Kd.M Kd.string _ _ _ (a0.extract ((ji39) : Int).toNat (t110 : Int).toNat) [.string (a0.extract ((ji39) : Int).toNat (t110 : Int).toNat)] from rfl) (Reps.one (show Kd.M Kd.string _ _ _ (⟨#[]⟩ : ByteArray) [.string (⟨#[]⟩ : ByteArray)] from rfl) (Reps.one (show Kd.M Kd.string _ _ _ (⟨#[]⟩ : ByteArray) [.string (⟨#[]⟩ : ByteArray)] from rfl) (Reps.none _ _))))))))
                                    intro v112 w44 ho45 hb hg_ hnew_
                                    clear hg_ hnew_
                                    (first | rw [← Ny111.out] at ho45 | (simp only [Int.reduceToNat] at ho45; rw [← Ny111.out] at ho45))
                                    have n0_ := Aside0.mk (Kd.R_lower ho45 (below_size (by repeat (first | (with_reducible first | exact HB.out | apply below_alloc | apply pw_below_drewN | apply below_drew1) | exact HB.out))))
                                    have n1_ := Aside0.mk (below_step (by repeat (first | (with_reducible first | exact HB.out | apply below_alloc | apply pw_below_drewN | apply below_drew1) | exact HB.out)) hb)
                                    clear HB
                                    have HO113 := n0_
                                    have HB := n1_
                                    clear n0_ n1_
                                    clear hb ho45
                                    refine hK.out _ _ trivial (fun hHeld => ?_)
                                    clear hK K
                                    refine norm_ (a' := ?_) ?_ ?_
                                    rotate_left
                                    · show Act.put _ (some 84) _ = _
                                      simp only [Act.put, List.setIfInBounds_toArray, List.set_cons_zero, List.set_cons_succ, i64_w, i32_w]
                                      rfl
                                    refine pure_ (i := 13) (N := some 4) (v := ?_) (a' := ?_) #[true, true, true, true, true, true, true, true, true, true, true, true, true, true, false, false] rfl rfl (any_of HT_.out (by kernel_rfl)) (fun _ _ _ h => h) (Or.inl ⟨by rfl, ?_⟩) ?_ ?_
                                    rotate_left
                                    · intro w'
                                      go_simp
                                      with_reducible rfl
                                    rotate_left
                                    · simp only [Act.put, List.setIfInBounds_toArray, List.set_cons_zero, List.set_cons_succ, i64_w, i32_w]
                                      rfl
                                    refine pure_ (i := 14) (N := some 5) (v := ?_) (a' := ?_) #[true, true, true, true, true, true, true, true, true, true, true, true, true, true, true, false] rfl rfl (any_of HT_.out (by kernel_rfl)) (fun _ _ _ h => h) (Or.inl ⟨by rfl, ?_⟩) ?_ ?_
                                    rotate_left
                                    · intro w'
                                      go_simp
                                      with_reducible rfl
                                    rotate_left
                                    · simp only [Act.put, List.setIfInBounds_toArray, List.set_cons_zero, List.set_cons_succ, i64_w, i32_w]
                                      rfl
                                    refine pure_ (i := 15) (N := some 6) (v := ?_) (a' := ?_) #[true, true, true, true, true, true, true, true, true, true, true, true, true, true, true, true] rfl rfl (any_of HT_.out (by kernel_rfl)) (fun _ _ _ h => h) (Or.inl ⟨by rfl, ?_⟩) ?_ ?_
                                    rotate_left
                                    · intro w'
                                      go_simp
                                      with_reducible rfl
                                    rotate_left
                                    · simp only [Act.put, List.setIfInBounds_toArray, List.set_cons_zero, List.set_cons_succ, i64_w, i32_w]
                                      rfl
                                    refine done_ (done_of HT_.out (by kernel_rfl)) ?_
                                    try go_wp2
                                    go_ret3
                                    exact ⟨_, by first | rfl | (simp [errW_none, errW_some] <;> rfl) | (simp only [← hji9, ← hji39]; first | rfl | (simp [errW_none, errW_some] <;> rfl)) | (simp [*, errW_none, errW_some] <;> rfl), by (with_reducible repeat (first | apply Kd.R_alloc | apply Kd.R_drewN | apply Kd.R_drew)); exact HO113.out, by repeat (first | (with_reducible first | exact HB.out | apply below_alloc | apply pw_below_drewN | apply below_drew1) | exact HB.out)⟩
                                  · rw [if_neg c42] at H
                                    exact absurd H (by simp)
                                · rw [if_neg c41] at H
                                  exact absurd H (by simp)
                              · rw [if_neg c40] at H
                                exact absurd H (by simp)
                            · rw [if_neg c38] at H
                              exact absurd H (by simp)
                          · rw [if_neg c37] at H
                            exact absurd H (by simp)
                        · rw [if_neg c36] at H
                          exact absurd H (by simp)
                      · replace c35 := Bool.eq_false_iff.mpr c35
                        subst c35
                        have H1 : ((template_zzOperator.f kj29 a0 t110).bind fun t114 => (if t110 > (wrap64 (a1 + 2)) then (template_zzAt.j2 kj29 a0 a1 t114 (decide (t114 > 0))) else (template_zzAt.j2 kj29 a0 a1 t114 false))) = some (r1, r2, r3) := by rw [if_neg (show ¬ (false = true) by decide)] at H; exact H
                        clear H
                        have H := H1
                        clear H1
                        replace H := Option.bind_eq_some_iff.mp H
                        obtain ⟨t114, A460, H⟩ := H
                        replace H : (if t110 > (wrap64 (a1 + 2)) then (template_zzAt.j2 kj29 a0 a1 t114 (decide (t114 > 0))) else (template_zzAt.j2 kj29 a0 a1 t114 false)) = some (r1, r2, r3) := H
                        have A46 := Aside0.mk A460
                        clear A460
                        have HC47 := Aside0.mk H
                        clear H
                        go_upto_region 14 with (first | ((with_reducible refine gate_callee (f := 121) rfl ?_); refine goesL_ (some 89) rfl rfl Tryz.func121 (by kernel_rfl) rfl #[.string a0, .int .i64 t110] rfl (by (try simp only [List.map_toArray, List.map_cons, List.map_nil]); first | done | rfl | (simp only [List.length_drop, List.length_take]; rfl)) ?_; (with_reducible refine (template_zzOperator.calls kj29 a0 t110 t114 _ A46.out).mono ?_); rintro e w' ⟨rfl, ⟨nd, rfl⟩⟩; refine ⟨_, rfl, ?_⟩))
                        (try simp only [Act.put, List.setIfInBounds_toArray, List.set_cons_zero, List.set_cons_succ])
                        go_cut [97] (fun v97 wc => ∃ (kq : Nat) (x97_46 : Bool), v97 = .bool x97_46 ∧ Aside0 (template_zzAt.j2 kq a0 a1 t114 x97_46 = some (r1, r2, r3)) ∧ Aside0 (kq ≤ kj29) ∧ Aside0 (Below w.heap.size w wc))
                        case first =>
                          have H := HC47.out
                          clear HC47
                          by_cases c48 : t110 > (wrap64 (a1 + 2))
                          · rw [if_pos c48] at H
                            have c48b0 : decide ((wrap64 (a1 + 2)) < t110) = true := decide_eq_true c48
                            clear c48
                            (first | rw [c48b0] | (simp only [i64_w, i32_w]; rw [c48b0]) | skip)
                            have H' := Aside0.mk H
                            clear H
                            go_wp2
                            go_meet
                            case rel => exact ⟨_, (decide (t114 > 0)), (by first | rfl | (simp; done) | (simp [*]; done)), H', ⟨by have := HJ2.out; have := HJ29.out; first | omega | exact Nat.le_refl _⟩, ⟨by repeat (first | (with_reducible first | exact HB.out | apply below_alloc | apply pw_below_drewN | apply below_drew1) | exact HB.out)⟩⟩
                          · rw [if_neg c48] at H
                            have c48b0 : decide ((wrap64 (a1 + 2)) < t110) = false := decide_eq_false c48
                            clear c48
                            (first | rw [c48b0] | (simp only [i64_w, i32_w]; rw [c48b0]) | skip)
                            have H' := Aside0.mk H
                            clear H
                            go_wp2
                            go_meet
                            case rel => exact ⟨_, (false), (by first | rfl | (simp; done) | (simp [*]; done)), H', ⟨by have := HJ2.out; have := HJ29.out; first | omega | exact Nat.le_refl _⟩, ⟨by repeat (first | (with_reducible first | exact HB.out | apply below_alloc | apply pw_below_drewN | apply below_drew1) | exact HB.out)⟩⟩
                        case rest =>
                          clear HC47
                          try clear c1
                          try clear p1
                          try clear q1
                          try clear hx1
                          try clear c2
                          try clear p2
                          try clear q2
                          try clear hx2
                          try clear c3
                          try clear p3
                          try clear q3
                          try clear hx3
                          try clear c4
                          try clear c4b0
                          try clear c5
                          try clear c5b0
                          try clear c6
                          try clear c6b0
                          try clear p6
                          try clear p7
                          try clear q7
                          try clear hx7
                          try clear c8
                          try clear c10
                          try clear c10b0
                          try clear c11
                          try clear c11b0
                          try clear c12
                          try clear p12
                          try clear q12
                          try clear hx12
                          try clear c13
                          try clear c13b0
                          try clear c13b1
                          try clear c17
                          try clear c17b0
                          try clear c18
                          try clear c18b0
                          try clear c18b1
                          try clear c19
                          try clear c19b0
                          try clear c19b1
                          try clear c20
                          try clear c20b0
                          try clear c20b1
                          try clear c21
                          try clear c21b0
                          try clear c22
                          try clear c22b0
                          try clear c22b1
                          try clear c23
                          try clear c23b0
                          try clear p27
                          try clear q27
                          try clear hx27
                          try clear c28
                          try clear c28b0
                          try clear c28b1
                          try clear c31
                          try clear c31b0
                          try clear c32
                          try clear c32b0
                          try clear c33
                          try clear c33b0
                          try clear p34
                          try clear q34
                          try clear hx34
                          try clear c35
                          try clear c36
                          try clear c36b0
                          try clear c36b1
                          try clear c37
                          try clear c37b0
                          try clear c37b1
                          try clear c38
                          try clear c38b0
                          try clear c38b1
                          try clear c40
                          try clear c40b0
                          try clear c40b1
                          try clear c41
                          try clear c41b0
                          try clear c41b1
                          try clear c42
                          try clear c42b0
                          try clear c42b1
                          try clear c48
                          try clear c48b0
                          try clear p1
                          try clear p12
                          try clear p2
                          try clear p27
                          try clear p3
                          try clear p34
                          try clear p6
                          try clear p7
                          try clear q1
                          try clear q12
                          try clear q2
                          try clear q27
                          try clear q3
                          try clear q34
                          try clear q7
                          obtain ⟨kq, x97_46, rfl, HA, HJ46, HB⟩ := hcut
                          cases kq with
                          | zero => exact absurd HA.out (by simp [template_zzAt.j2])
                          | succ kj46 =>
                            have H := HA.out
                            clear HA
                            simp only [template_zzAt.j2] at H
                            by_cases c49 : x97_46 = true
                            · subst c49
                              have H1 : ((template_zzLast.f kj46 a0 t114).bind fun t115 => (if t115 ≥ 0 then (if 0 ≤ a1 then (if a1 ≤ (wrap64 (t115 + 1)) then (if (wrap64 (t115 + 1)) ≤ (a0.size : Int) then (if 0 ≤ (wrap64 (a1 + 2)) then (if (wrap64 (a1 + 2)) ≤ t115 then (if t115 ≤ (a0.size : Int) then (if 0 ≤ t114 then (if t114 ≤ t115 then (some ((([a0.extract (a1 : Int).toNat ((wrap64 (t115 + 1)) : Int).toNat, (⟨#[]⟩ : ByteArray), (⟨#[]⟩ : ByteArray), a0.extract ((wrap64 (a1 + 2)) : Int).toNat (t115 : Int).toNat, a0.extract (t114 : Int).toNat (t115 : Int).toNat, (⟨#[]⟩ : ByteArray)] : List ByteArray)), wrap64 (t115 + 1), true)) else (none)) else (none)) else (none)) else (none)) else (none)) else (none)) else (none)) else (none)) else (some ((([(⟨#[36, 123]⟩ : ByteArray), (⟨#[]⟩ : ByteArray), (⟨#[]⟩ : ByteArray), (⟨#[]⟩ : ByteArray), (⟨#[]⟩ : ByteArray), (⟨#[]⟩ : ByteArray)] : List ByteArray)), wrap64 (a1 + 2), true)))) = some (r1, r2, r3) := by rw [if_pos rfl] at H; exact H
                              clear H
                              have H := H1
                              clear H1
                              replace H := Option.bind_eq_some_iff.mp H
                              obtain ⟨t115, A500, H⟩ := H
                              replace H : (if t115 ≥ 0 then (if 0 ≤ a1 then (if a1 ≤ (wrap64 (t115 + 1)) then (if (wrap64 (t115 + 1)) ≤ (a0.size : Int) then (if 0 ≤ (wrap64 (a1 + 2)) then (if (wrap64 (a1 + 2)) ≤ t115 then (if t115 ≤ (a0.size : Int) then (if 0 ≤ t114 then (if t114 ≤ t115 then (some ((([a0.extract (a1 : Int).toNat ((wrap64 (t115 + 1)) : Int).toNat, (⟨#[]⟩ : ByteArray), (⟨#[]⟩ : ByteArray), a0.extract ((wrap64 (a1 + 2)) : Int).toNat (t115 : Int).toNat, a0.extract (t114 : Int).toNat (t115 : Int).toNat, (⟨#[]⟩ : ByteArray)] : List ByteArray)), wrap64 (t115 + 1), true)) else (none)) else (none)) else (none)) else (none)) else (none)) else (none)) else (none)) else (none)) else (some ((([(⟨#[36, 123]⟩ : ByteArray), (⟨#[]⟩ : ByteArray), (⟨#[]⟩ : ByteArray), (⟨#[]⟩ : ByteArray), (⟨#[]⟩ : ByteArray), (⟨#[]⟩ : ByteArray)] : List ByteArray)), wrap64 (a1 + 2), true))) = some (r1, r2, r3) := H
                              have A50 := Aside0.mk A500
                              clear A500
                              by_cases c51 : t115 ≥ 0
                              · rw [if_pos c51] at H
                                have c51b0 : decide (0 ≤ t115) = true := decide_eq_true c51
                                clear c51
                                by_cases c52 : 0 ≤ a1
                                · rw [if_pos c52] at H
                                  have c52b0 := eq_true c52
                                  have c52b1 : decide (0 ≤ a1) = true := decide_eq_true c52
                                  clear c52
                                  by_cases c53 : a1 ≤ (wrap64 (t115 + 1))
                                  · rw [if_pos c53] at H
                                    have c53b0 := eq_true c53
                                    have c53b1 : decide (a1 ≤ (wrap64 (t115 + 1))) = true := decide_eq_true c53
                                    by_cases c54 : (wrap64 (t115 + 1)) ≤ (a0.size : Int)
                                    · rw [if_pos c54] at H
                                      have c54b0 := eq_true c54
                                      have c54b1 : decide ((wrap64 (t115 + 1)) ≤ (a0.size : Int)) = true := decide_eq_true c54
                                      obtain ⟨ji55, hji55⟩ : ∃ j_ : Int, (wrap64 (a1 + 2)) = j_ := ⟨_, rfl⟩
                                      replace H : (if 0 ≤ (ji55) then (if (ji55) ≤ t115 then (if t115 ≤ (a0.size : Int) then (if 0 ≤ t114 then (if t114 ≤ t115 then (some ((([a0.extract (a1 : Int).toNat ((wrap64 (t115 + 1)) : Int).toNat, (⟨#[]⟩ : ByteArray), (⟨#[]⟩ : ByteArray), a0.extract ((ji55) : Int).toNat (t115 : Int).toNat, a0.extract (t114 : Int).toNat (t115 : Int).toNat, (⟨#[]⟩ : ByteArray)] : List ByteArray)), wrap64 (t115 + 1), true)) else (none)) else (none)) else (none)) else (none)) else (none)) = some (r1, r2, r3) := by first | (rw [hji55] at H; exact H) | (simp only [hji55] at H ⊢; exact H)
                                      (try rw [hji55] at A50)
                                      have hji55w : (IntKind.i64.wrap (a1 + 2)) = ji55 := (i64_w _).trans hji55
                                      by_cases c56 : 0 ≤ (ji55)
                                      · rw [if_pos c56] at H
                                        have c56b0 := eq_true c56
                                        have c56b1 : decide (0 ≤ (ji55)) = true := decide_eq_true c56
                                        clear c56
                                        by_cases c57 : (ji55) ≤ t115
                                        · rw [if_pos c57] at H
                                          have c57b0 := eq_true c57
                                          have c57b1 : decide ((ji55) ≤ t115) = true := decide_eq_true c57
                                          clear c57
                                          by_cases c58 : t115 ≤ (a0.size : Int)
                                          · rw [if_pos c58] at H
                                            have c58b0 := eq_true c58
                                            have c58b1 : decide (t115 ≤ (a0.size : Int)) = true := decide_eq_true c58
                                            clear c58
                                            by_cases c59 : 0 ≤ t114
                                            · rw [if_pos c59] at H
                                              have c59b0 := eq_true c59
                                              have c59b1 : decide (0 ≤ t114) = true := decide_eq_true c59
                                              clear c59
                                              by_cases c60 : t114 ≤ t115
                                              · rw [if_pos c60] at H
                                                have c60b0 := eq_true c60
                                                have c60b1 : decide (t114 ≤ t115) = true := decide_eq_true c60
                                                clear c60
                                                have c61b0 := eq_true (of_decide_eq_true (by first | (with_reducible assumption) | assumption) : t115 ≤ (a0.size : Int))
                                                obtain ⟨y116, hy116⟩ : ∃ y_ : List ByteArray, y_ = (([a0.extract (a1 : Int).toNat ((wrap64 (t115 + 1)) : Int).toNat, (⟨#[]⟩ : ByteArray), (⟨#[]⟩ : ByteArray), a0.extract ((ji55) : Int).toNat (t115 : Int).toNat, a0.extract (t114 : Int).toNat (t115 : Int).toNat, (⟨#[]⟩ : ByteArray)] : List ByteArray)) := ⟨_, rfl⟩
                                                replace H : (some (y116, wrap64 (t115 + 1), true)) = some (r1, r2, r3) := by first | (rw [hy116]; with_reducible exact H) | (have H2_ := (Option.bind_some _ _).symm.trans H; rw [hy116]; with_reducible exact H2_) | (have H2_ := (Option.bind_some _ _).symm.trans H; with_reducible exact H2_) | with_reducible exact H | (rw [hy116]; exact H) | exact H
                                                have Ny116 := Aside0.mk hy116
                                                clear hy116
                                                simp only [Option.some.injEq, Prod.mk.injEq] at H
                                                obtain ⟨rfl, rfl, rfl⟩ := H
                                                try go_wp2_with (first | ((with_reducible refine gate_callee (f := 122) rfl ?_); refine goesL_ (some 100) rfl rfl Tryz.func122 (by kernel_rfl) rfl #[.string a0, .int .i64 t114] rfl (by (try simp only [List.map_toArray, List.map_cons, List.map_nil]); first | done | rfl | (simp only [List.length_drop, List.length_take]; rfl)) ?_; (with_reducible refine (template_zzLast.calls kj46 a0 t114 t115 _ A50.out).mono ?_); rintro e w' ⟨rfl, ⟨nd, rfl⟩⟩; refine ⟨_, rfl, ?_⟩))
                                                (try (rw [drewN_self wc]; generalize hq_ : World.drewN wc _ = wc; have n0_ : Aside0 (Below w.heap.size w wc) := ⟨by rw [← hq_]; exact (by repeat (first | (with_reducible first | exact HB.out | apply below_alloc | apply pw_below_drewN | apply below_drew1) | exact HB.out))⟩; clear HB hq_; have HB := n0_; clear n0_))
                                                have n0_ := Aside0.mk (below_drew1 HB.out)
                                                clear HB
                                                have HB := n0_
                                                clear n0_
                                                refine start_ (n := 20) (S := fun w' => True) (ds := []) #[false, false, false, false, false, false, false, false, false, false, false, false, false, false, false, false, false, false, false, false] (by kernel_rfl) rfl rfl trivial (fun hHeld => ?_); refine with_tabW template_zzAt.tab17 template_zzAt.bits17 (fun HT_ HW_ => ?_)
                                                generalize wc.drew = w62 at HB hHeld ⊢
                                                refine pure_ (i := 0) (N := some 103) (v := ?_) (a' := ?_) #[true, false, false, false, false, false, false, false, false, false, false, false, false, false, false, false, false, false, false, false] rfl rfl (any_of HT_.out (by kernel_rfl)) (fun _ _ _ h => h) (Or.inl ⟨by rfl, ?_⟩) ?_ ?_
                                                rotate_left
                                                · intro w'
                                                  go_simp
                                                  with_reducible rfl
                                                rotate_left
                                                · simp only [Act.put, List.setIfInBounds_toArray, List.set_cons_zero, List.set_cons_succ, i64_w, i32_w]
                                                  rfl
                                                refine pure_ (i := 1) (N := some 104) (v := ?_) (a' := ?_) #[true, true, false, false, false, false, false, false, false, false, false, false, false, false, false, false, false, false, false, false] rfl rfl (any_of HT_.out (by kernel_rfl)) (fun _ _ _ h => h) (Or.inl ⟨by rfl, ?_⟩) ?_ ?_
                                                rotate_left
                                                · intro w'
                                                  go_simp
                                                  with_reducible rfl
                                                rotate_left
                                                · simp only [Act.put, List.setIfInBounds_toArray, List.set_cons_zero, List.set_cons_succ, i64_w, i32_w]
                                                  rfl
                                                refine pure_ (i := 2) (N := some 105) (v := ?_) (a' := ?_) #[true, true, true, false, false, false, false, false, false, false, false, false, false, false, false, false, false, false, false, false] rfl rfl (any_of HT_.out (by kernel_rfl)) (fun _ _ _ h => h) (Or.inl ⟨by rfl, ?_⟩) ?_ ?_
                                                rotate_left
                                                · intro w'
                                                  go_simp
                                                  with_reducible rfl
                                                rotate_left
                                                · simp only [Act.put, List.setIfInBounds_toArray, List.set_cons_zero, List.set_cons_succ, i64_w, i32_w]
                                                  rfl
                                                refine pure_ (i := 3) (N := some 106) (v := ?_) (a' := ?_) #[true, true, true, true, false, false, false, false, false, false, false, false, false, false, false, false, false, false, false, false] rfl rfl (any_of HT_.out (by kernel_rfl)) (fun _ _ _ h => h) (Or.inl ⟨by rfl, ?_⟩) ?_ ?_
                                                rotate_left
                                                · intro w'
                                                  go_simp
                                                  with_reducible rfl
                                                rotate_left
                                                · simp only [Act.put, List.setIfInBounds_toArray, List.set_cons_zero, List.set_cons_succ, i64_w, i32_w]
                                                  rfl
                                                refine pure_ (i := 4) (N := some 107) (v := ?_) (a' := ?_) #[true, true, true, true, true, false, false, false, false, false, false, false, false, false, false, false, false, false, false, false] rfl rfl (any_of HT_.out (by kernel_rfl)) (fun _ _ _ h => h) (Or.inl ⟨by rfl, ?_⟩) ?_ ?_
                                                rotate_left
                                                · intro w'
                                                  go_simp
                                                  with_reducible rfl
                                                rotate_left
                                                · simp only [Act.put, List.setIfInBounds_toArray, List.set_cons_zero, List.set_cons_succ, i64_w, i32_w]
                                                  rfl
                                                refine pure_ (i := 5) (N := some 108) (v := ?_) (a' := ?_) #[true, true, true, true, true, true, false, false, false, false, false, false, false, false, false, false, false, false, false, false] rfl rfl (any_of HT_.out (by kernel_rfl)) (fun _ _ _ h => h) (Or.inl ⟨by rfl, ?_⟩) ?_ ?_
                                                rotate_left
                                                · intro w'
                                                  go_simp
                                                  with_reducible rfl
                                                rotate_left
                                                · simp only [Act.put, List.setIfInBounds_toArray, List.set_cons_zero, List.set_cons_succ, i64_w, i32_w]
                                                  rfl
                                                refine pure_ (i := 6) (N := some 109) (v := ?_) (a' := ?_) #[true, true, true, true, true, true, true, false, false, false, false, false, false, false, false, false, false, false, false, false] rfl rfl (any_of HT_.out (by kernel_rfl)) (fun _ _ _ h => h) (Or.inl ⟨by rfl, ?_⟩) ?_ ?_
                                                rotate_left
                                                · intro w'
                                                  go_simp
                                                  with_reducible rfl
                                                rotate_left
                                                · simp only [Act.put, List.setIfInBounds_toArray, List.set_cons_zero, List.set_cons_succ, i64_w, i32_w]
                                                  rfl
                                                refine pure_ (i := 7) (N := some 110) (v := ?_) (a' := ?_) #[true, true, true, true, true, true, true, true, false, false, false, false, false, false, false, false, false, false, false, false] rfl rfl (any_of HT_.out (by kernel_rfl)) (fun _ _ _ h => h) (Or.inl ⟨by rfl, ?_⟩) ?_ ?_
                                                rotate_left
                                                · intro w'
                                                  go_simp
                                                  with_reducible rfl
                                                rotate_left
                                                · simp only [Act.put, List.setIfInBounds_toArray, List.set_cons_zero, List.set_cons_succ, i64_w, i32_w]
                                                  rfl
                                                refine pure_ (i := 8) (N := some 111) (v := ?_) (a' := ?_) #[true, true, true, true, true, true, true, true, true, false, false, false, false, false, false, false, false, false, false, false] rfl rfl (any_of HT_.out (by kernel_rfl)) (fun _ _ _ h => h) (Or.inl ⟨by rfl, ?_⟩) ?_ ?_
                                                rotate_left
                                                · intro w'
                                                  go_simp
                                                  with_reducible rfl
                                                rotate_left
                                                · simp only [Act.put, List.setIfInBounds_toArray, List.set_cons_zero, List.set_cons_succ, i64_w, i32_w]
                                                  rfl
                                                refine pure_ (i := 9) (N := some 112) (v := ?_) (a' := ?_) #[true, true, true, true, true, true, true, true, true, true, false, false, false, false, false, false, false, false, false, false] rfl rfl (any_of HT_.out (by kernel_rfl)) (fun _ _ _ h => h) (Or.inl ⟨by rfl, ?_⟩) ?_ ?_
                                                rotate_left
                                                · intro w'
                                                  go_simp
                                                  with_reducible rfl
                                                rotate_left
                                                · simp only [Act.put, List.setIfInBounds_toArray, List.set_cons_zero, List.set_cons_succ, i64_w, i32_w]
                                                  rfl
                                                refine pure_ (i := 10) (N := some 113) (v := ?_) (a' := ?_) #[true, true, true, true, true, true, true, true, true, true, true, false, false, false, false, false, false, false, false, false] rfl rfl (any_of HT_.out (by kernel_rfl)) (fun _ _ _ h => h) (Or.inl ⟨by rfl, ?_⟩) ?_ ?_
                                                rotate_left
                                                · intro w'
                                                  go_simp
                                                  with_reducible rfl
                                                rotate_left
                                                · simp only [Act.put, List.setIfInBounds_toArray, List.set_cons_zero, List.set_cons_succ, i64_w, i32_w]
                                                  rfl
                                                refine pure_ (i := 11) (N := some 114) (v := ?_) (a' := ?_) #[true, true, true, true, true, true, true, true, true, true, true, true, false, false, false, false, false, false, false, false] rfl rfl (any_of HT_.out (by kernel_rfl)) (fun _ _ _ h => h) (Or.inl ⟨by rfl, ?_⟩) ?_ ?_
                                                rotate_left
                                                · intro w'
                                                  go_simp
                                                  with_reducible rfl
                                                rotate_left
                                                · simp only [Act.put, List.setIfInBounds_toArray, List.set_cons_zero, List.set_cons_succ, i64_w, i32_w]
                                                  rfl
                                                refine pure_ (i := 12) (N := some 115) (v := ?_) (a' := ?_) #[true, true, true, true, true, true, true, true, true, true, true, true, true, false, false, false, false, false, false, false] rfl rfl (any_of HT_.out (by kernel_rfl)) (fun _ _ _ h => h) (Or.inl ⟨by rfl, ?_⟩) ?_ ?_
                                                rotate_left
                                                · intro w'
                                                  go_simp
                                                  with_reducible rfl
                                                rotate_left
                                                · simp only [Act.put, List.setIfInBounds_toArray, List.set_cons_zero, List.set_cons_succ, i64_w, i32_w]
                                                  rfl
                                                refine pure_ (i := 13) (N := some 116) (v := ?_) (a' := ?_) #[true, true, true, true, true, true, true, true, true, true, true, true, true, true, false, false, false, false, false, false] rfl rfl (any_of HT_.out (by kernel_rfl)) (fun _ _ _ h => h) (Or.inl ⟨by rfl, ?_⟩) ?_ ?_
                                                rotate_left
                                                · intro w'
                                                  go_simp
                                                  with_reducible rfl
                                                rotate_left
                                                · simp only [Act.put, List.setIfInBounds_toArray, List.set_cons_zero, List.set_cons_succ, i64_w, i32_w]
                                                  rfl
                                                refine pure_ (i := 15) (N := some 118) (v := ?_) (a' := ?_) #[true, true, true, true, true, true, true, true, true, true, true, true, true, true, false, true, false, false, false, false] rfl rfl (any_of HT_.out (by kernel_rfl)) (fun _ _ _ h => h) (Or.inl ⟨by rfl, ?_⟩) ?_ ?_
                                                rotate_left
                                                · intro w'
                                                  go_simp
                                                  with_reducible rfl
                                                rotate_left
                                                · simp only [Act.put, List.setIfInBounds_toArray, List.set_cons_zero, List.set_cons_succ, i64_w, i32_w]
                                                  rfl
                                                refine pure_ (i := 16) (N := some 119) (v := ?_) (a' := ?_) #[true, true, true, true, true, true, true, true, true, true, true, true, true, true, false, true, true, false, false, false] rfl rfl (any_of HT_.out (by kernel_rfl)) (fun _ _ _ h => h) (Or.inl ⟨by rfl, ?_⟩) ?_ ?_
                                                rotate_left
                                                · intro w'
                                                  go_simp
                                                  with_reducible rfl
                                                rotate_left
                                                · simp only [Act.put, List.setIfInBounds_toArray, List.set_cons_zero, List.set_cons_succ, i64_w, i32_w]
                                                  rfl
                                                refine one_ (i := 14) (N := some 117) #[true, true, true, true, true, true, true, true, true, true, true, true, true, true, true, true, true, false, false, false] rfl rfl (one_of HT_.out (by kernel_rfl)) (by decide) (fun K hK => ?_)
                                                refine Kd.R_lit_step Kd.string _ 9 ?hg (N := 117) ?hd (xs := ([a0.extract (a1 : Int).toNat ((wrap64 (t115 + 1)) : Int).toNat, (⟨#[]⟩ : ByteArray), (⟨#[]⟩ : ByteArray), a0.extract ((ji55) : Int).toNat (t115 : Int).toNat, a0.extract (t114 : Int).toNat (t115 : Int).toNat, (⟨#[]⟩ : ByteArray)] : List ByteArray)) (inner := [.string (a0.extract (a1 : Int).toNat ((wrap64 (t115 + 1)) : Int).toNat), .string (⟨#[]⟩ : ByteArray), .string (⟨#[]⟩ : ByteArray), .string (a0.extract ((ji55) : Int).toNat (t115 : Int).toNat), .string (a0.extract (t114 : Int).toNat (t115 : Int).toNat), .string (⟨#[]⟩ : ByteArray)]) (ok := fun _ => True) (okp := fun _ => True) ?hr ?hp (fun _ hk => hk) trivial (Below.refl _ _) (Nat.le_refl _) (by simp) ?_; (case hd => rfl); (case hg => rfl); (case hr => first | (go_simp; done) | (go_simp; rfl)); (case hp => exact (Reps.one (show Kd.M Kd.string _ _ _ (a0.extract (a1 : Int).toNat ((wrap64 (t115 + 1)) : Int).toNat) [.string (a0.extract (a1 : Int).toNat ((wrap64 (t115 + 1)) : Int).toNat)] from rfl) (Reps.one (show Kd.M Kd.string _ _ _ (⟨#[]⟩ : ByteArray) [.string (⟨#[]⟩ : ByteArray)] from rfl) (Reps.one (show Kd.M Kd.string _ _ _ (⟨#[]⟩ : ByteArray) [.string (⟨#[]⟩ : ByteArray)] from rfl) (Reps.one (show Kd.M Kd.string _ _ _ (a0.extract ((ji55) : Int).toNat (t115 : Int).toNat) [.string (a0.extract ((ji55) : Int).toNat (t115 : Int).toNat)] from rfl) (Reps.one (show Kd.M Kd.string _ _ _ (a0.extract (t114 : Int).toNat (t115 : Int).toNat) [.string (a0.extract (t114 : Int).toNat (t115 : Int).toNat)] from rfl) (Reps.one (show Kd.M Kd.string _ _ _ (⟨#[]⟩ : ByteArray) [.string (⟨#[]⟩ : ByteArray)] from rfl) (Reps.none _ _))))))))
                                                intro v117 w63 ho64 hb hg_ hnew_
                                                clear hg_ hnew_
                                                (first | rw [← Ny116.out] at ho64 | (simp only [Int.reduceToNat] at ho64; rw [← Ny116.out] at ho64))
                                                have n0_ := Aside0.mk (Kd.R_lower ho64 (below_size (by repeat (first | (with_reducible first | exact HB.out | apply below_alloc | apply pw_below_drewN | apply below_drew1) | exact HB.out))))
                                                have n1_ := Aside0.mk (below_step (by repeat (first | (with_reducible first | exact HB.out | apply below_alloc | apply pw_below_drewN | apply below_drew1) | exact HB.out)) hb)
                                                clear HB
                                                have HO118 := n0_
                                                have HB := n1_
                                                clear n0_ n1_
                                                clear hb ho64
                                                refine hK.out _ _ trivial (fun hHeld => ?_)
                                                clear hK K
                                                refine norm_ (a' := ?_) ?_ ?_
                                                rotate_left
                                                · show Act.put _ (some 117) _ = _
                                                  simp only [Act.put, List.setIfInBounds_toArray, List.set_cons_zero, List.set_cons_succ, i64_w, i32_w]
                                                  rfl
                                                refine pure_ (i := 17) (N := some 4) (v := ?_) (a' := ?_) #[true, true, true, true, true, true, true, true, true, true, true, true, true, true, true, true, true, true, false, false] rfl rfl (any_of HT_.out (by kernel_rfl)) (fun _ _ _ h => h) (Or.inl ⟨by rfl, ?_⟩) ?_ ?_
                                                rotate_left
                                                · intro w'
                                                  go_simp
                                                  with_reducible rfl
                                                rotate_left
                                                · simp only [Act.put, List.setIfInBounds_toArray, List.set_cons_zero, List.set_cons_succ, i64_w, i32_w]
                                                  rfl
                                                refine pure_ (i := 18) (N := some 5) (v := ?_) (a' := ?_) #[true, true, true, true, true, true, true, true, true, true, true, true, true, true, true, true, true, true, true, false] rfl rfl (any_of HT_.out (by kernel_rfl)) (fun _ _ _ h => h) (Or.inl ⟨by rfl, ?_⟩) ?_ ?_
                                                rotate_left
                                                · intro w'
                                                  go_simp
                                                  with_reducible rfl
                                                rotate_left
                                                · simp only [Act.put, List.setIfInBounds_toArray, List.set_cons_zero, List.set_cons_succ, i64_w, i32_w]
                                                  rfl
                                                refine pure_ (i := 19) (N := some 6) (v := ?_) (a' := ?_) #[true, true, true, true, true, true, true, true, true, true, true, true, true, true, true, true, true, true, true, true] rfl rfl (any_of HT_.out (by kernel_rfl)) (fun _ _ _ h => h) (Or.inl ⟨by rfl, ?_⟩) ?_ ?_
                                                rotate_left
                                                · intro w'
                                                  go_simp
                                                  with_reducible rfl
                                                rotate_left
                                                · simp only [Act.put, List.setIfInBounds_toArray, List.set_cons_zero, List.set_cons_succ, i64_w, i32_w]
                                                  rfl
                                                refine done_ (done_of HT_.out (by kernel_rfl)) ?_
                                                try go_wp2
                                                go_ret3
                                                exact ⟨_, by first | rfl | (simp [errW_none, errW_some] <;> rfl) | (simp only [← hji9, ← hji55]; first | rfl | (simp [errW_none, errW_some] <;> rfl)) | (simp [*, errW_none, errW_some] <;> rfl), by (with_reducible repeat (first | apply Kd.R_alloc | apply Kd.R_drewN | apply Kd.R_drew)); exact HO118.out, by repeat (first | (with_reducible first | exact HB.out | apply below_alloc | apply pw_below_drewN | apply below_drew1) | exact HB.out)⟩
                                              · rw [if_neg c60] at H
                                                exact absurd H (by simp)
                                            · rw [if_neg c59] at H
                                              exact absurd H (by simp)
                                          · rw [if_neg c58] at H
                                            exact absurd H (by simp)
                                        · rw [if_neg c57] at H
                                          exact absurd H (by simp)
                                      · rw [if_neg c56] at H
                                        exact absurd H (by simp)
                                    · rw [if_neg c54] at H
                                      exact absurd H (by simp)
                                  · rw [if_neg c53] at H
                                    exact absurd H (by simp)
                                · rw [if_neg c52] at H
                                  exact absurd H (by simp)
                              · rw [if_neg c51] at H
                                have c51b0 : decide (0 ≤ t115) = false := decide_eq_false c51
                                clear c51
                                obtain ⟨y119, hy119⟩ : ∃ y_ : List ByteArray, y_ = (([(⟨#[36, 123]⟩ : ByteArray), (⟨#[]⟩ : ByteArray), (⟨#[]⟩ : ByteArray), (⟨#[]⟩ : ByteArray), (⟨#[]⟩ : ByteArray), (⟨#[]⟩ : ByteArray)] : List ByteArray)) := ⟨_, rfl⟩
                                replace H : (some (y119, wrap64 (a1 + 2), true)) = some (r1, r2, r3) := by first | (rw [hy119]; with_reducible exact H) | (have H2_ := (Option.bind_some _ _).symm.trans H; rw [hy119]; with_reducible exact H2_) | (have H2_ := (Option.bind_some _ _).symm.trans H; with_reducible exact H2_) | with_reducible exact H | (rw [hy119]; exact H) | exact H
                                have Ny119 := Aside0.mk hy119
                                clear hy119
                                simp only [Option.some.injEq, Prod.mk.injEq] at H
                                obtain ⟨rfl, rfl, rfl⟩ := H
                                go_wp2_with (first | ((with_reducible refine gate_callee (f := 122) rfl ?_); refine goesL_ (some 100) rfl rfl Tryz.func122 (by kernel_rfl) rfl #[.string a0, .int .i64 t114] rfl (by (try simp only [List.map_toArray, List.map_cons, List.map_nil]); first | done | rfl | (simp only [List.length_drop, List.length_take]; rfl)) ?_; (with_reducible refine (template_zzLast.calls kj46 a0 t114 t115 _ A50.out).mono ?_); rintro e w' ⟨rfl, ⟨nd, rfl⟩⟩; refine ⟨_, rfl, ?_⟩) | ((with_reducible refine gate_dst (N := 120) rfl ?_); (try (refine gate_guard (by rfl) ?_; dsimp only)); refine Kd.R_lit Kd.string _ 9 ?hg (N := 120) ?hd (xs := ([(⟨#[36, 123]⟩ : ByteArray), (⟨#[]⟩ : ByteArray), (⟨#[]⟩ : ByteArray), (⟨#[]⟩ : ByteArray), (⟨#[]⟩ : ByteArray), (⟨#[]⟩ : ByteArray)] : List ByteArray)) (inner := [.string (⟨#[36, 123]⟩ : ByteArray), .string (⟨#[]⟩ : ByteArray), .string (⟨#[]⟩ : ByteArray), .string (⟨#[]⟩ : ByteArray), .string (⟨#[]⟩ : ByteArray), .string (⟨#[]⟩ : ByteArray)]) (ok := fun _ => True) (okp := fun _ => True) ?hr ?hp (fun _ hk => hk) trivial (Below.refl _ _) (Nat.le_refl _) (by simp) ?_; (case hd => rfl); (case hg => rfl); (case hr => first | (go_simp; done) | (go_simp; rfl)); (case hp => exact (Reps.one (show Kd.M Kd.string _ _ _ (⟨#[36, 123]⟩ : ByteArray) [.string (⟨#[36, 123]⟩ : ByteArray)] from rfl) (Reps.one (show Kd.M Kd.string _ _ _ (⟨#[]⟩ : ByteArray) [.string (⟨#[]⟩ : ByteArray)] from rfl) (Reps.one (show Kd.M Kd.string _ _ _ (⟨#[]⟩ : ByteArray) [.string (⟨#[]⟩ : ByteArray)] from rfl) (Reps.one (show Kd.M Kd.string _ _ _ (⟨#[]⟩ : ByteArray) [.string (⟨#[]⟩ : ByteArray)] from rfl) (Reps.one (show Kd.M Kd.string _ _ _ (⟨#[]⟩ : ByteArray) [.string (⟨#[]⟩ : ByteArray)] from rfl) (Reps.one (show Kd.M Kd.string _ _ _ (⟨#[]⟩ : ByteArray) [.string (⟨#[]⟩ : ByteArray)] from rfl) (Reps.none _ _)))))))); intro v120 w65 ho66 hb hg_ hnew_; clear hg_ hnew_; (first | rw [← Ny119.out] at ho66 | (simp only [Int.reduceToNat] at ho66; rw [← Ny119.out] at ho66)); have n0_ := Aside0.mk (Kd.R_lower ho66 (below_size (by repeat (first | (with_reducible first | exact HB.out | apply below_alloc | apply pw_below_drewN | apply below_drew1) | exact HB.out)))); have n1_ := Aside0.mk (below_step (by repeat (first | (with_reducible first | exact HB.out | apply below_alloc | apply pw_below_drewN | apply below_drew1) | exact HB.out)) hb); clear HB; have HO121 := n0_; have HB := n1_; clear n0_ n1_; clear hb ho66))
                                go_ret3
                                exact ⟨_, by first | rfl | (simp [errW_none, errW_some] <;> rfl) | (simp only [← hji9]; first | rfl | (simp [errW_none, errW_some] <;> rfl)) | (simp [*, errW_none, errW_some] <;> rfl), by (with_reducible repeat (first | apply Kd.R_alloc | apply Kd.R_drewN | apply Kd.R_drew)); exact HO121.out, by repeat (first | (with_reducible first | exact HB.out | apply below_alloc | apply pw_below_drewN | apply below_drew1) | exact HB.out)⟩
                            · replace c49 := Bool.eq_false_iff.mpr c49
                              subst c49
                              have H1 : (some ((([(⟨#[36, 123]⟩ : ByteArray), (⟨#[]⟩ : ByteArray), (⟨#[]⟩ : ByteArray), (⟨#[]⟩ : ByteArray), (⟨#[]⟩ : ByteArray), (⟨#[]⟩ : ByteArray)] : List ByteArray)), wrap64 (a1 + 2), true)) = some (r1, r2, r3) := by rw [if_neg (show ¬ (false = true) by decide)] at H; exact H
                              clear H
                              have H := H1
                              clear H1
                              obtain ⟨y122, hy122⟩ : ∃ y_ : List ByteArray, y_ = (([(⟨#[36, 123]⟩ : ByteArray), (⟨#[]⟩ : ByteArray), (⟨#[]⟩ : ByteArray), (⟨#[]⟩ : ByteArray), (⟨#[]⟩ : ByteArray), (⟨#[]⟩ : ByteArray)] : List ByteArray)) := ⟨_, rfl⟩
                              replace H : (some (y122, wrap64 (a1 + 2), true)) = some (r1, r2, r3) := by first | (rw [hy122]; with_reducible exact H) | (have H2_ := (Option.bind_some _ _).symm.trans H; rw [hy122]; with_reducible exact H2_) | (have H2_ := (Option.bind_some _ _).symm.trans H; with_reducible exact H2_) | with_reducible exact H | (rw [hy122]; exact H) | exact H
                              have Ny122 := Aside0.mk hy122
                              clear hy122
                              simp only [Option.some.injEq, Prod.mk.injEq] at H
                              obtain ⟨rfl, rfl, rfl⟩ := H
                              go_wp2_with (first | ((with_reducible refine gate_dst (N := 120) rfl ?_); (try (refine gate_guard (by rfl) ?_; dsimp only)); refine Kd.R_lit Kd.string _ 9 ?hg (N := 120) ?hd (xs := ([(⟨#[36, 123]⟩ : ByteArray), (⟨#[]⟩ : ByteArray), (⟨#[]⟩ : ByteArray), (⟨#[]⟩ : ByteArray), (⟨#[]⟩ : ByteArray), (⟨#[]⟩ : ByteArray)] : List ByteArray)) (inner := [.string (⟨#[36, 123]⟩ : ByteArray), .string (⟨#[]⟩ : ByteArray), .string (⟨#[]⟩ : ByteArray), .string (⟨#[]⟩ : ByteArray), .string (⟨#[]⟩ : ByteArray), .string (⟨#[]⟩ : ByteArray)]) (ok := fun _ => True) (okp := fun _ => True) ?hr ?hp (fun _ hk => hk) trivial (Below.refl _ _) (Nat.le_refl _) (by simp) ?_; (case hd => rfl); (case hg => rfl); (case hr => first | (go_simp; done) | (go_simp; rfl)); (case hp => exact (Reps.one (show Kd.M Kd.string _ _ _ (⟨#[36, 123]⟩ : ByteArray) [.string (⟨#[36, 123]⟩ : ByteArray)] from rfl) (Reps.one (show Kd.M Kd.string _ _ _ (⟨#[]⟩ : ByteArray) [.string (⟨#[]⟩ : ByteArray)] from rfl) (Reps.one (show Kd.M Kd.string _ _ _ (⟨#[]⟩ : ByteArray) [.string (⟨#[]⟩ : ByteArray)] from rfl) (Reps.one (show Kd.M Kd.string _ _ _ (⟨#[]⟩ : ByteArray) [.string (⟨#[]⟩ : ByteArray)] from rfl) (Reps.one (show Kd.M Kd.string _ _ _ (⟨#[]⟩ : ByteArray) [.string (⟨#[]⟩ : ByteArray)] from rfl) (Reps.one (show Kd.M Kd.string _ _ _ (⟨#[]⟩ : ByteArray) [.string (⟨#[]⟩ : ByteArray)] from rfl) (Reps.none _ _)))))))); intro v123 w67 ho68 hb hg_ hnew_; clear hg_ hnew_; (first | rw [← Ny122.out] at ho68 | (simp only [Int.reduceToNat] at ho68; rw [← Ny122.out] at ho68)); have n0_ := Aside0.mk (Kd.R_lower ho68 (below_size (by repeat (first | (with_reducible first | exact HB.out | apply below_alloc | apply pw_below_drewN | apply below_drew1) | exact HB.out)))); have n1_ := Aside0.mk (below_step (by repeat (first | (with_reducible first | exact HB.out | apply below_alloc | apply pw_below_drewN | apply below_drew1) | exact HB.out)) hb); clear HB; have HO124 := n0_; have HB := n1_; clear n0_ n1_; clear hb ho68))
                              go_ret3
                              exact ⟨_, by first | rfl | (simp [errW_none, errW_some] <;> rfl) | (simp only [← hji9]; first | rfl | (simp [errW_none, errW_some] <;> rfl)) | (simp [*, errW_none, errW_some] <;> rfl), by (with_reducible repeat (first | apply Kd.R_alloc | apply Kd.R_drewN | apply Kd.R_drew)); exact HO124.out, by repeat (first | (with_reducible first | exact HB.out | apply below_alloc | apply pw_below_drewN | apply below_drew1) | exact HB.out)⟩
                · rw [if_neg c28] at H
                  have c28b0 : ((bt a0 (ji9)) == 123) = false := beq_eq_false_iff_ne.mpr c28
                  have c28b1 : ((bt a0 (ji9)) != 123) = true := bne_iff_ne.mpr c28
                  simp only [Option.some.injEq, Prod.mk.injEq] at H
                  obtain ⟨rfl, rfl, rfl⟩ := H
                  have p12 : 0 ≤ ((ji9) : Int) := of_decide_eq_true (by first | (with_reducible assumption) | assumption)
                  have q12 : (ji9) < (a0.size : Int) := of_decide_eq_true (by first | (with_reducible assumption) | assumption)
                  have hx12 := bt_at a0 (ji9)
                  replace p12 := eq_true p12
                  replace q12 := eq_true q12
                  go_wp2_with (first | ((with_reducible refine gate_callee (f := 120) rfl ?_); refine goesL_ (some 33) rfl rfl Tryz.func120 (by kernel_rfl) rfl #[.string a0, .int .i64 ji9] rfl (by (try simp only [List.map_toArray, List.map_cons, List.map_nil]); first | done | (simp only [hji9]; rfl) | rfl | (simp only [List.length_drop, List.length_take]; rfl)) ?_; (with_reducible refine (template_zzName.calls kj2 a0 ji9 t106 _ A16.out).mono ?_); rintro e w' ⟨rfl, ⟨nd, rfl⟩⟩; refine ⟨_, rfl, ?_⟩; have p27 : 0 ≤ ((ji9) : Int) := of_decide_eq_true (by first | (with_reducible assumption) | assumption); have q27 : (ji9) < (a0.size : Int) := of_decide_eq_true (by first | (with_reducible assumption) | assumption); have hx27 := bt_at a0 (ji9); replace p27 := eq_true p27; replace q27 := eq_true q27))
                  go_ret3
                  exact ⟨_, by first | rfl | (simp [errW_none, errW_some] <;> rfl) | (simp only [← hji9]; first | rfl | (simp [errW_none, errW_some] <;> rfl)) | (simp [*, errW_none, errW_some] <;> rfl), by first | exact Kd.R_nil _ _ _ _ _ | exact Kd.N_nil _ _ _ _ _ | exact Kd.V_nil _ _ _ _ _ | exact Kd.Q_nil _ _ _ _ _ | exact Kd.S_nil _ _ _ _ _, by repeat (first | (with_reducible first | exact HB.out | apply below_alloc | apply pw_below_drewN | apply below_drew1) | exact HB.out)⟩
          · rw [if_neg c11] at H
            exact absurd H (by simp)
        · rw [if_neg c10] at H
          exact absurd H (by simp)

end Go.Proofs.YtlncdacoefoldaaGreatDoor.PX
