-- Written by a program over the translation (xprint.py). Lean checks it.
import Derived.Test.YtklbghadhneejaaDoorPXx0
import Derived.Test.YtklbghadhneejaaDoorPXx2
namespace Go.Proofs.YtklbghadhneejaaDoor.PX
open Go.RowKit Go.Proofs.YtklbghadhneejaaDoorW.PrintWords Go.Proofs.YtklbghadhneejaaDoorW.PrintLast Go.Proofs.YtklbghadhneejaaDoorW.PrintMore
attribute [local go_sem] max2_int min2_int max_two min_two max_three min_three max_four min_four   -- for this text's walks alone
set_option linter.unusedVariables false
set_option linter.unusedSimpArgs false

/-! ### spec_FilePath: function 10 -/
def spec_FilePath.f (k : Nat) (a0 : ByteArray) : Option (Bool × Bool) := (spec_shortPath.f k a0).bind fun bt156 => (some (bt156.1, bt156.2))
theorem spec_FilePath.mono : ∀ a0 k, LeO (spec_FilePath.f k a0) (spec_FilePath.f (k + 1) a0) := by
  intro a0 k
  unfold spec_FilePath.f
  repeat' first
      | (with_reducible exact spec_shortPath.mono _ _)
      | (with_reducible exact LeO.refl _)
      | (with_reducible exact LeO.none _)
      | (with_reducible refine LeO.ite ?_ ?_)
      | (with_reducible refine LeO.bind ?_ (fun _ => ?_))
      | exact spec_shortPath.mono _ _
      | exact LeO.none _
      | refine LeO.ite ?_ ?_
      | refine LeO.bind ?_ (fun _ => ?_)
set_option maxHeartbeats 8000000 in
set_option maxRecDepth 100000 in
theorem spec_FilePath.calls (k : Nat) (a0 : ByteArray) (r1 : Bool) (r2 : Bool) (w : World) (h : spec_FilePath.f k a0 = some (r1, r2)) :
    Calls Tryd.prog 10 #[.string a0] w fun e w' => e = .returned (.tuple #[.bool r1, .bool r2]) ∧ Drawn0 w w' := by
  have H : ((spec_shortPath.f k a0).bind fun bt156 => (some (bt156.1, bt156.2))) = some (r1, r2) := h
  clear h
  replace H := Option.bind_eq_some_iff.mp H
  obtain ⟨⟨t156, t157⟩, A20, H⟩ := H
  replace H : (some (t156, t157)) = some (r1, r2) := H
  have A2 := Aside0.mk A20
  clear A20
  simp only [Option.some.injEq, Prod.mk.injEq] at H
  obtain ⟨rfl, rfl⟩ := H
  go_enter Tryd.func10, Tryd.ntmps10
  go_wp2_with (first | ((with_reducible refine gate_callee (f := 13) rfl ?_); refine goesL_ (some 5) rfl rfl Tryd.func13 (by kernel_rfl) rfl #[.string a0] rfl (by (try simp only [List.map_toArray, List.map_cons, List.map_nil]); first | done | rfl | (simp only [List.length_drop, List.length_take]; rfl)) ?_; (with_reducible refine (spec_shortPath.calls k a0 t156 t157 _ A2.out).mono ?_); rintro e w' ⟨rfl, ⟨nd, rfl⟩⟩; refine ⟨_, rfl, ?_⟩))
  go_ret2
  exact ⟨by first | rfl | (simp; done) | (simp [*]; done), by repeat (first | exact Drawn0.refl _ | apply Drawn0.step)⟩

/-! ### format_zzIndex: function 32 -/
def format_zzIndex.l0 : Nat → ByteArray → ByteArray → Int → Option (Int)
  | 0, _, _, _ => none
  | k + 1, x0, x1, x5 => if (wrap64 (x5 + (x1.size : Int))) ≤ (x0.size : Int) then (if 0 ≤ x5 then (if x5 ≤ (wrap64 (x5 + (x1.size : Int))) then (if (x0.extract (x5 : Int).toNat ((wrap64 (x5 + (x1.size : Int))) : Int).toNat).toList = x1.toList then (some x5) else (format_zzIndex.l0 k x0 x1 (wrap64 (x5 + 1)))) else (none)) else (none)) else (some (-1))
def format_zzIndex.f (k : Nat) (a0 : ByteArray) (a1 : ByteArray) : Option (Int) := format_zzIndex.l0 k a0 a1 0
theorem format_zzIndex.mono_l : ∀ k, (∀ y0 y1 y2, LeO (format_zzIndex.l0 k y0 y1 y2) (format_zzIndex.l0 (k + 1) y0 y1 y2))
  | 0 => fun _ _ _ r h => by simp [format_zzIndex.l0] at h
  | k + 1 => by
    have ih0 := format_zzIndex.mono_l k
    · intro y0 y1 y2
      unfold format_zzIndex.l0
      repeat' first
      | (with_reducible exact ih0 _ _ _)
      | (with_reducible exact LeO.refl _)
      | (with_reducible exact LeO.none _)
      | (with_reducible refine LeO.ite ?_ ?_)
      | (with_reducible refine LeO.bind ?_ (fun _ => ?_))
      | exact ih0 _ _ _
      | exact LeO.none _
      | refine LeO.ite ?_ ?_
      | refine LeO.bind ?_ (fun _ => ?_)
theorem format_zzIndex.mono : ∀ a0 a1 k, LeO (format_zzIndex.f k a0 a1) (format_zzIndex.f (k + 1) a0 a1) := by
  intro a0 a1 k
  have ih0 := format_zzIndex.mono_l k
  unfold format_zzIndex.f
  repeat' first
      | (with_reducible exact ih0 _ _ _)
      | (with_reducible exact LeO.refl _)
      | (with_reducible exact LeO.none _)
      | (with_reducible refine LeO.ite ?_ ?_)
      | (with_reducible refine LeO.bind ?_ (fun _ => ?_))
      | exact ih0 _ _ _
      | exact LeO.none _
      | refine LeO.ite ?_ ?_
      | refine LeO.bind ?_ (fun _ => ?_)
set_option maxHeartbeats 8000000 in
set_option maxRecDepth 100000 in
theorem format_zzIndex.calls (k : Nat) (a0 : ByteArray) (a1 : ByteArray) (r : Int) (w : World) (h : format_zzIndex.f k a0 a1 = some r) :
    Calls Tryd.prog 32 #[.string a0, .string a1] w fun e w' => e = .returned (.int .i64 r) ∧ Drawn0 w w' := by
  have H : (format_zzIndex.l0 k a0 a1 0) = some r := h
  clear h
  have H' := Aside0.mk H
  clear H
  go_enter Tryd.func32, Tryd.ntmps32
  go_wp2
  go_loopg [5] k (fun kq v5 w' => ∃ (x5_1 : Int), v5 = .int .i64 x5_1 ∧ Aside0 (format_zzIndex.l0 kq a0 a1 x5_1 = some r) ∧ Aside0 (kq ≤ k) ∧ Drawn0 w w')
  case atStart => exact ⟨(0), (by first | rfl | (simp; done) | (simp [*]; done)), H', ⟨Nat.le_refl _⟩, by repeat (first | exact Drawn0.refl _ | apply Drawn0.step)⟩
  case round =>
    clear H'
    try clear p2
    obtain ⟨x5_1, rfl, HA, HK1, ⟨m1, rfl⟩⟩ := hrel
    cases gk with
    | zero => exact absurd HA.out (by simp [format_zzIndex.l0])
    | succ k1 =>
      have H := HA.out
      clear HA
      simp only [format_zzIndex.l0] at H
      by_cases c3 : (wrap64 (x5_1 + (a1.size : Int))) ≤ (a0.size : Int)
      · rw [if_pos c3] at H
        have c3b0 : decide ((wrap64 (x5_1 + (a1.size : Int))) ≤ (a0.size : Int)) = true := decide_eq_true c3
        clear c3
        by_cases c4 : 0 ≤ x5_1
        · rw [if_pos c4] at H
          have c4b0 := eq_true c4
          have c4b1 : decide (0 ≤ x5_1) = true := decide_eq_true c4
          clear c4
          by_cases c5 : x5_1 ≤ (wrap64 (x5_1 + (a1.size : Int)))
          · rw [if_pos c5] at H
            have c5b0 := eq_true c5
            have c5b1 : decide (x5_1 ≤ (wrap64 (x5_1 + (a1.size : Int)))) = true := decide_eq_true c5
            have c6b0 := eq_true (of_decide_eq_true (by first | (with_reducible assumption) | assumption) : (wrap64 (x5_1 + (a1.size : Int))) ≤ (a0.size : Int))
            by_cases c7 : (a0.extract (x5_1 : Int).toNat ((wrap64 (x5_1 + (a1.size : Int))) : Int).toNat).toList = a1.toList
            · rw [if_pos c7] at H
              have c7b0 : ((a0.extract (x5_1 : Int).toNat ((wrap64 (x5_1 + (a1.size : Int))) : Int).toNat).toList == a1.toList) = true := beq_iff_eq.mpr c7
              have c7b1 : ((a0.extract (x5_1 : Int).toNat ((wrap64 (x5_1 + (a1.size : Int))) : Int).toNat).toList != a1.toList) = false := bne_eq_false_iff_eq.mpr c7
              clear c7
              obtain rfl := Option.some.inj H
              go_wp2
              go_ret
              exact ⟨by first | rfl | (simp; done) | (simp [*]; done), by repeat (first | exact Drawn0.refl _ | apply Drawn0.step)⟩
            · rw [if_neg c7] at H
              have c7b0 : ((a0.extract (x5_1 : Int).toNat ((wrap64 (x5_1 + (a1.size : Int))) : Int).toNat).toList == a1.toList) = false := beq_eq_false_iff_ne.mpr c7
              have c7b1 : ((a0.extract (x5_1 : Int).toNat ((wrap64 (x5_1 + (a1.size : Int))) : Int).toNat).toList != a1.toList) = true := bne_iff_ne.mpr c7
              have H' := Aside0.mk H
              clear H
              go_wp2
              go_roundg k1
              case measure => have := HK1.out; omega
              case rel => exact ⟨(wrap64 (x5_1 + 1)), (by first | rfl | (simp; done) | (simp [*]; done)), H', ⟨by have := HK1.out; omega⟩, by repeat (first | exact Drawn0.refl _ | apply Drawn0.step)⟩
          · rw [if_neg c5] at H
            exact absurd H (by simp)
        · rw [if_neg c4] at H
          exact absurd H (by simp)
      · rw [if_neg c3] at H
        have c3b0 : decide ((wrap64 (x5_1 + (a1.size : Int))) ≤ (a0.size : Int)) = false := decide_eq_false c3
        clear c3
        obtain rfl := Option.some.inj H
        go_wp2
        go_ret
        exact ⟨by first | rfl | (simp; done) | (simp [*]; done), by repeat (first | exact Drawn0.refl _ | apply Drawn0.step)⟩

-- NOT PRINTED: function 26 (format_zzSplit)

/-! ### format_isBindOption: function 27 -/
def format_isBindOption.f (a0 : ByteArray) : Option (Bool) := if a0.toList = ([114, 112, 114, 105, 118, 97, 116, 101] : List UInt8) then (some true) else (if a0.toList = ([112, 114, 105, 118, 97, 116, 101] : List UInt8) then (some true) else (if a0.toList = ([114, 115, 104, 97, 114, 101, 100] : List UInt8) then (some true) else (if a0.toList = ([115, 104, 97, 114, 101, 100] : List UInt8) then (some true) else (if a0.toList = ([114, 115, 108, 97, 118, 101] : List UInt8) then (some true) else (if a0.toList = ([115, 108, 97, 118, 101] : List UInt8) then (some true) else (if a0.toList = ([122] : List UInt8) then (some true) else (if a0.toList = ([90] : List UInt8) then (some true) else (some false))))))))
set_option maxHeartbeats 8000000 in
set_option maxRecDepth 100000 in
theorem format_isBindOption.calls (a0 : ByteArray) (r : Bool) (w : World) (h : format_isBindOption.f a0 = some r) :
    Calls Tryd.prog 27 #[.string a0] w fun e w' => e = .returned (.bool r) ∧ Drawn0 w w' := by
  have H : (if a0.toList = ([114, 112, 114, 105, 118, 97, 116, 101] : List UInt8) then (some true) else (if a0.toList = ([112, 114, 105, 118, 97, 116, 101] : List UInt8) then (some true) else (if a0.toList = ([114, 115, 104, 97, 114, 101, 100] : List UInt8) then (some true) else (if a0.toList = ([115, 104, 97, 114, 101, 100] : List UInt8) then (some true) else (if a0.toList = ([114, 115, 108, 97, 118, 101] : List UInt8) then (some true) else (if a0.toList = ([115, 108, 97, 118, 101] : List UInt8) then (some true) else (if a0.toList = ([122] : List UInt8) then (some true) else (if a0.toList = ([90] : List UInt8) then (some true) else (some false))))))))) = some r := h
  clear h
  by_cases c2 : a0.toList = ([114, 112, 114, 105, 118, 97, 116, 101] : List UInt8)
  · rw [if_pos c2] at H
    have c2b0 : (a0.toList == ([114, 112, 114, 105, 118, 97, 116, 101] : List UInt8)) = true := beq_iff_eq.mpr c2
    have c2b1 : (a0.toList != ([114, 112, 114, 105, 118, 97, 116, 101] : List UInt8)) = false := bne_eq_false_iff_eq.mpr c2
    clear c2
    obtain rfl := Option.some.inj H
    go_enter Tryd.func27, Tryd.ntmps27
    go_wp2
    go_ret
    exact ⟨by first | rfl | (simp; done) | (simp [*]; done), by repeat (first | exact Drawn0.refl _ | apply Drawn0.step)⟩
  · rw [if_neg c2] at H
    have c2b0 : (a0.toList == ([114, 112, 114, 105, 118, 97, 116, 101] : List UInt8)) = false := beq_eq_false_iff_ne.mpr c2
    have c2b1 : (a0.toList != ([114, 112, 114, 105, 118, 97, 116, 101] : List UInt8)) = true := bne_iff_ne.mpr c2
    by_cases c3 : a0.toList = ([112, 114, 105, 118, 97, 116, 101] : List UInt8)
    · rw [if_pos c3] at H
      have c3b0 : (a0.toList == ([112, 114, 105, 118, 97, 116, 101] : List UInt8)) = true := beq_iff_eq.mpr c3
      have c3b1 : (a0.toList != ([112, 114, 105, 118, 97, 116, 101] : List UInt8)) = false := bne_eq_false_iff_eq.mpr c3
      clear c3
      obtain rfl := Option.some.inj H
      go_enter Tryd.func27, Tryd.ntmps27
      go_wp2
      go_ret
      exact ⟨by first | rfl | (simp; done) | (simp [*]; done), by repeat (first | exact Drawn0.refl _ | apply Drawn0.step)⟩
    · rw [if_neg c3] at H
      have c3b0 : (a0.toList == ([112, 114, 105, 118, 97, 116, 101] : List UInt8)) = false := beq_eq_false_iff_ne.mpr c3
      have c3b1 : (a0.toList != ([112, 114, 105, 118, 97, 116, 101] : List UInt8)) = true := bne_iff_ne.mpr c3
      by_cases c4 : a0.toList = ([114, 115, 104, 97, 114, 101, 100] : List UInt8)
      · rw [if_pos c4] at H
        have c4b0 : (a0.toList == ([114, 115, 104, 97, 114, 101, 100] : List UInt8)) = true := beq_iff_eq.mpr c4
        have c4b1 : (a0.toList != ([114, 115, 104, 97, 114, 101, 100] : List UInt8)) = false := bne_eq_false_iff_eq.mpr c4
        clear c4
        obtain rfl := Option.some.inj H
        go_enter Tryd.func27, Tryd.ntmps27
        go_wp2
        go_ret
        exact ⟨by first | rfl | (simp; done) | (simp [*]; done), by repeat (first | exact Drawn0.refl _ | apply Drawn0.step)⟩
      · rw [if_neg c4] at H
        have c4b0 : (a0.toList == ([114, 115, 104, 97, 114, 101, 100] : List UInt8)) = false := beq_eq_false_iff_ne.mpr c4
        have c4b1 : (a0.toList != ([114, 115, 104, 97, 114, 101, 100] : List UInt8)) = true := bne_iff_ne.mpr c4
        by_cases c5 : a0.toList = ([115, 104, 97, 114, 101, 100] : List UInt8)
        · rw [if_pos c5] at H
          have c5b0 : (a0.toList == ([115, 104, 97, 114, 101, 100] : List UInt8)) = true := beq_iff_eq.mpr c5
          have c5b1 : (a0.toList != ([115, 104, 97, 114, 101, 100] : List UInt8)) = false := bne_eq_false_iff_eq.mpr c5
          clear c5
          obtain rfl := Option.some.inj H
          go_enter Tryd.func27, Tryd.ntmps27
          go_wp2
          go_ret
          exact ⟨by first | rfl | (simp; done) | (simp [*]; done), by repeat (first | exact Drawn0.refl _ | apply Drawn0.step)⟩
        · rw [if_neg c5] at H
          have c5b0 : (a0.toList == ([115, 104, 97, 114, 101, 100] : List UInt8)) = false := beq_eq_false_iff_ne.mpr c5
          have c5b1 : (a0.toList != ([115, 104, 97, 114, 101, 100] : List UInt8)) = true := bne_iff_ne.mpr c5
          by_cases c6 : a0.toList = ([114, 115, 108, 97, 118, 101] : List UInt8)
          · rw [if_pos c6] at H
            have c6b0 : (a0.toList == ([114, 115, 108, 97, 118, 101] : List UInt8)) = true := beq_iff_eq.mpr c6
            have c6b1 : (a0.toList != ([114, 115, 108, 97, 118, 101] : List UInt8)) = false := bne_eq_false_iff_eq.mpr c6
            clear c6
            obtain rfl := Option.some.inj H
            go_enter Tryd.func27, Tryd.ntmps27
            go_wp2
            go_ret
            exact ⟨by first | rfl | (simp; done) | (simp [*]; done), by repeat (first | exact Drawn0.refl _ | apply Drawn0.step)⟩
          · rw [if_neg c6] at H
            have c6b0 : (a0.toList == ([114, 115, 108, 97, 118, 101] : List UInt8)) = false := beq_eq_false_iff_ne.mpr c6
            have c6b1 : (a0.toList != ([114, 115, 108, 97, 118, 101] : List UInt8)) = true := bne_iff_ne.mpr c6
            by_cases c7 : a0.toList = ([115, 108, 97, 118, 101] : List UInt8)
            · rw [if_pos c7] at H
              have c7b0 : (a0.toList == ([115, 108, 97, 118, 101] : List UInt8)) = true := beq_iff_eq.mpr c7
              have c7b1 : (a0.toList != ([115, 108, 97, 118, 101] : List UInt8)) = false := bne_eq_false_iff_eq.mpr c7
              clear c7
              obtain rfl := Option.some.inj H
              go_enter Tryd.func27, Tryd.ntmps27
              go_wp2
              go_ret
              exact ⟨by first | rfl | (simp; done) | (simp [*]; done), by repeat (first | exact Drawn0.refl _ | apply Drawn0.step)⟩
            · rw [if_neg c7] at H
              have c7b0 : (a0.toList == ([115, 108, 97, 118, 101] : List UInt8)) = false := beq_eq_false_iff_ne.mpr c7
              have c7b1 : (a0.toList != ([115, 108, 97, 118, 101] : List UInt8)) = true := bne_iff_ne.mpr c7
              by_cases c8 : a0.toList = ([122] : List UInt8)
              · rw [if_pos c8] at H
                have c8b0 : (a0.toList == ([122] : List UInt8)) = true := beq_iff_eq.mpr c8
                have c8b1 : (a0.toList != ([122] : List UInt8)) = false := bne_eq_false_iff_eq.mpr c8
                clear c8
                obtain rfl := Option.some.inj H
                go_enter Tryd.func27, Tryd.ntmps27
                go_wp2
                go_ret
                exact ⟨by first | rfl | (simp; done) | (simp [*]; done), by repeat (first | exact Drawn0.refl _ | apply Drawn0.step)⟩
              · rw [if_neg c8] at H
                have c8b0 : (a0.toList == ([122] : List UInt8)) = false := beq_eq_false_iff_ne.mpr c8
                have c8b1 : (a0.toList != ([122] : List UInt8)) = true := bne_iff_ne.mpr c8
                by_cases c9 : a0.toList = ([90] : List UInt8)
                · rw [if_pos c9] at H
                  have c9b0 : (a0.toList == ([90] : List UInt8)) = true := beq_iff_eq.mpr c9
                  have c9b1 : (a0.toList != ([90] : List UInt8)) = false := bne_eq_false_iff_eq.mpr c9
                  clear c9
                  obtain rfl := Option.some.inj H
                  go_enter Tryd.func27, Tryd.ntmps27
                  go_wp2
                  go_ret
                  exact ⟨by first | rfl | (simp; done) | (simp [*]; done), by repeat (first | exact Drawn0.refl _ | apply Drawn0.step)⟩
                · rw [if_neg c9] at H
                  have c9b0 : (a0.toList == ([90] : List UInt8)) = false := beq_eq_false_iff_ne.mpr c9
                  have c9b1 : (a0.toList != ([90] : List UInt8)) = true := bne_iff_ne.mpr c9
                  obtain rfl := Option.some.inj H
                  go_enter Tryd.func27, Tryd.ntmps27
                  go_wp2
                  go_ret
                  exact ⟨by first | rfl | (simp; done) | (simp [*]; done), by repeat (first | exact Drawn0.refl _ | apply Drawn0.step)⟩

/-! ### laws_shortVolume: function 9 -/
def laws_shortVolume.f (a0_0 : ByteArray) (a0_1 : ByteArray) (a0_2 : ByteArray) (a0_3 : ByteArray) (a0_4 : ByteArray) (a0_5 : ByteArray) (a0_6 : Bool) (a0_7 : Bool) (a0_8 : Bool) (a0_9 : Bool) (a0_10 : Bool) (a0_11 : Bool) : Option (ByteArray × ByteArray × ByteArray × ByteArray × ByteArray × Bool × Bool × Bool) := some (a0_0, a0_1, a0_2, a0_4, a0_5, a0_6, a0_7, a0_8)
set_option maxHeartbeats 8000000 in
set_option maxRecDepth 100000 in
theorem laws_shortVolume.calls (a0_0 : ByteArray) (a0_1 : ByteArray) (a0_2 : ByteArray) (a0_3 : ByteArray) (a0_4 : ByteArray) (a0_5 : ByteArray) (a0_6 : Bool) (a0_7 : Bool) (a0_8 : Bool) (a0_9 : Bool) (a0_10 : Bool) (a0_11 : Bool) (r1 : ByteArray) (r2 : ByteArray) (r3 : ByteArray) (r4 : ByteArray) (r5 : ByteArray) (r6 : Bool) (r7 : Bool) (r8 : Bool) (w : World) (h : laws_shortVolume.f a0_0 a0_1 a0_2 a0_3 a0_4 a0_5 a0_6 a0_7 a0_8 a0_9 a0_10 a0_11 = some (r1, r2, r3, r4, r5, r6, r7, r8)) :
    Calls Tryd.prog 9 #[.agg #[.string a0_0, .string a0_1, .string a0_2, .string a0_3, .string a0_4, .string a0_5, .bool a0_6, .bool a0_7, .bool a0_8, .bool a0_9, .bool a0_10, .bool a0_11]] w fun e w' => e = .returned (.agg #[.string r1, .string r2, .string r3, .string r4, .string r5, .bool r6, .bool r7, .bool r8]) ∧ Below w.heap.size w w' := by
  have hu30 := Tryd.underlying30
  have hu25 := Tryd.underlying25
  have HB := Aside0.mk (Below.refl w.heap.size w)
  have H : (some (a0_0, a0_1, a0_2, a0_4, a0_5, a0_6, a0_7, a0_8)) = some (r1, r2, r3, r4, r5, r6, r7, r8) := h
  clear h
  simp only [Option.some.injEq, Prod.mk.injEq] at H
  obtain ⟨rfl, rfl, rfl, rfl, rfl, rfl, rfl, rfl⟩ := H
  go_enter Tryd.func9, Tryd.ntmps9
  go_wp2_with (first | ((with_reducible refine gate_dst (N := 1) rfl ?_); refine box_event ?hg (N := 1) ?hd (cs := #[.string a0_0, .string a0_1, .string a0_2, .string a0_3, .string a0_4, .string a0_5, .bool a0_6, .bool a0_7, .bool a0_8, .bool a0_9, .bool a0_10, .bool a0_11]) (t := 30) ?hr ?_; (case hd => rfl); (case hg => rfl); (case hr => first | (go_simp; done) | (go_simp; rfl)); intro gb158 hg w2 hbox hb; have n0_ := Aside0.mk (below_step (by repeat (first | (with_reducible first | exact HB.out | apply below_alloc | apply pw_below_drewN | apply below_drew1) | exact HB.out)) hb); have n1_ := Aside0.mk (hbox); have n2_ := Aside0.mk ((by rw [hg]; exact (below_size (by repeat (first | (with_reducible first | exact HB.out | apply below_alloc | apply pw_below_drewN | apply below_drew1) | exact HB.out))) : w.heap.size ≤ gb158)); have n3_ := Aside0.mk ((by rw [hg]; exact (below_size (by repeat (first | (with_reducible first | exact HB.out | apply below_alloc | apply pw_below_drewN | apply below_drew1) | exact HB.out))) : w.heap.size ≤ gb158)); clear HB; have HB := n0_; have BK158 := n1_; have GW158 := n2_; have GE158 := n3_; clear n0_ n1_ n2_ n3_; clear hb hbox hg) | ((with_reducible refine gate_dst (N := 2) rfl ?_); refine box_event ?hg (N := 2) ?hd (cs := #[.string (⟨#[]⟩ : ByteArray), .string (⟨#[]⟩ : ByteArray), .string (⟨#[]⟩ : ByteArray), .string (⟨#[]⟩ : ByteArray), .string (⟨#[]⟩ : ByteArray), .bool false, .bool false, .bool false]) (t := 25) ?hr ?_; (case hd => rfl); (case hg => rfl); (case hr => first | (go_simp; done) | (go_simp; rfl)); intro gb159 hg w3 hbox hb; have n0_ := Aside0.mk (blk_below (g := gb158) (o := .cells #[.string a0_0, .string a0_1, .string a0_2, .string a0_3, .string a0_4, .string a0_5, .bool a0_6, .bool a0_7, .bool a0_8, .bool a0_9, .bool a0_10, .bool a0_11] 30 (0, 0)) (by (with_reducible repeat (first | refine blk_drewN ?_ _ | refine blk_drew ?_ | refine blk_alloc ?_ _)); exact BK158.out) hb); have n1_ := Aside0.mk (below_step (by repeat (first | (with_reducible first | exact HB.out | apply below_alloc | apply pw_below_drewN | apply below_drew1 | refine below_set ?_ GE158.out) | exact HB.out)) hb); have n2_ := Aside0.mk (hbox); have n3_ := Aside0.mk ((by rw [hg]; exact (below_size (by repeat (first | (with_reducible first | exact HB.out | apply below_alloc | apply pw_below_drewN | apply below_drew1 | refine below_set ?_ GE158.out) | exact HB.out))) : w.heap.size ≤ gb159)); have n4_ := Aside0.mk ((by rw [hg]; exact (below_size (by repeat (first | (with_reducible first | exact HB.out | apply below_alloc | apply pw_below_drewN | apply below_drew1 | refine below_set ?_ GE158.out) | exact HB.out))) : w.heap.size ≤ gb159)); have n5_ := Aside0.mk ((by rw [hg]; exact Nat.ne_of_lt (blk_lt (g := gb158) (o := .cells #[.string a0_0, .string a0_1, .string a0_2, .string a0_3, .string a0_4, .string a0_5, .bool a0_6, .bool a0_7, .bool a0_8, .bool a0_9, .bool a0_10, .bool a0_11] 30 (0, 0)) (by (with_reducible repeat (first | refine blk_drewN ?_ _ | refine blk_drew ?_ | refine blk_alloc ?_ _)); exact BK158.out)) : gb158 ≠ gb159)); have n6_ := Aside0.mk ((by rw [hg]; exact Nat.ne_of_gt (blk_lt (g := gb158) (o := .cells #[.string a0_0, .string a0_1, .string a0_2, .string a0_3, .string a0_4, .string a0_5, .bool a0_6, .bool a0_7, .bool a0_8, .bool a0_9, .bool a0_10, .bool a0_11] 30 (0, 0)) (by (with_reducible repeat (first | refine blk_drewN ?_ _ | refine blk_drew ?_ | refine blk_alloc ?_ _)); exact BK158.out)) : gb159 ≠ gb158)); clear BK158; clear HB; have BK158 := n0_; have HB := n1_; have BK159 := n2_; have GW159 := n3_; have GE159 := n4_; have NB158_159 := n5_; have NB159_158 := n6_; clear n0_ n1_ n2_ n3_ n4_ n5_ n6_; clear hb hbox hg; have hnb4 := NB158_159.out; have hnc4 := NB159_158.out; have hcz5_0 : w3.cell? ⟨gb158, 0, none⟩ = some (.string a0_0) := (blk_cell BK158.out 0).trans rfl; have hcz5_1 : w3.cell? ⟨gb158, 1, none⟩ = some (.string a0_1) := (blk_cell BK158.out 1).trans rfl; have hcz5_2 : w3.cell? ⟨gb158, 2, none⟩ = some (.string a0_2) := (blk_cell BK158.out 2).trans rfl; have hcz5_3 : w3.cell? ⟨gb158, 3, none⟩ = some (.string a0_3) := (blk_cell BK158.out 3).trans rfl; have hcz5_4 : w3.cell? ⟨gb158, 4, none⟩ = some (.string a0_4) := (blk_cell BK158.out 4).trans rfl; have hcz5_5 : w3.cell? ⟨gb158, 5, none⟩ = some (.string a0_5) := (blk_cell BK158.out 5).trans rfl; have hcz5_6 : w3.cell? ⟨gb158, 6, none⟩ = some (.bool a0_6) := (blk_cell BK158.out 6).trans rfl; have hcz5_7 : w3.cell? ⟨gb158, 7, none⟩ = some (.bool a0_7) := (blk_cell BK158.out 7).trans rfl; have hcz5_8 : w3.cell? ⟨gb158, 8, none⟩ = some (.bool a0_8) := (blk_cell BK158.out 8).trans rfl; have hcz5_9 : w3.cell? ⟨gb158, 9, none⟩ = some (.bool a0_9) := (blk_cell BK158.out 9).trans rfl; have hcz5_10 : w3.cell? ⟨gb158, 10, none⟩ = some (.bool a0_10) := (blk_cell BK158.out 10).trans rfl; have hcz5_11 : w3.cell? ⟨gb158, 11, none⟩ = some (.bool a0_11) := (blk_cell BK158.out 11).trans rfl; have hfz5_0 := blk_frozen BK158.out 0; have hfz5_1 := blk_frozen BK158.out 1; have hfz5_2 := blk_frozen BK158.out 2; have hfz5_3 := blk_frozen BK158.out 3; have hfz5_4 := blk_frozen BK158.out 4; have hfz5_5 := blk_frozen BK158.out 5; have hfz5_6 := blk_frozen BK158.out 6; have hfz5_7 := blk_frozen BK158.out 7; have hfz5_8 := blk_frozen BK158.out 8; have hfz5_9 := blk_frozen BK158.out 9; have hfz5_10 := blk_frozen BK158.out 10; have hfz5_11 := blk_frozen BK158.out 11; have hcz6_0 : w3.cell? ⟨gb159, 0, none⟩ = some (.string (⟨#[]⟩ : ByteArray)) := (blk_cell BK159.out 0).trans rfl; have hcz6_1 : w3.cell? ⟨gb159, 1, none⟩ = some (.string (⟨#[]⟩ : ByteArray)) := (blk_cell BK159.out 1).trans rfl; have hcz6_2 : w3.cell? ⟨gb159, 2, none⟩ = some (.string (⟨#[]⟩ : ByteArray)) := (blk_cell BK159.out 2).trans rfl; have hcz6_3 : w3.cell? ⟨gb159, 3, none⟩ = some (.string (⟨#[]⟩ : ByteArray)) := (blk_cell BK159.out 3).trans rfl; have hcz6_4 : w3.cell? ⟨gb159, 4, none⟩ = some (.string (⟨#[]⟩ : ByteArray)) := (blk_cell BK159.out 4).trans rfl; have hcz6_5 : w3.cell? ⟨gb159, 5, none⟩ = some (.bool false) := (blk_cell BK159.out 5).trans rfl; have hcz6_6 : w3.cell? ⟨gb159, 6, none⟩ = some (.bool false) := (blk_cell BK159.out 6).trans rfl; have hcz6_7 : w3.cell? ⟨gb159, 7, none⟩ = some (.bool false) := (blk_cell BK159.out 7).trans rfl; have hfz6_0 := blk_frozen BK159.out 0; have hfz6_1 := blk_frozen BK159.out 1; have hfz6_2 := blk_frozen BK159.out 2; have hfz6_3 := blk_frozen BK159.out 3; have hfz6_4 := blk_frozen BK159.out 4; have hfz6_5 := blk_frozen BK159.out 5; have hfz6_6 := blk_frozen BK159.out 6; have hfz6_7 := blk_frozen BK159.out 7))
  refine bodyPost_ret (results_cell_row rfl _ _ gb159 25 #[.string a0_0, .string a0_1, .string a0_2, .string a0_4, .string a0_5, .bool a0_6, .bool a0_7, .bool a0_8] (0, 0) _ rfl (by (with_reducible repeat (first | refine blk_drewN ?_ _ | refine blk_drew ?_ | refine blk_alloc ?_ _)); refine blk_put (cs := #[.string a0_0, .string a0_1, .string a0_2, .string a0_4, .string a0_5, .bool a0_6, .bool a0_7, .bool false]) ?_ 7 _ rfl; (with_reducible repeat (first | refine blk_drewN ?_ _ | refine blk_drew ?_ | refine blk_alloc ?_ _)); refine blk_put (cs := #[.string a0_0, .string a0_1, .string a0_2, .string a0_4, .string a0_5, .bool a0_6, .bool false, .bool false]) ?_ 6 _ rfl; (with_reducible repeat (first | refine blk_drewN ?_ _ | refine blk_drew ?_ | refine blk_alloc ?_ _)); refine blk_put (cs := #[.string a0_0, .string a0_1, .string a0_2, .string a0_4, .string a0_5, .bool false, .bool false, .bool false]) ?_ 5 _ rfl; (with_reducible repeat (first | refine blk_drewN ?_ _ | refine blk_drew ?_ | refine blk_alloc ?_ _)); refine blk_put (cs := #[.string a0_0, .string a0_1, .string a0_2, .string a0_4, .string (⟨#[]⟩ : ByteArray), .bool false, .bool false, .bool false]) ?_ 4 _ rfl; (with_reducible repeat (first | refine blk_drewN ?_ _ | refine blk_drew ?_ | refine blk_alloc ?_ _)); refine blk_put (cs := #[.string a0_0, .string a0_1, .string a0_2, .string (⟨#[]⟩ : ByteArray), .string (⟨#[]⟩ : ByteArray), .bool false, .bool false, .bool false]) ?_ 3 _ rfl; (with_reducible repeat (first | refine blk_drewN ?_ _ | refine blk_drew ?_ | refine blk_alloc ?_ _)); refine blk_put (cs := #[.string a0_0, .string a0_1, .string (⟨#[]⟩ : ByteArray), .string (⟨#[]⟩ : ByteArray), .string (⟨#[]⟩ : ByteArray), .bool false, .bool false, .bool false]) ?_ 2 _ rfl; (with_reducible repeat (first | refine blk_drewN ?_ _ | refine blk_drew ?_ | refine blk_alloc ?_ _)); refine blk_put (cs := #[.string a0_0, .string (⟨#[]⟩ : ByteArray), .string (⟨#[]⟩ : ByteArray), .string (⟨#[]⟩ : ByteArray), .string (⟨#[]⟩ : ByteArray), .bool false, .bool false, .bool false]) ?_ 1 _ rfl; (with_reducible repeat (first | refine blk_drewN ?_ _ | refine blk_drew ?_ | refine blk_alloc ?_ _)); refine blk_put (cs := #[.string (⟨#[]⟩ : ByteArray), .string (⟨#[]⟩ : ByteArray), .string (⟨#[]⟩ : ByteArray), .string (⟨#[]⟩ : ByteArray), .string (⟨#[]⟩ : ByteArray), .bool false, .bool false, .bool false]) ?_ 0 _ rfl; (with_reducible repeat (first | refine blk_drewN ?_ _ | refine blk_drew ?_ | refine blk_alloc ?_ _)); exact BK159.out) Tryd.underlying25 rfl (by kernel_rfl)) rfl ?_
  exact ⟨by first | rfl | (simp [errW_none, errW_some] <;> rfl) | (simp [*, errW_none, errW_some] <;> rfl), by repeat (first | (with_reducible first | exact HB.out | apply below_alloc | apply pw_below_drewN | apply below_drew1 | refine below_set ?_ GE158.out | refine below_set ?_ GE159.out) | exact HB.out)⟩

end Go.Proofs.YtklbghadhneejaaDoor.PX
