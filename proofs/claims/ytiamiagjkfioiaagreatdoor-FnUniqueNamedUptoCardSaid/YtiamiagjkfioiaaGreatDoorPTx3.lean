-- Written by a program over the translation (xprint.py). Lean checks it.
import Derived.Test.YtiamiagjkfioiaaGreatDoorPTx0
namespace Go.Proofs.YtiamiagjkfioiaaGreatDoor.PT
open Go.RowKit Go.Proofs.YtiamiagjkfioiaaGreatDoorW.PrintWords Go.Proofs.YtiamiagjkfioiaaGreatDoorW.PrintLast Go.Proofs.YtiamiagjkfioiaaGreatDoorW.PrintMore
attribute [local go_sem] max2_int min2_int max_two min_two max_three min_three max_four min_four   -- for this text's walks alone
set_option linter.unusedVariables false
set_option linter.unusedSimpArgs false

/-! ### spec_Same: function 15 -/
mutual
def spec_Same.j0 : Nat → Bool → Int → Int → ByteArray → List ByteArray → List (S26) → Int → Int → ByteArray → List ByteArray → List (S26) → Option (Bool)
  | 0, _, _, _, _, _, _, _, _, _, _, _ => none
  | k + 1, x43, x146000, x146001, x146002, x146003, x146004, x147000, x147001, x147002, x147003, x147004 => if x43 = true then (some false) else (spec_Same.l0 k 0 x146000 x146001 x146002 x146003 x146004 x147000 x147001 x147002 x147003 x147004)
def spec_Same.l0 : Nat → Int → Int → Int → ByteArray → List ByteArray → List (S26) → Int → Int → ByteArray → List ByteArray → List (S26) → Option (Bool)
  | 0, _, _, _, _, _, _, _, _, _, _, _ => none
  | k + 1, x5, x146000, x146001, x146002, x146003, x146004, x147000, x147001, x147002, x147003, x147004 => if x5 < (x146003.length : Int) then (if 0 ≤ x5 then (if x5 < (x147003.length : Int) then (if (rdOf ByteArray.empty x146003 x5).toList = (rdOf ByteArray.empty x147003 x5).toList then (spec_Same.l0 k (wrap64 (x5 + 1)) x146000 x146001 x146002 x146003 x146004 x147000 x147001 x147002 x147003 x147004) else (some false)) else (none)) else (none)) else (spec_Same.l1 k 0 x146000 x146001 x146002 x146003 x146004 x147000 x147001 x147002 x147003 x147004)
def spec_Same.l1 : Nat → Int → Int → Int → ByteArray → List ByteArray → List (S26) → Int → Int → ByteArray → List ByteArray → List (S26) → Option (Bool)
  | 0, _, _, _, _, _, _, _, _, _, _, _ => none
  | k + 1, x6, x146000, x146001, x146002, x146003, x146004, x147000, x147001, x147002, x147003, x147004 => if x6 < (x146004.length : Int) then (if 0 ≤ x6 then (if x6 < (x147004.length : Int) then ((spec_Same.f k ((rd_T26 x146004 x6).f0) ((rd_T26 x146004 x6).f1) ((rd_T26 x146004 x6).f2) ((rd_T26 x146004 x6).f3) ((rd_T26 x146004 x6).f4) ((rd_T26 x147004 x6).f0) ((rd_T26 x147004 x6).f1) ((rd_T26 x147004 x6).f2) ((rd_T26 x147004 x6).f3) ((rd_T26 x147004 x6).f4)).bind fun t151 => (if t151 = true then (spec_Same.l1 k (wrap64 (x6 + 1)) x146000 x146001 x146002 x146003 x146004 x147000 x147001 x147002 x147003 x147004) else (some false))) else (none)) else (none)) else (some true)
def spec_Same.f : Nat → Int → Int → ByteArray → List ByteArray → List (S26) → Int → Int → ByteArray → List ByteArray → List (S26) → Option (Bool)
  | 0, _, _, _, _, _, _, _, _, _, _ => none
  | k + 1, a0_0, a0_1, a0_2, l0_3, l0_4, a1_0, a1_1, a1_2, l1_3, l1_4 => if a0_0 = a1_0 then (if a0_1 = a1_1 then (if a0_2.toList = a1_2.toList then (if (l0_3.length : Int) = (l1_3.length : Int) then (spec_Same.j0 k ((l0_4.length : Int) != (l1_4.length : Int)) a0_0 a0_1 a0_2 l0_3 l0_4 a1_0 a1_1 a1_2 l1_3 l1_4) else (spec_Same.j0 k true a0_0 a0_1 a0_2 l0_3 l0_4 a1_0 a1_1 a1_2 l1_3 l1_4)) else (spec_Same.j0 k true a0_0 a0_1 a0_2 l0_3 l0_4 a1_0 a1_1 a1_2 l1_3 l1_4)) else (spec_Same.j0 k true a0_0 a0_1 a0_2 l0_3 l0_4 a1_0 a1_1 a1_2 l1_3 l1_4)) else (spec_Same.j0 k true a0_0 a0_1 a0_2 l0_3 l0_4 a1_0 a1_1 a1_2 l1_3 l1_4)
end
theorem spec_Same.mono_l : ∀ k, (∀ y0 y1 y2 y3 y4 y5 y6 y7 y8 y9, LeO (spec_Same.f k y0 y1 y2 y3 y4 y5 y6 y7 y8 y9) (spec_Same.f (k + 1) y0 y1 y2 y3 y4 y5 y6 y7 y8 y9)) ∧ (∀ y0 y1 y2 y3 y4 y5 y6 y7 y8 y9 y10, LeO (spec_Same.j0 k y0 y1 y2 y3 y4 y5 y6 y7 y8 y9 y10) (spec_Same.j0 (k + 1) y0 y1 y2 y3 y4 y5 y6 y7 y8 y9 y10)) ∧ (∀ y0 y1 y2 y3 y4 y5 y6 y7 y8 y9 y10, LeO (spec_Same.l0 k y0 y1 y2 y3 y4 y5 y6 y7 y8 y9 y10) (spec_Same.l0 (k + 1) y0 y1 y2 y3 y4 y5 y6 y7 y8 y9 y10)) ∧ (∀ y0 y1 y2 y3 y4 y5 y6 y7 y8 y9 y10, LeO (spec_Same.l1 k y0 y1 y2 y3 y4 y5 y6 y7 y8 y9 y10) (spec_Same.l1 (k + 1) y0 y1 y2 y3 y4 y5 y6 y7 y8 y9 y10))
  | 0 => ⟨fun _ _ _ _ _ _ _ _ _ _ r h => by simp [spec_Same.f] at h, fun _ _ _ _ _ _ _ _ _ _ _ r h => by simp [spec_Same.j0] at h, fun _ _ _ _ _ _ _ _ _ _ _ r h => by simp [spec_Same.l0] at h, fun _ _ _ _ _ _ _ _ _ _ _ r h => by simp [spec_Same.l1] at h⟩
  | k + 1 => by
    obtain ⟨ih0, ih1, ih2, ih3⟩ := spec_Same.mono_l k
    refine ⟨?_, ?_, ?_, ?_⟩
    · intro y0 y1 y2 y3 y4 y5 y6 y7 y8 y9
      unfold spec_Same.f
      repeat' first
      | (with_reducible exact ih0 _ _ _ _ _ _ _ _ _ _)
      | (with_reducible exact ih1 _ _ _ _ _ _ _ _ _ _ _)
      | (with_reducible exact ih2 _ _ _ _ _ _ _ _ _ _ _)
      | (with_reducible exact ih3 _ _ _ _ _ _ _ _ _ _ _)
      | (with_reducible exact LeO.refl _)
      | (with_reducible exact LeO.none _)
      | (with_reducible refine LeO.ite ?_ ?_)
      | (with_reducible refine LeO.bind ?_ (fun _ => ?_))
      | exact ih0 _ _ _ _ _ _ _ _ _ _
      | exact ih1 _ _ _ _ _ _ _ _ _ _ _
      | exact ih2 _ _ _ _ _ _ _ _ _ _ _
      | exact ih3 _ _ _ _ _ _ _ _ _ _ _
      | exact LeO.none _
      | refine LeO.ite ?_ ?_
      | refine LeO.bind ?_ (fun _ => ?_)
    · intro y0 y1 y2 y3 y4 y5 y6 y7 y8 y9 y10
      unfold spec_Same.j0
      repeat' first
      | (with_reducible exact ih0 _ _ _ _ _ _ _ _ _ _)
      | (with_reducible exact ih1 _ _ _ _ _ _ _ _ _ _ _)
      | (with_reducible exact ih2 _ _ _ _ _ _ _ _ _ _ _)
      | (with_reducible exact ih3 _ _ _ _ _ _ _ _ _ _ _)
      | (with_reducible exact LeO.refl _)
      | (with_reducible exact LeO.none _)
      | (with_reducible refine LeO.ite ?_ ?_)
      | (with_reducible refine LeO.bind ?_ (fun _ => ?_))
      | exact ih0 _ _ _ _ _ _ _ _ _ _
      | exact ih1 _ _ _ _ _ _ _ _ _ _ _
      | exact ih2 _ _ _ _ _ _ _ _ _ _ _
      | exact ih3 _ _ _ _ _ _ _ _ _ _ _
      | exact LeO.none _
      | refine LeO.ite ?_ ?_
      | refine LeO.bind ?_ (fun _ => ?_)
    · intro y0 y1 y2 y3 y4 y5 y6 y7 y8 y9 y10
      unfold spec_Same.l0
      repeat' first
      | (with_reducible exact ih0 _ _ _ _ _ _ _ _ _ _)
      | (with_reducible exact ih1 _ _ _ _ _ _ _ _ _ _ _)
      | (with_reducible exact ih2 _ _ _ _ _ _ _ _ _ _ _)
      | (with_reducible exact ih3 _ _ _ _ _ _ _ _ _ _ _)
      | (with_reducible exact LeO.refl _)
      | (with_reducible exact LeO.none _)
      | (with_reducible refine LeO.ite ?_ ?_)
      | (with_reducible refine LeO.bind ?_ (fun _ => ?_))
      | exact ih0 _ _ _ _ _ _ _ _ _ _
      | exact ih1 _ _ _ _ _ _ _ _ _ _ _
      | exact ih2 _ _ _ _ _ _ _ _ _ _ _
      | exact ih3 _ _ _ _ _ _ _ _ _ _ _
      | exact LeO.none _
      | refine LeO.ite ?_ ?_
      | refine LeO.bind ?_ (fun _ => ?_)
    · intro y0 y1 y2 y3 y4 y5 y6 y7 y8 y9 y10
      unfold spec_Same.l1
      repeat' first
      | (with_reducible exact ih0 _ _ _ _ _ _ _ _ _ _)
      | (with_reducible exact ih1 _ _ _ _ _ _ _ _ _ _ _)
      | (with_reducible exact ih2 _ _ _ _ _ _ _ _ _ _ _)
      | (with_reducible exact ih3 _ _ _ _ _ _ _ _ _ _ _)
      | (with_reducible exact LeO.refl _)
      | (with_reducible exact LeO.none _)
      | (with_reducible refine LeO.ite ?_ ?_)
      | (with_reducible refine LeO.bind ?_ (fun _ => ?_))
      | exact ih0 _ _ _ _ _ _ _ _ _ _
      | exact ih1 _ _ _ _ _ _ _ _ _ _ _
      | exact ih2 _ _ _ _ _ _ _ _ _ _ _
      | exact ih3 _ _ _ _ _ _ _ _ _ _ _
      | exact LeO.none _
      | refine LeO.ite ?_ ?_
      | refine LeO.bind ?_ (fun _ => ?_)
theorem spec_Same.mono : ∀ a0 a1 a2 a3 a4 a5 a6 a7 a8 a9 k, LeO (spec_Same.f k a0 a1 a2 a3 a4 a5 a6 a7 a8 a9) (spec_Same.f (k + 1) a0 a1 a2 a3 a4 a5 a6 a7 a8 a9) := by
  intro a0 a1 a2 a3 a4 a5 a6 a7 a8 a9 k
  obtain ⟨ih0, ih1, ih2, ih3⟩ := spec_Same.mono_l k
  exact ih0 a0 a1 a2 a3 a4 a5 a6 a7 a8 a9
def spec_Same.T6 : Bool × List (List Nat × List Nat) := (true, [([], []), ([0], [0]), ([], []), ([1, 2], [1, 2]), ([3], [3]), ([], []), ([5], [5]), ([], []), ([6, 7], [6, 7]), ([8], [8]), ([4, 9], [4, 9])])
def spec_Same.B6 : List Nat := [0, 1, 0, 7, 15, 0, 32, 0, 224, 480, 1023]
theorem spec_Same.tab6 : rtab .any (opsOf Tryz.f15 6) = spec_Same.T6 := by kernel_rfl
theorem spec_Same.bits6 : waitsOk spec_Same.T6.2 spec_Same.B6 = true := by kernel_rfl
def spec_Same.T11 : Bool × List (List Nat × List Nat) := (true, [([], []), ([0], [0]), ([], []), ([1, 2], [1, 2]), ([3], [3]), ([], []), ([5], [5]), ([], []), ([6, 7], [6, 7]), ([8], [8]), ([4, 9], [4, 9]), ([10], [10])])
def spec_Same.B11 : List Nat := [0, 1, 0, 7, 15, 0, 32, 0, 224, 480, 1023, 2047]
theorem spec_Same.tab11 : rtab .any (opsOf Tryz.f15 11) = spec_Same.T11 := by kernel_rfl
theorem spec_Same.bits11 : waitsOk spec_Same.T11.2 spec_Same.B11 = true := by kernel_rfl
set_option maxHeartbeats 8000000 in
set_option maxRecDepth 100000 in
theorem spec_Same.calls (k : Nat) : ∀ (a0_0 : Int) (a0_1 : Int) (a0_2 : ByteArray) (A0_3 : Option Addr) (c0_3 : Nat) (l0_3 : List ByteArray) (A0_4 : Option Addr) (c0_4 : Nat) (l0_4 : List (S26)) (a1_0 : Int) (a1_1 : Int) (a1_2 : ByteArray) (A1_3 : Option Addr) (c1_3 : Nat) (l1_3 : List ByteArray) (A1_4 : Option Addr) (c1_4 : Nat) (l1_4 : List (S26)) (r : Bool) (w : World) (hr0_3 : Kd.C Kd.string w A0_3 l0_3.length l0_3) (hc0_3 : l0_3.length ≤ c0_3) (hr0_4 : Kd.C k26 w A0_4 l0_4.length l0_4) (hc0_4 : l0_4.length ≤ c0_4) (hr1_3 : Kd.C Kd.string w A1_3 l1_3.length l1_3) (hc1_3 : l1_3.length ≤ c1_3) (hr1_4 : Kd.C k26 w A1_4 l1_4.length l1_4) (hc1_4 : l1_4.length ≤ c1_4) (h : spec_Same.f k a0_0 a0_1 a0_2 l0_3 l0_4 a1_0 a1_1 a1_2 l1_3 l1_4 = some r),
    Calls Tryz.prog 15 #[.agg #[.int .i64 a0_0, .int .i64 a0_1, .string a0_2, .slice A0_3 l0_3.length c0_3, .slice A0_4 l0_4.length c0_4], .agg #[.int .i64 a1_0, .int .i64 a1_1, .string a1_2, .slice A1_3 l1_3.length c1_3, .slice A1_4 l1_4.length c1_4]] w fun e w' => e = .returned (.bool r) ∧ Below w.heap.size w w' := by
  induction k using Nat.strongRecOn with
  | _ k ih =>
  intro a0_0 a0_1 a0_2 A0_3 c0_3 l0_3 A0_4 c0_4 l0_4 a1_0 a1_1 a1_2 A1_3 c1_3 l1_3 A1_4 c1_4 l1_4 r w hr0_3 hc0_3 hr0_4 hc0_4 hr1_3 hc1_3 hr1_4 hc1_4 h
  cases k with
  | zero => exact absurd h (by simp [spec_Same.f])
  | succ k =>
  simp only [spec_Same.f] at h
  have hu26 := Tryz.underlying26
  have HR0_3 := Aside0.mk hr0_3
  have HC0_3 := Aside0.mk hc0_3
  clear hr0_3 hc0_3
  have HR0_4 := Aside0.mk hr0_4
  have HC0_4 := Aside0.mk hc0_4
  clear hr0_4 hc0_4
  have HR1_3 := Aside0.mk hr1_3
  have HC1_3 := Aside0.mk hc1_3
  clear hr1_3 hc1_3
  have HR1_4 := Aside0.mk hr1_4
  have HC1_4 := Aside0.mk hc1_4
  clear hr1_4 hc1_4
  have HB := Aside0.mk (Below.refl w.heap.size w)
  have H : (if a0_0 = a1_0 then (if a0_1 = a1_1 then (if a0_2.toList = a1_2.toList then (if (l0_3.length : Int) = (l1_3.length : Int) then (spec_Same.j0 k ((l0_4.length : Int) != (l1_4.length : Int)) a0_0 a0_1 a0_2 l0_3 l0_4 a1_0 a1_1 a1_2 l1_3 l1_4) else (spec_Same.j0 k true a0_0 a0_1 a0_2 l0_3 l0_4 a1_0 a1_1 a1_2 l1_3 l1_4)) else (spec_Same.j0 k true a0_0 a0_1 a0_2 l0_3 l0_4 a1_0 a1_1 a1_2 l1_3 l1_4)) else (spec_Same.j0 k true a0_0 a0_1 a0_2 l0_3 l0_4 a1_0 a1_1 a1_2 l1_3 l1_4)) else (spec_Same.j0 k true a0_0 a0_1 a0_2 l0_3 l0_4 a1_0 a1_1 a1_2 l1_3 l1_4)) = some r := h
  clear h
  have HC3 := Aside0.mk H
  clear H
  go_enter Tryz.func15, Tryz.ntmps15
  go_upto_region 1 with (first | ((with_reducible refine gate_dst (N := 2) rfl ?_); (try (refine gate_guard (by rfl) ?_; dsimp only)); refine box_event ?hg (N := 2) ?hd (cs := #[.int .i64 a0_0, .int .i64 a0_1, .string a0_2, .slice A0_3 l0_3.length c0_3, .slice A0_4 l0_4.length c0_4]) (t := 26) ?hr ?_; (case hd => rfl); (case hg => rfl); (case hr => first | (go_simp; done) | (go_simp; rfl)); intro gb145 hg w4 hbox hb; have n0_ := Aside0.mk (below_step (by repeat (first | (with_reducible first | exact HB.out | apply below_alloc | apply pw_below_drewN | apply below_drew1) | exact HB.out)) hb); have n1_ := Aside0.mk (hbox); have n2_ := Aside0.mk ((by rw [hg]; exact (below_size (by repeat (first | (with_reducible first | exact HB.out | apply below_alloc | apply pw_below_drewN | apply below_drew1) | exact HB.out))) : w.heap.size ≤ gb145)); have n3_ := Aside0.mk ((by rw [hg]; exact (below_size (by repeat (first | (with_reducible first | exact HB.out | apply below_alloc | apply pw_below_drewN | apply below_drew1) | exact HB.out))) : w.heap.size ≤ gb145)); clear HB; have HB := n0_; have BK145 := n1_; have GW145 := n2_; have GE145 := n3_; clear n0_ n1_ n2_ n3_; clear hb hbox hg) | ((with_reducible refine gate_dst (N := 3) rfl ?_); (try (refine gate_guard (by rfl) ?_; dsimp only)); refine box_event ?hg (N := 3) ?hd (cs := #[.int .i64 a1_0, .int .i64 a1_1, .string a1_2, .slice A1_3 l1_3.length c1_3, .slice A1_4 l1_4.length c1_4]) (t := 26) ?hr ?_; (case hd => rfl); (case hg => rfl); (case hr => first | (go_simp; done) | (go_simp; rfl)); intro gb146 hg w5 hbox hb; have n0_ := Aside0.mk (blk_below (g := gb145) (o := .cells #[.int .i64 a0_0, .int .i64 a0_1, .string a0_2, .slice A0_3 l0_3.length c0_3, .slice A0_4 l0_4.length c0_4] 26 (0, 0)) (by (with_reducible repeat (first | refine blk_drewN ?_ _ | refine blk_drew ?_ | refine blk_alloc ?_ _)); exact BK145.out) hb); have n1_ := Aside0.mk (below_step (by repeat (first | (with_reducible first | exact HB.out | apply below_alloc | apply pw_below_drewN | apply below_drew1 | refine below_set ?_ GE145.out) | exact HB.out)) hb); have n2_ := Aside0.mk (hbox); have n3_ := Aside0.mk ((by rw [hg]; exact (below_size (by repeat (first | (with_reducible first | exact HB.out | apply below_alloc | apply pw_below_drewN | apply below_drew1 | refine below_set ?_ GE145.out) | exact HB.out))) : w.heap.size ≤ gb146)); have n4_ := Aside0.mk ((by rw [hg]; exact (below_size (by repeat (first | (with_reducible first | exact HB.out | apply below_alloc | apply pw_below_drewN | apply below_drew1 | refine below_set ?_ GE145.out) | exact HB.out))) : w.heap.size ≤ gb146)); have n5_ := Aside0.mk ((by rw [hg]; exact Nat.ne_of_lt (blk_lt (g := gb145) (o := .cells #[.int .i64 a0_0, .int .i64 a0_1, .string a0_2, .slice A0_3 l0_3.length c0_3, .slice A0_4 l0_4.length c0_4] 26 (0, 0)) (by (with_reducible repeat (first | refine blk_drewN ?_ _ | refine blk_drew ?_ | refine blk_alloc ?_ _)); exact BK145.out)) : gb145 ≠ gb146)); have n6_ := Aside0.mk ((by rw [hg]; exact Nat.ne_of_gt (blk_lt (g := gb145) (o := .cells #[.int .i64 a0_0, .int .i64 a0_1, .string a0_2, .slice A0_3 l0_3.length c0_3, .slice A0_4 l0_4.length c0_4] 26 (0, 0)) (by (with_reducible repeat (first | refine blk_drewN ?_ _ | refine blk_drew ?_ | refine blk_alloc ?_ _)); exact BK145.out)) : gb146 ≠ gb145)); clear BK145; clear HB; have BK145 := n0_; have HB := n1_; have BK146 := n2_; have GW146 := n3_; have GE146 := n4_; have NB145_146 := n5_; have NB146_145 := n6_; clear n0_ n1_ n2_ n3_ n4_ n5_ n6_; clear hb hbox hg))
  (try simp only [Act.put, List.setIfInBounds_toArray, List.set_cons_zero, List.set_cons_succ])
  go_cut [43] (fun v43 wc => ∃ (kq : Nat) (x43_2 : Bool), v43 = .bool x43_2 ∧ Aside0 (spec_Same.j0 kq x43_2 a0_0 a0_1 a0_2 l0_3 l0_4 a1_0 a1_1 a1_2 l1_3 l1_4 = some r) ∧ Aside0 (kq ≤ k) ∧ Aside0 (wc.heap[gb145]? = some (.cells #[.int .i64 a0_0, .int .i64 a0_1, .string a0_2, (.slice A0_3 l0_3.length c0_3), (.slice A0_4 l0_4.length c0_4)] 26 (0, 0))) ∧ Aside0 (wc.heap[gb146]? = some (.cells #[.int .i64 a1_0, .int .i64 a1_1, .string a1_2, (.slice A1_3 l1_3.length c1_3), (.slice A1_4 l1_4.length c1_4)] 26 (0, 0))) ∧ Aside0 (Below w.heap.size w wc))
  case first =>
    have H := HC3.out
    clear HC3
    by_cases c6 : a0_0 = a1_0
    · rw [if_pos c6] at H
      have c6b0 : (a0_0 == a1_0) = true := beq_iff_eq.mpr c6
      have c6b1 : (a0_0 != a1_0) = false := bne_eq_false_iff_eq.mpr c6
      clear c6
      (first | rw [c6b0] | (simp only [i64_w, i32_w]; rw [c6b0]) | skip)
      by_cases c7 : a0_1 = a1_1
      · rw [if_pos c7] at H
        have c7b0 : (a0_1 == a1_1) = true := beq_iff_eq.mpr c7
        have c7b1 : (a0_1 != a1_1) = false := bne_eq_false_iff_eq.mpr c7
        clear c7
        by_cases c8 : a0_2.toList = a1_2.toList
        · rw [if_pos c8] at H
          have c8b0 : (a0_2.toList == a1_2.toList) = true := beq_iff_eq.mpr c8
          have c8b1 : (a0_2.toList != a1_2.toList) = false := bne_eq_false_iff_eq.mpr c8
          clear c8
          by_cases c9 : (l0_3.length : Int) = (l1_3.length : Int)
          · rw [if_pos c9] at H
            have c9b0 : ((l0_3.length : Int) == (l1_3.length : Int)) = true := beq_iff_eq.mpr c9
            have c9b1 : ((l0_3.length : Int) != (l1_3.length : Int)) = false := bne_eq_false_iff_eq.mpr c9
            have c9b2 : (l0_3.length == l1_3.length) = true := by first | simpa using c9 | (simp at c9 ⊢; omega)
            clear c9
            have H' := Aside0.mk H
            clear H
            have hnb10 := NB145_146.out
            have hnc10 := NB146_145.out
            have hcz11_0 : w5.cell? ⟨gb145, 0, none⟩ = some (.int .i64 a0_0) := (blk_cell BK145.out 0).trans rfl
            have hcz11_1 : w5.cell? ⟨gb145, 1, none⟩ = some (.int .i64 a0_1) := (blk_cell BK145.out 1).trans rfl
            have hcz11_2 : w5.cell? ⟨gb145, 2, none⟩ = some (.string a0_2) := (blk_cell BK145.out 2).trans rfl
            have hcz11_3 : w5.cell? ⟨gb145, 3, none⟩ = some (.slice A0_3 l0_3.length c0_3) := (blk_cell BK145.out 3).trans rfl
            have hcz11_4 : w5.cell? ⟨gb145, 4, none⟩ = some (.slice A0_4 l0_4.length c0_4) := (blk_cell BK145.out 4).trans rfl
            have hfz11_0 := blk_frozen BK145.out 0
            have hfz11_1 := blk_frozen BK145.out 1
            have hfz11_2 := blk_frozen BK145.out 2
            have hfz11_3 := blk_frozen BK145.out 3
            have hfz11_4 := blk_frozen BK145.out 4
            have hcz12_0 : w5.cell? ⟨gb146, 0, none⟩ = some (.int .i64 a1_0) := (blk_cell BK146.out 0).trans rfl
            have hcz12_1 : w5.cell? ⟨gb146, 1, none⟩ = some (.int .i64 a1_1) := (blk_cell BK146.out 1).trans rfl
            have hcz12_2 : w5.cell? ⟨gb146, 2, none⟩ = some (.string a1_2) := (blk_cell BK146.out 2).trans rfl
            have hcz12_3 : w5.cell? ⟨gb146, 3, none⟩ = some (.slice A1_3 l1_3.length c1_3) := (blk_cell BK146.out 3).trans rfl
            have hcz12_4 : w5.cell? ⟨gb146, 4, none⟩ = some (.slice A1_4 l1_4.length c1_4) := (blk_cell BK146.out 4).trans rfl
            have hfz12_0 := blk_frozen BK146.out 0
            have hfz12_1 := blk_frozen BK146.out 1
            have hfz12_2 := blk_frozen BK146.out 2
            have hfz12_3 := blk_frozen BK146.out 3
            have hfz12_4 := blk_frozen BK146.out 4
            go_wp2
            go_meet
            case rel => exact ⟨_, (((l0_4.length : Int) != (l1_4.length : Int))), (by first | rfl | (simp; done) | (simp [*]; done)), H', ⟨by first | omega | exact Nat.le_refl _⟩, ⟨by (with_reducible repeat (first | refine blk_drewN ?_ _ | refine blk_drew ?_ | refine blk_alloc ?_ _)); exact BK145.out⟩, ⟨by (with_reducible repeat (first | refine blk_drewN ?_ _ | refine blk_drew ?_ | refine blk_alloc ?_ _)); exact BK146.out⟩, ⟨by repeat (first | (with_reducible first | exact HB.out | apply below_alloc | apply pw_below_drewN | apply below_drew1 | refine below_set ?_ GE145.out | refine below_set ?_ GE146.out) | exact HB.out)⟩⟩
          · rw [if_neg c9] at H
            have c9b0 : ((l0_3.length : Int) == (l1_3.length : Int)) = false := beq_eq_false_iff_ne.mpr c9
            have c9b1 : ((l0_3.length : Int) != (l1_3.length : Int)) = true := bne_iff_ne.mpr c9
            have c9b2 : (l0_3.length == l1_3.length) = false := by first | simpa using c9 | (simp at c9 ⊢; omega)
            have H' := Aside0.mk H
            clear H
            have hnb13 := NB145_146.out
            have hnc13 := NB146_145.out
            have hcz14_0 : w5.cell? ⟨gb145, 0, none⟩ = some (.int .i64 a0_0) := (blk_cell BK145.out 0).trans rfl
            have hcz14_1 : w5.cell? ⟨gb145, 1, none⟩ = some (.int .i64 a0_1) := (blk_cell BK145.out 1).trans rfl
            have hcz14_2 : w5.cell? ⟨gb145, 2, none⟩ = some (.string a0_2) := (blk_cell BK145.out 2).trans rfl
            have hcz14_3 : w5.cell? ⟨gb145, 3, none⟩ = some (.slice A0_3 l0_3.length c0_3) := (blk_cell BK145.out 3).trans rfl
            have hcz14_4 : w5.cell? ⟨gb145, 4, none⟩ = some (.slice A0_4 l0_4.length c0_4) := (blk_cell BK145.out 4).trans rfl
            have hfz14_0 := blk_frozen BK145.out 0
            have hfz14_1 := blk_frozen BK145.out 1
            have hfz14_2 := blk_frozen BK145.out 2
            have hfz14_3 := blk_frozen BK145.out 3
            have hfz14_4 := blk_frozen BK145.out 4
            have hcz15_0 : w5.cell? ⟨gb146, 0, none⟩ = some (.int .i64 a1_0) := (blk_cell BK146.out 0).trans rfl
            have hcz15_1 : w5.cell? ⟨gb146, 1, none⟩ = some (.int .i64 a1_1) := (blk_cell BK146.out 1).trans rfl
            have hcz15_2 : w5.cell? ⟨gb146, 2, none⟩ = some (.string a1_2) := (blk_cell BK146.out 2).trans rfl
            have hcz15_3 : w5.cell? ⟨gb146, 3, none⟩ = some (.slice A1_3 l1_3.length c1_3) := (blk_cell BK146.out 3).trans rfl
            have hcz15_4 : w5.cell? ⟨gb146, 4, none⟩ = some (.slice A1_4 l1_4.length c1_4) := (blk_cell BK146.out 4).trans rfl
            have hfz15_0 := blk_frozen BK146.out 0
            have hfz15_1 := blk_frozen BK146.out 1
            have hfz15_2 := blk_frozen BK146.out 2
            have hfz15_3 := blk_frozen BK146.out 3
            have hfz15_4 := blk_frozen BK146.out 4
            go_wp2
            go_meet
            case rel => exact ⟨_, (true), (by first | rfl | (simp; done) | (simp [*]; done)), H', ⟨by first | omega | exact Nat.le_refl _⟩, ⟨by (with_reducible repeat (first | refine blk_drewN ?_ _ | refine blk_drew ?_ | refine blk_alloc ?_ _)); exact BK145.out⟩, ⟨by (with_reducible repeat (first | refine blk_drewN ?_ _ | refine blk_drew ?_ | refine blk_alloc ?_ _)); exact BK146.out⟩, ⟨by repeat (first | (with_reducible first | exact HB.out | apply below_alloc | apply pw_below_drewN | apply below_drew1 | refine below_set ?_ GE145.out | refine below_set ?_ GE146.out) | exact HB.out)⟩⟩
        · rw [if_neg c8] at H
          have c8b0 : (a0_2.toList == a1_2.toList) = false := beq_eq_false_iff_ne.mpr c8
          have c8b1 : (a0_2.toList != a1_2.toList) = true := bne_iff_ne.mpr c8
          have H' := Aside0.mk H
          clear H
          have hnb16 := NB145_146.out
          have hnc16 := NB146_145.out
          have hcz17_0 : w5.cell? ⟨gb145, 0, none⟩ = some (.int .i64 a0_0) := (blk_cell BK145.out 0).trans rfl
          have hcz17_1 : w5.cell? ⟨gb145, 1, none⟩ = some (.int .i64 a0_1) := (blk_cell BK145.out 1).trans rfl
          have hcz17_2 : w5.cell? ⟨gb145, 2, none⟩ = some (.string a0_2) := (blk_cell BK145.out 2).trans rfl
          have hcz17_3 : w5.cell? ⟨gb145, 3, none⟩ = some (.slice A0_3 l0_3.length c0_3) := (blk_cell BK145.out 3).trans rfl
          have hcz17_4 : w5.cell? ⟨gb145, 4, none⟩ = some (.slice A0_4 l0_4.length c0_4) := (blk_cell BK145.out 4).trans rfl
          have hfz17_0 := blk_frozen BK145.out 0
          have hfz17_1 := blk_frozen BK145.out 1
          have hfz17_2 := blk_frozen BK145.out 2
          have hfz17_3 := blk_frozen BK145.out 3
          have hfz17_4 := blk_frozen BK145.out 4
          have hcz18_0 : w5.cell? ⟨gb146, 0, none⟩ = some (.int .i64 a1_0) := (blk_cell BK146.out 0).trans rfl
          have hcz18_1 : w5.cell? ⟨gb146, 1, none⟩ = some (.int .i64 a1_1) := (blk_cell BK146.out 1).trans rfl
          have hcz18_2 : w5.cell? ⟨gb146, 2, none⟩ = some (.string a1_2) := (blk_cell BK146.out 2).trans rfl
          have hcz18_3 : w5.cell? ⟨gb146, 3, none⟩ = some (.slice A1_3 l1_3.length c1_3) := (blk_cell BK146.out 3).trans rfl
          have hcz18_4 : w5.cell? ⟨gb146, 4, none⟩ = some (.slice A1_4 l1_4.length c1_4) := (blk_cell BK146.out 4).trans rfl
          have hfz18_0 := blk_frozen BK146.out 0
          have hfz18_1 := blk_frozen BK146.out 1
          have hfz18_2 := blk_frozen BK146.out 2
          have hfz18_3 := blk_frozen BK146.out 3
          have hfz18_4 := blk_frozen BK146.out 4
          go_wp2
          go_meet
          case rel => exact ⟨_, (true), (by first | rfl | (simp; done) | (simp [*]; done)), H', ⟨by first | omega | exact Nat.le_refl _⟩, ⟨by (with_reducible repeat (first | refine blk_drewN ?_ _ | refine blk_drew ?_ | refine blk_alloc ?_ _)); exact BK145.out⟩, ⟨by (with_reducible repeat (first | refine blk_drewN ?_ _ | refine blk_drew ?_ | refine blk_alloc ?_ _)); exact BK146.out⟩, ⟨by repeat (first | (with_reducible first | exact HB.out | apply below_alloc | apply pw_below_drewN | apply below_drew1 | refine below_set ?_ GE145.out | refine below_set ?_ GE146.out) | exact HB.out)⟩⟩
      · rw [if_neg c7] at H
        have c7b0 : (a0_1 == a1_1) = false := beq_eq_false_iff_ne.mpr c7
        have c7b1 : (a0_1 != a1_1) = true := bne_iff_ne.mpr c7
        have H' := Aside0.mk H
        clear H
        have hnb19 := NB145_146.out
        have hnc19 := NB146_145.out
        have hcz20_0 : w5.cell? ⟨gb145, 0, none⟩ = some (.int .i64 a0_0) := (blk_cell BK145.out 0).trans rfl
        have hcz20_1 : w5.cell? ⟨gb145, 1, none⟩ = some (.int .i64 a0_1) := (blk_cell BK145.out 1).trans rfl
        have hcz20_2 : w5.cell? ⟨gb145, 2, none⟩ = some (.string a0_2) := (blk_cell BK145.out 2).trans rfl
        have hcz20_3 : w5.cell? ⟨gb145, 3, none⟩ = some (.slice A0_3 l0_3.length c0_3) := (blk_cell BK145.out 3).trans rfl
        have hcz20_4 : w5.cell? ⟨gb145, 4, none⟩ = some (.slice A0_4 l0_4.length c0_4) := (blk_cell BK145.out 4).trans rfl
        have hfz20_0 := blk_frozen BK145.out 0
        have hfz20_1 := blk_frozen BK145.out 1
        have hfz20_2 := blk_frozen BK145.out 2
        have hfz20_3 := blk_frozen BK145.out 3
        have hfz20_4 := blk_frozen BK145.out 4
        have hcz21_0 : w5.cell? ⟨gb146, 0, none⟩ = some (.int .i64 a1_0) := (blk_cell BK146.out 0).trans rfl
        have hcz21_1 : w5.cell? ⟨gb146, 1, none⟩ = some (.int .i64 a1_1) := (blk_cell BK146.out 1).trans rfl
        have hcz21_2 : w5.cell? ⟨gb146, 2, none⟩ = some (.string a1_2) := (blk_cell BK146.out 2).trans rfl
        have hcz21_3 : w5.cell? ⟨gb146, 3, none⟩ = some (.slice A1_3 l1_3.length c1_3) := (blk_cell BK146.out 3).trans rfl
        have hcz21_4 : w5.cell? ⟨gb146, 4, none⟩ = some (.slice A1_4 l1_4.length c1_4) := (blk_cell BK146.out 4).trans rfl
        have hfz21_0 := blk_frozen BK146.out 0
        have hfz21_1 := blk_frozen BK146.out 1
        have hfz21_2 := blk_frozen BK146.out 2
        have hfz21_3 := blk_frozen BK146.out 3
        have hfz21_4 := blk_frozen BK146.out 4
        go_wp2
        go_meet
        case rel => exact ⟨_, (true), (by first | rfl | (simp; done) | (simp [*]; done)), H', ⟨by first | omega | exact Nat.le_refl _⟩, ⟨by (with_reducible repeat (first | refine blk_drewN ?_ _ | refine blk_drew ?_ | refine blk_alloc ?_ _)); exact BK145.out⟩, ⟨by (with_reducible repeat (first | refine blk_drewN ?_ _ | refine blk_drew ?_ | refine blk_alloc ?_ _)); exact BK146.out⟩, ⟨by repeat (first | (with_reducible first | exact HB.out | apply below_alloc | apply pw_below_drewN | apply below_drew1 | refine below_set ?_ GE145.out | refine below_set ?_ GE146.out) | exact HB.out)⟩⟩
    · rw [if_neg c6] at H
      have c6b0 : (a0_0 == a1_0) = false := beq_eq_false_iff_ne.mpr c6
      have c6b1 : (a0_0 != a1_0) = true := bne_iff_ne.mpr c6
      (first | rw [c6b0] | (simp only [i64_w, i32_w]; rw [c6b0]) | skip)
      have H' := Aside0.mk H
      clear H
      have hnb22 := NB145_146.out
      have hnc22 := NB146_145.out
      have hcz23_0 : w5.cell? ⟨gb145, 0, none⟩ = some (.int .i64 a0_0) := (blk_cell BK145.out 0).trans rfl
      have hcz23_1 : w5.cell? ⟨gb145, 1, none⟩ = some (.int .i64 a0_1) := (blk_cell BK145.out 1).trans rfl
      have hcz23_2 : w5.cell? ⟨gb145, 2, none⟩ = some (.string a0_2) := (blk_cell BK145.out 2).trans rfl
      have hcz23_3 : w5.cell? ⟨gb145, 3, none⟩ = some (.slice A0_3 l0_3.length c0_3) := (blk_cell BK145.out 3).trans rfl
      have hcz23_4 : w5.cell? ⟨gb145, 4, none⟩ = some (.slice A0_4 l0_4.length c0_4) := (blk_cell BK145.out 4).trans rfl
      have hfz23_0 := blk_frozen BK145.out 0
      have hfz23_1 := blk_frozen BK145.out 1
      have hfz23_2 := blk_frozen BK145.out 2
      have hfz23_3 := blk_frozen BK145.out 3
      have hfz23_4 := blk_frozen BK145.out 4
      have hcz24_0 : w5.cell? ⟨gb146, 0, none⟩ = some (.int .i64 a1_0) := (blk_cell BK146.out 0).trans rfl
      have hcz24_1 : w5.cell? ⟨gb146, 1, none⟩ = some (.int .i64 a1_1) := (blk_cell BK146.out 1).trans rfl
      have hcz24_2 : w5.cell? ⟨gb146, 2, none⟩ = some (.string a1_2) := (blk_cell BK146.out 2).trans rfl
      have hcz24_3 : w5.cell? ⟨gb146, 3, none⟩ = some (.slice A1_3 l1_3.length c1_3) := (blk_cell BK146.out 3).trans rfl
      have hcz24_4 : w5.cell? ⟨gb146, 4, none⟩ = some (.slice A1_4 l1_4.length c1_4) := (blk_cell BK146.out 4).trans rfl
      have hfz24_0 := blk_frozen BK146.out 0
      have hfz24_1 := blk_frozen BK146.out 1
      have hfz24_2 := blk_frozen BK146.out 2
      have hfz24_3 := blk_frozen BK146.out 3
      have hfz24_4 := blk_frozen BK146.out 4
      go_wp2
      go_meet
      case rel => exact ⟨_, (true), (by first | rfl | (simp; done) | (simp [*]; done)), H', ⟨by first | omega | exact Nat.le_refl _⟩, ⟨by (with_reducible repeat (first | refine blk_drewN ?_ _ | refine blk_drew ?_ | refine blk_alloc ?_ _)); exact BK145.out⟩, ⟨by (with_reducible repeat (first | refine blk_drewN ?_ _ | refine blk_drew ?_ | refine blk_alloc ?_ _)); exact BK146.out⟩, ⟨by repeat (first | (with_reducible first | exact HB.out | apply below_alloc | apply pw_below_drewN | apply below_drew1 | refine below_set ?_ GE145.out | refine below_set ?_ GE146.out) | exact HB.out)⟩⟩
  case rest =>
    clear HC3
    try clear c1
    try clear c2
    try clear p2
    try clear c6
    try clear c6b0
    try clear c6b1
    try clear c7
    try clear c7b0
    try clear c7b1
    try clear c8
    try clear c8b0
    try clear c8b1
    try clear c9
    try clear c9b0
    try clear c9b1
    try clear c9b2
    try clear c10
    try clear c13
    try clear c15
    try clear c16
    try clear c19
    try clear c22
    try clear hcz11_0
    try clear hcz11_1
    try clear hcz11_2
    try clear hcz11_3
    try clear hcz11_4
    try clear hcz12_0
    try clear hcz12_1
    try clear hcz12_2
    try clear hcz12_3
    try clear hcz12_4
    try clear hcz14_0
    try clear hcz14_1
    try clear hcz14_2
    try clear hcz14_3
    try clear hcz14_4
    try clear hcz15_0
    try clear hcz15_1
    try clear hcz15_2
    try clear hcz15_3
    try clear hcz15_4
    try clear hcz17_0
    try clear hcz17_1
    try clear hcz17_2
    try clear hcz17_3
    try clear hcz17_4
    try clear hcz18_0
    try clear hcz18_1
    try clear hcz18_2
    try clear hcz18_3
    try clear hcz18_4
    try clear hcz20_0
    try clear hcz20_1
    try clear hcz20_2
    try clear hcz20_3
    try clear hcz20_4
    try clear hcz21_0
    try clear hcz21_1
    try clear hcz21_2
    try clear hcz21_3
    try clear hcz21_4
    try clear hcz23_0
    try clear hcz23_1
    try clear hcz23_2
    try clear hcz23_3
    try clear hcz23_4
    try clear hcz24_0
    try clear hcz24_1
    try clear hcz24_2
    try clear hcz24_3
    try clear hcz24_4
    try clear hfz11_0
    try clear hfz11_1
    try clear hfz11_2
    try clear hfz11_3
    try clear hfz11_4
    try clear hfz12_0
    try clear hfz12_1
    try clear hfz12_2
    try clear hfz12_3
    try clear hfz12_4
    try clear hfz14_0
    try clear hfz14_1
    try clear hfz14_2
    try clear hfz14_3
    try clear hfz14_4
    try clear hfz15_0
    try clear hfz15_1
    try clear hfz15_2
    try clear hfz15_3
    try clear hfz15_4
    try clear hfz17_0
    try clear hfz17_1
    try clear hfz17_2
    try clear hfz17_3
    try clear hfz17_4
    try clear hfz18_0
    try clear hfz18_1
    try clear hfz18_2
    try clear hfz18_3
    try clear hfz18_4
    try clear hfz20_0
    try clear hfz20_1
    try clear hfz20_2
    try clear hfz20_3
    try clear hfz20_4
    try clear hfz21_0
    try clear hfz21_1
    try clear hfz21_2
    try clear hfz21_3
    try clear hfz21_4
    try clear hfz23_0
    try clear hfz23_1
    try clear hfz23_2
    try clear hfz23_3
    try clear hfz23_4
    try clear hfz24_0
    try clear hfz24_1
    try clear hfz24_2
    try clear hfz24_3
    try clear hfz24_4
    obtain ⟨kq, x43_2, rfl, HA, HJ2, BK145, BK146, HB⟩ := hcut
    cases kq with
    | zero => exact absurd HA.out (by simp [spec_Same.j0])
    | succ kj2 =>
      have H := HA.out
      clear HA
      simp only [spec_Same.j0] at H
      by_cases c25 : x43_2 = true
      · subst c25
        have H1 : (some false) = some r := by rw [if_pos rfl] at H; exact H
        clear H
        have H := H1
        clear H1
        obtain rfl := Option.some.inj H
        go_wp2
        go_ret
        exact ⟨by first | rfl | (simp [errW_none, errW_some] <;> rfl) | (simp [*, errW_none, errW_some] <;> rfl), by repeat (first | (with_reducible first | exact HB.out | apply below_alloc | apply pw_below_drewN | apply below_drew1 | refine below_set ?_ GE145.out | refine below_set ?_ GE146.out) | exact HB.out)⟩
      · replace c25 := Bool.eq_false_iff.mpr c25
        subst c25
        have H1 : (spec_Same.l0 kj2 0 a0_0 a0_1 a0_2 l0_3 l0_4 a1_0 a1_1 a1_2 l1_3 l1_4) = some r := by rw [if_neg (show ¬ (false = true) by decide)] at H; exact H
        clear H
        have H := H1
        clear H1
        have H' := Aside0.mk H
        clear H
        go_wp2
        go_loopg [5] kj2 (fun kq v5 w' => ∃ (x5_2 : Int), v5 = .int .i64 x5_2 ∧ Aside0 (spec_Same.l0 kq x5_2 a0_0 a0_1 a0_2 l0_3 l0_4 a1_0 a1_1 a1_2 l1_3 l1_4 = some r) ∧ Aside0 (kq ≤ kj2) ∧ Aside0 (w'.heap[gb145]? = some (.cells #[.int .i64 a0_0, .int .i64 a0_1, .string a0_2, (.slice A0_3 l0_3.length c0_3), (.slice A0_4 l0_4.length c0_4)] 26 (0, 0))) ∧ Aside0 (w'.heap[gb146]? = some (.cells #[.int .i64 a1_0, .int .i64 a1_1, .string a1_2, (.slice A1_3 l1_3.length c1_3), (.slice A1_4 l1_4.length c1_4)] 26 (0, 0))) ∧ Aside0 (Below w.heap.size w w'))
        case atStart => exact ⟨(0), (by first | rfl | (simp; done) | (simp [*]; done)), H', ⟨Nat.le_refl _⟩, ⟨by (with_reducible repeat (first | refine blk_drewN ?_ _ | refine blk_drew ?_ | refine blk_alloc ?_ _)); exact BK145.out⟩, ⟨by (with_reducible repeat (first | refine blk_drewN ?_ _ | refine blk_drew ?_ | refine blk_alloc ?_ _)); exact BK146.out⟩, ⟨by repeat (first | (with_reducible first | exact HB.out | apply below_alloc | apply pw_below_drewN | apply below_drew1 | refine below_set ?_ GE145.out | refine below_set ?_ GE146.out) | exact HB.out)⟩⟩
        case round =>
          clear H'
          try clear c1
          try clear c2
          try clear p2
          try clear c6
          try clear c6b0
          try clear c6b1
          try clear c7
          try clear c7b0
          try clear c7b1
          try clear c8
          try clear c8b0
          try clear c8b1
          try clear c9
          try clear c9b0
          try clear c9b1
          try clear c9b2
          try clear c10
          try clear c13
          try clear c15
          try clear c16
          try clear c19
          try clear c22
          try clear c25
          try clear hcz11_0
          try clear hcz11_1
          try clear hcz11_2
          try clear hcz11_3
          try clear hcz11_4
          try clear hcz12_0
          try clear hcz12_1
          try clear hcz12_2
          try clear hcz12_3
          try clear hcz12_4
          try clear hcz14_0
          try clear hcz14_1
          try clear hcz14_2
          try clear hcz14_3
          try clear hcz14_4
          try clear hcz15_0
          try clear hcz15_1
          try clear hcz15_2
          try clear hcz15_3
          try clear hcz15_4
          try clear hcz17_0
          try clear hcz17_1
          try clear hcz17_2
          try clear hcz17_3
          try clear hcz17_4
          try clear hcz18_0
          try clear hcz18_1
          try clear hcz18_2
          try clear hcz18_3
          try clear hcz18_4
          try clear hcz20_0
          try clear hcz20_1
          try clear hcz20_2
          try clear hcz20_3
          try clear hcz20_4
          try clear hcz21_0
          try clear hcz21_1
          try clear hcz21_2
          try clear hcz21_3
          try clear hcz21_4
          try clear hcz23_0
          try clear hcz23_1
          try clear hcz23_2
          try clear hcz23_3
          try clear hcz23_4
          try clear hcz24_0
          try clear hcz24_1
          try clear hcz24_2
          try clear hcz24_3
          try clear hcz24_4
          try clear hfz11_0
          try clear hfz11_1
          try clear hfz11_2
          try clear hfz11_3
          try clear hfz11_4
          try clear hfz12_0
          try clear hfz12_1
          try clear hfz12_2
          try clear hfz12_3
          try clear hfz12_4
          try clear hfz14_0
          try clear hfz14_1
          try clear hfz14_2
          try clear hfz14_3
          try clear hfz14_4
          try clear hfz15_0
          try clear hfz15_1
          try clear hfz15_2
          try clear hfz15_3
          try clear hfz15_4
          try clear hfz17_0
          try clear hfz17_1
          try clear hfz17_2
          try clear hfz17_3
          try clear hfz17_4
          try clear hfz18_0
          try clear hfz18_1
          try clear hfz18_2
          try clear hfz18_3
          try clear hfz18_4
          try clear hfz20_0
          try clear hfz20_1
          try clear hfz20_2
          try clear hfz20_3
          try clear hfz20_4
          try clear hfz21_0
          try clear hfz21_1
          try clear hfz21_2
          try clear hfz21_3
          try clear hfz21_4
          try clear hfz23_0
          try clear hfz23_1
          try clear hfz23_2
          try clear hfz23_3
          try clear hfz23_4
          try clear hfz24_0
          try clear hfz24_1
          try clear hfz24_2
          try clear hfz24_3
          try clear hfz24_4
          try clear p2
          obtain ⟨x5_2, rfl, HA, HK2, BK145, BK146, HB⟩ := hrel
          cases gk with
          | zero => exact absurd HA.out (by simp [spec_Same.l0])
          | succ k2 =>
            have H := HA.out
            clear HA
            simp only [spec_Same.l0] at H
            by_cases c26 : x5_2 < (l0_3.length : Int)
            · rw [if_pos c26] at H
              have c26b0 : decide (x5_2 < (l0_3.length : Int)) = true := decide_eq_true c26
              clear c26
              by_cases c27 : 0 ≤ x5_2
              · rw [if_pos c27] at H
                have c27b0 : decide (0 ≤ x5_2) = true := decide_eq_true c27
                clear c27
                by_cases c28 : x5_2 < (l1_3.length : Int)
                · rw [if_pos c28] at H
                  have c28b0 : decide (x5_2 < (l1_3.length : Int)) = true := decide_eq_true c28
                  clear c28
                  by_cases c29 : (rdOf ByteArray.empty l0_3 x5_2).toList = (rdOf ByteArray.empty l1_3 x5_2).toList
                  · rw [if_pos c29] at H
                    have c29b0 : ((rdOf ByteArray.empty l0_3 x5_2).toList == (rdOf ByteArray.empty l1_3 x5_2).toList) = true := beq_iff_eq.mpr c29
                    have c29b1 : ((rdOf ByteArray.empty l0_3 x5_2).toList != (rdOf ByteArray.empty l1_3 x5_2).toList) = false := bne_eq_false_iff_eq.mpr c29
                    clear c29
                    have H' := Aside0.mk H
                    clear H
                    have hnb30 := NB145_146.out
                    have hnc30 := NB146_145.out
                    have hcz31_0 : wr.cell? ⟨gb145, 0, none⟩ = some (.int .i64 a0_0) := (blk_cell BK145.out 0).trans rfl
                    have hcz31_1 : wr.cell? ⟨gb145, 1, none⟩ = some (.int .i64 a0_1) := (blk_cell BK145.out 1).trans rfl
                    have hcz31_2 : wr.cell? ⟨gb145, 2, none⟩ = some (.string a0_2) := (blk_cell BK145.out 2).trans rfl
                    have hcz31_3 : wr.cell? ⟨gb145, 3, none⟩ = some (.slice A0_3 l0_3.length c0_3) := (blk_cell BK145.out 3).trans rfl
                    have hcz31_4 : wr.cell? ⟨gb145, 4, none⟩ = some (.slice A0_4 l0_4.length c0_4) := (blk_cell BK145.out 4).trans rfl
                    have hfz31_0 := blk_frozen BK145.out 0
                    have hfz31_1 := blk_frozen BK145.out 1
                    have hfz31_2 := blk_frozen BK145.out 2
                    have hfz31_3 := blk_frozen BK145.out 3
                    have hfz31_4 := blk_frozen BK145.out 4
                    try go_wp2
                    have n0_ := Aside0.mk (blk_drew BK145.out)
                    have n1_ := Aside0.mk (blk_drew BK146.out)
                    have n2_ := Aside0.mk (below_drew1 HB.out)
                    clear BK145
                    clear BK146
                    clear HB
                    have BK145 := n0_
                    have BK146 := n1_
                    have HB := n2_
                    clear n0_ n1_ n2_
                    have p147 : 0 ≤ (x5_2 : Int) := of_decide_eq_true (by first | (with_reducible assumption) | assumption)
                    have q147 : x5_2 < (l0_3.length : Int) := of_decide_eq_true (by first | (with_reducible assumption) | assumption)
                    obtain ⟨ad147, e147, hx147_0⟩ := Kd.at_string HR0_3.out x5_2 p147 q147
                    have hw147_0 := hx147_0
                    cases e147
                    replace hx147_0 := (HB.out.cell (World.block_lt_of_cell? w _ hx147_0)).trans hx147_0
                    replace p147 := eq_true p147
                    replace q147 := eq_true q147
                    have p148 : 0 ≤ (x5_2 : Int) := of_decide_eq_true (by first | (with_reducible assumption) | assumption)
                    have q148 : x5_2 < (l1_3.length : Int) := of_decide_eq_true (by first | (with_reducible assumption) | assumption)
                    obtain ⟨ad148, e148, hx148_0⟩ := Kd.at_string HR1_3.out x5_2 p148 q148
                    have hw148_0 := hx148_0
                    cases e148
                    replace hx148_0 := (HB.out.cell (World.block_lt_of_cell? w _ hx148_0)).trans hx148_0
                    replace p148 := eq_true p148
                    replace q148 := eq_true q148
                    refine start_ (n := 11) (S := fun w' => w'.cell? ⟨gb145, 0, none⟩ = some (.int .i64 a0_0) ∧ w'.cell? ⟨gb145, 1, none⟩ = some (.int .i64 a0_1) ∧ w'.cell? ⟨gb145, 2, none⟩ = some (.string a0_2) ∧ w'.cell? ⟨gb145, 3, none⟩ = some (.slice (some ad147) l0_3.length c0_3) ∧ w'.cell? ⟨gb145, 4, none⟩ = some (.slice A0_4 l0_4.length c0_4) ∧ w'.cell? ⟨gb146, 0, none⟩ = some (.int .i64 a1_0) ∧ w'.cell? ⟨gb146, 1, none⟩ = some (.int .i64 a1_1) ∧ w'.cell? ⟨gb146, 2, none⟩ = some (.string a1_2) ∧ w'.cell? ⟨gb146, 3, none⟩ = some (.slice (some ad148) l1_3.length c1_3) ∧ w'.cell? ⟨gb146, 4, none⟩ = some (.slice A1_4 l1_4.length c1_4) ∧ w'.cell? (ad147.add (x5_2).toNat) = some (.string (rdOf ByteArray.empty l0_3 x5_2)) ∧ w'.cell? (ad148.add (x5_2).toNat) = some (.string (rdOf ByteArray.empty l1_3 x5_2))) (ds := []) #[false, false, false, false, false, false, false, false, false, false, false] (by kernel_rfl) rfl rfl ⟨(blk_cell BK145.out 0).trans rfl, (blk_cell BK145.out 1).trans rfl, (blk_cell BK145.out 2).trans rfl, (blk_cell BK145.out 3).trans rfl, (blk_cell BK145.out 4).trans rfl, (blk_cell BK146.out 0).trans rfl, (blk_cell BK146.out 1).trans rfl, (blk_cell BK146.out 2).trans rfl, (blk_cell BK146.out 3).trans rfl, (blk_cell BK146.out 4).trans rfl, ((HB.out.cell (World.block_lt_of_cell? w _ hw147_0)).trans hw147_0), ((HB.out.cell (World.block_lt_of_cell? w _ hw148_0)).trans hw148_0)⟩ (fun hHeld => ?_); refine with_tabW spec_Same.tab6 spec_Same.bits6 (fun HT_ HW_ => ?_)
                    generalize wr.drew = w32 at BK145 BK146 HB hx147_0 hx148_0 hHeld ⊢
                    refine pure_ (i := 0) (N := some 51) (v := ?_) (a' := ?_) #[true, false, false, false, false, false, false, false, false, false, false] rfl rfl (any_of HT_.out (by kernel_rfl)) (fun _ _ _ h => h) (Or.inl ⟨by rfl, ?_⟩) ?_ ?_
                    rotate_left
                    · intro w'
                      go_simp
                      with_reducible rfl
                    rotate_left
                    · simp only [Act.put, List.setIfInBounds_toArray, List.set_cons_zero, List.set_cons_succ, i64_w, i32_w]
                      rfl
                    refine pure_ (i := 2) (N := some 53) (v := ?_) (a' := ?_) #[true, false, true, false, false, false, false, false, false, false, false] rfl rfl (any_of HT_.out (by kernel_rfl)) (fun _ _ _ h => h) (Or.inl ⟨by rfl, ?_⟩) ?_ ?_
                    rotate_left
                    · intro w'
                      go_simp
                      with_reducible rfl
                    rotate_left
                    · simp only [Act.put, List.setIfInBounds_toArray, List.set_cons_zero, List.set_cons_succ, i64_w, i32_w]
                      rfl
                    refine pure_ (i := 5) (N := some 56) (v := ?_) (a' := ?_) #[true, false, true, false, false, true, false, false, false, false, false] rfl rfl (any_of HT_.out (by kernel_rfl)) (fun _ _ _ h => h) (Or.inl ⟨by rfl, ?_⟩) ?_ ?_
                    rotate_left
                    · intro w'
                      go_simp
                      with_reducible rfl
                    rotate_left
                    · simp only [Act.put, List.setIfInBounds_toArray, List.set_cons_zero, List.set_cons_succ, i64_w, i32_w]
                      rfl
                    refine pure_ (i := 7) (N := some 58) (v := ?_) (a' := ?_) #[true, false, true, false, false, true, false, true, false, false, false] rfl rfl (any_of HT_.out (by kernel_rfl)) (fun _ _ _ h => h) (Or.inl ⟨by rfl, ?_⟩) ?_ ?_
                    rotate_left
                    · intro w'
                      go_simp
                      with_reducible rfl
                    rotate_left
                    · simp only [Act.put, List.setIfInBounds_toArray, List.set_cons_zero, List.set_cons_succ, i64_w, i32_w]
                      rfl
                    refine take_ (i := 1) (N := some 52) (v := ?_) (a' := ?_) #[true, true, true, false, false, true, false, true, false, false, false] rfl rfl (take_ofW HT_.out HW_.out (by kernel_rfl)) (fun _ _ _ h => h) (Or.inl ⟨by rfl, ?_⟩) hHeld ?_ ?_
                    rotate_left
                    · rintro w' ⟨s0, s1, s2, s3, s4, s5, s6, s7, s8, s9, s10, s11⟩
                      go_simp
                      with_reducible rfl
                    rotate_left
                    · simp only [Act.put, List.setIfInBounds_toArray, List.set_cons_zero, List.set_cons_succ, i64_w, i32_w]
                      rfl
                    refine pure_ (i := 3) (N := some 54) (v := ?_) (a' := ?_) #[true, true, true, true, false, true, false, true, false, false, false] rfl rfl (any_of HT_.out (by kernel_rfl)) (fun _ _ _ h => h) (Or.inl ⟨by rfl, ?_⟩) ?_ ?_
                    rotate_left
                    · intro w'
                      go_simp
                      with_reducible rfl
                    rotate_left
                    · simp only [Act.put, List.setIfInBounds_toArray, List.set_cons_zero, List.set_cons_succ, i64_w, i32_w]
                      rfl
                    refine take_ (i := 4) (N := some 55) (v := ?_) (a' := ?_) #[true, true, true, true, true, true, false, true, false, false, false] rfl rfl (take_ofW HT_.out HW_.out (by kernel_rfl)) (fun _ _ _ h => h) (Or.inl ⟨by rfl, ?_⟩) hHeld ?_ ?_
                    rotate_left
                    · rintro w' ⟨s0, s1, s2, s3, s4, s5, s6, s7, s8, s9, s10, s11⟩
                      go_simp
                      with_reducible rfl
                    rotate_left
                    · simp only [Act.put, List.setIfInBounds_toArray, List.set_cons_zero, List.set_cons_succ, i64_w, i32_w]
                      rfl
                    refine take_ (i := 6) (N := some 57) (v := ?_) (a' := ?_) #[true, true, true, true, true, true, true, true, false, false, false] rfl rfl (take_ofW HT_.out HW_.out (by kernel_rfl)) (fun _ _ _ h => h) (Or.inl ⟨by rfl, ?_⟩) hHeld ?_ ?_
                    rotate_left
                    · rintro w' ⟨s0, s1, s2, s3, s4, s5, s6, s7, s8, s9, s10, s11⟩
                      go_simp
                      with_reducible rfl
                    rotate_left
                    · simp only [Act.put, List.setIfInBounds_toArray, List.set_cons_zero, List.set_cons_succ, i64_w, i32_w]
                      rfl
                    refine pure_ (i := 8) (N := some 59) (v := ?_) (a' := ?_) #[true, true, true, true, true, true, true, true, true, false, false] rfl rfl (any_of HT_.out (by kernel_rfl)) (fun _ _ _ h => h) (Or.inl ⟨by rfl, ?_⟩) ?_ ?_
                    rotate_left
                    · intro w'
                      go_simp
                      with_reducible rfl
                    rotate_left
                    · simp only [Act.put, List.setIfInBounds_toArray, List.set_cons_zero, List.set_cons_succ, i64_w, i32_w]
                      rfl
                    refine take_ (i := 9) (N := some 60) (v := ?_) (a' := ?_) #[true, true, true, true, true, true, true, true, true, true, false] rfl rfl (take_ofW HT_.out HW_.out (by kernel_rfl)) (fun _ _ _ h => h) (Or.inl ⟨by rfl, ?_⟩) hHeld ?_ ?_
                    rotate_left
                    · rintro w' ⟨s0, s1, s2, s3, s4, s5, s6, s7, s8, s9, s10, s11⟩
                      go_simp
                      with_reducible rfl
                    rotate_left
                    · simp only [Act.put, List.setIfInBounds_toArray, List.set_cons_zero, List.set_cons_succ, i64_w, i32_w]
                      rfl
                    refine pure_ (i := 10) (N := some 61) (v := ?_) (a' := ?_) #[true, true, true, true, true, true, true, true, true, true, true] rfl rfl (any_of HT_.out (by kernel_rfl)) (fun _ _ _ h => h) (Or.inl ⟨by rfl, ?_⟩) ?_ ?_
                    rotate_left
                    · intro w'
                      go_simp
                      with_reducible rfl
                    rotate_left
                    · simp only [Act.put, List.setIfInBounds_toArray, List.set_cons_zero, List.set_cons_succ, i64_w, i32_w]
                      rfl
                    refine done_ (done_of HT_.out (by kernel_rfl)) ?_
                    try go_wp2
                    go_roundg k2
                    case measure => have := HJ2.out; have := HK2.out; omega
                    case rel => exact ⟨(wrap64 (x5_2 + 1)), (by first | rfl | (simp; done) | (simp [*]; done)), H', ⟨by have := HJ2.out; have := HK2.out; omega⟩, ⟨by (with_reducible repeat (first | refine blk_drewN ?_ _ | refine blk_drew ?_ | refine blk_alloc ?_ _)); exact BK145.out⟩, ⟨by (with_reducible repeat (first | refine blk_drewN ?_ _ | refine blk_drew ?_ | refine blk_alloc ?_ _)); exact BK146.out⟩, ⟨by repeat (first | (with_reducible first | exact HB.out | apply below_alloc | apply pw_below_drewN | apply below_drew1 | refine below_set ?_ GE145.out | refine below_set ?_ GE146.out) | exact HB.out)⟩⟩
                  · rw [if_neg c29] at H
                    have c29b0 : ((rdOf ByteArray.empty l0_3 x5_2).toList == (rdOf ByteArray.empty l1_3 x5_2).toList) = false := beq_eq_false_iff_ne.mpr c29
                    have c29b1 : ((rdOf ByteArray.empty l0_3 x5_2).toList != (rdOf ByteArray.empty l1_3 x5_2).toList) = true := bne_iff_ne.mpr c29
                    obtain rfl := Option.some.inj H
                    have hnb33 := NB145_146.out
                    have hnc33 := NB146_145.out
                    have hcz34_0 : wr.cell? ⟨gb145, 0, none⟩ = some (.int .i64 a0_0) := (blk_cell BK145.out 0).trans rfl
                    have hcz34_1 : wr.cell? ⟨gb145, 1, none⟩ = some (.int .i64 a0_1) := (blk_cell BK145.out 1).trans rfl
                    have hcz34_2 : wr.cell? ⟨gb145, 2, none⟩ = some (.string a0_2) := (blk_cell BK145.out 2).trans rfl
                    have hcz34_3 : wr.cell? ⟨gb145, 3, none⟩ = some (.slice A0_3 l0_3.length c0_3) := (blk_cell BK145.out 3).trans rfl
                    have hcz34_4 : wr.cell? ⟨gb145, 4, none⟩ = some (.slice A0_4 l0_4.length c0_4) := (blk_cell BK145.out 4).trans rfl
                    have hfz34_0 := blk_frozen BK145.out 0
                    have hfz34_1 := blk_frozen BK145.out 1
                    have hfz34_2 := blk_frozen BK145.out 2
                    have hfz34_3 := blk_frozen BK145.out 3
                    have hfz34_4 := blk_frozen BK145.out 4
                    try go_wp2
                    have n0_ := Aside0.mk (blk_drew BK145.out)
                    have n1_ := Aside0.mk (blk_drew BK146.out)
                    have n2_ := Aside0.mk (below_drew1 HB.out)
                    clear BK145
                    clear BK146
                    clear HB
                    have BK145 := n0_
                    have BK146 := n1_
                    have HB := n2_
                    clear n0_ n1_ n2_
                    have p147 : 0 ≤ (x5_2 : Int) := of_decide_eq_true (by first | (with_reducible assumption) | assumption)
                    have q147 : x5_2 < (l0_3.length : Int) := of_decide_eq_true (by first | (with_reducible assumption) | assumption)
                    obtain ⟨ad147, e147, hx147_0⟩ := Kd.at_string HR0_3.out x5_2 p147 q147
                    have hw147_0 := hx147_0
                    cases e147
                    replace hx147_0 := (HB.out.cell (World.block_lt_of_cell? w _ hx147_0)).trans hx147_0
                    replace p147 := eq_true p147
                    replace q147 := eq_true q147
                    have p148 : 0 ≤ (x5_2 : Int) := of_decide_eq_true (by first | (with_reducible assumption) | assumption)
                    have q148 : x5_2 < (l1_3.length : Int) := of_decide_eq_true (by first | (with_reducible assumption) | assumption)
                    obtain ⟨ad148, e148, hx148_0⟩ := Kd.at_string HR1_3.out x5_2 p148 q148
                    have hw148_0 := hx148_0
                    cases e148
                    replace hx148_0 := (HB.out.cell (World.block_lt_of_cell? w _ hx148_0)).trans hx148_0
                    replace p148 := eq_true p148
                    replace q148 := eq_true q148
                    refine start_ (n := 11) (S := fun w' => w'.cell? ⟨gb145, 0, none⟩ = some (.int .i64 a0_0) ∧ w'.cell? ⟨gb145, 1, none⟩ = some (.int .i64 a0_1) ∧ w'.cell? ⟨gb145, 2, none⟩ = some (.string a0_2) ∧ w'.cell? ⟨gb145, 3, none⟩ = some (.slice (some ad147) l0_3.length c0_3) ∧ w'.cell? ⟨gb145, 4, none⟩ = some (.slice A0_4 l0_4.length c0_4) ∧ w'.cell? ⟨gb146, 0, none⟩ = some (.int .i64 a1_0) ∧ w'.cell? ⟨gb146, 1, none⟩ = some (.int .i64 a1_1) ∧ w'.cell? ⟨gb146, 2, none⟩ = some (.string a1_2) ∧ w'.cell? ⟨gb146, 3, none⟩ = some (.slice (some ad148) l1_3.length c1_3) ∧ w'.cell? ⟨gb146, 4, none⟩ = some (.slice A1_4 l1_4.length c1_4) ∧ w'.cell? (ad147.add (x5_2).toNat) = some (.string (rdOf ByteArray.empty l0_3 x5_2)) ∧ w'.cell? (ad148.add (x5_2).toNat) = some (.string (rdOf ByteArray.empty l1_3 x5_2))) (ds := []) #[false, false, false, false, false, false, false, false, false, false, false] (by kernel_rfl) rfl rfl ⟨(blk_cell BK145.out 0).trans rfl, (blk_cell BK145.out 1).trans rfl, (blk_cell BK145.out 2).trans rfl, (blk_cell BK145.out 3).trans rfl, (blk_cell BK145.out 4).trans rfl, (blk_cell BK146.out 0).trans rfl, (blk_cell BK146.out 1).trans rfl, (blk_cell BK146.out 2).trans rfl, (blk_cell BK146.out 3).trans rfl, (blk_cell BK146.out 4).trans rfl, ((HB.out.cell (World.block_lt_of_cell? w _ hw147_0)).trans hw147_0), ((HB.out.cell (World.block_lt_of_cell? w _ hw148_0)).trans hw148_0)⟩ (fun hHeld => ?_); refine with_tabW spec_Same.tab6 spec_Same.bits6 (fun HT_ HW_ => ?_)
                    generalize wr.drew = w35 at BK145 BK146 HB hx147_0 hx148_0 hHeld ⊢
                    refine pure_ (i := 0) (N := some 51) (v := ?_) (a' := ?_) #[true, false, false, false, false, false, false, false, false, false, false] rfl rfl (any_of HT_.out (by kernel_rfl)) (fun _ _ _ h => h) (Or.inl ⟨by rfl, ?_⟩) ?_ ?_
                    rotate_left
                    · intro w'
                      go_simp
                      with_reducible rfl
                    rotate_left
                    · simp only [Act.put, List.setIfInBounds_toArray, List.set_cons_zero, List.set_cons_succ, i64_w, i32_w]
                      rfl
                    refine pure_ (i := 2) (N := some 53) (v := ?_) (a' := ?_) #[true, false, true, false, false, false, false, false, false, false, false] rfl rfl (any_of HT_.out (by kernel_rfl)) (fun _ _ _ h => h) (Or.inl ⟨by rfl, ?_⟩) ?_ ?_
                    rotate_left
                    · intro w'
                      go_simp
                      with_reducible rfl
                    rotate_left
                    · simp only [Act.put, List.setIfInBounds_toArray, List.set_cons_zero, List.set_cons_succ, i64_w, i32_w]
                      rfl
                    refine pure_ (i := 5) (N := some 56) (v := ?_) (a' := ?_) #[true, false, true, false, false, true, false, false, false, false, false] rfl rfl (any_of HT_.out (by kernel_rfl)) (fun _ _ _ h => h) (Or.inl ⟨by rfl, ?_⟩) ?_ ?_
                    rotate_left
                    · intro w'
                      go_simp
                      with_reducible rfl
                    rotate_left
                    · simp only [Act.put, List.setIfInBounds_toArray, List.set_cons_zero, List.set_cons_succ, i64_w, i32_w]
                      rfl
                    refine pure_ (i := 7) (N := some 58) (v := ?_) (a' := ?_) #[true, false, true, false, false, true, false, true, false, false, false] rfl rfl (any_of HT_.out (by kernel_rfl)) (fun _ _ _ h => h) (Or.inl ⟨by rfl, ?_⟩) ?_ ?_
                    rotate_left
                    · intro w'
                      go_simp
                      with_reducible rfl
                    rotate_left
                    · simp only [Act.put, List.setIfInBounds_toArray, List.set_cons_zero, List.set_cons_succ, i64_w, i32_w]
                      rfl
                    refine take_ (i := 1) (N := some 52) (v := ?_) (a' := ?_) #[true, true, true, false, false, true, false, true, false, false, false] rfl rfl (take_ofW HT_.out HW_.out (by kernel_rfl)) (fun _ _ _ h => h) (Or.inl ⟨by rfl, ?_⟩) hHeld ?_ ?_
                    rotate_left
                    · rintro w' ⟨s0, s1, s2, s3, s4, s5, s6, s7, s8, s9, s10, s11⟩
                      go_simp
                      with_reducible rfl
                    rotate_left
                    · simp only [Act.put, List.setIfInBounds_toArray, List.set_cons_zero, List.set_cons_succ, i64_w, i32_w]
                      rfl
                    refine pure_ (i := 3) (N := some 54) (v := ?_) (a' := ?_) #[true, true, true, true, false, true, false, true, false, false, false] rfl rfl (any_of HT_.out (by kernel_rfl)) (fun _ _ _ h => h) (Or.inl ⟨by rfl, ?_⟩) ?_ ?_
                    rotate_left
                    · intro w'
                      go_simp
                      with_reducible rfl
                    rotate_left
                    · simp only [Act.put, List.setIfInBounds_toArray, List.set_cons_zero, List.set_cons_succ, i64_w, i32_w]
                      rfl
                    refine take_ (i := 4) (N := some 55) (v := ?_) (a' := ?_) #[true, true, true, true, true, true, false, true, false, false, false] rfl rfl (take_ofW HT_.out HW_.out (by kernel_rfl)) (fun _ _ _ h => h) (Or.inl ⟨by rfl, ?_⟩) hHeld ?_ ?_
                    rotate_left
                    · rintro w' ⟨s0, s1, s2, s3, s4, s5, s6, s7, s8, s9, s10, s11⟩
                      go_simp
                      with_reducible rfl
                    rotate_left
                    · simp only [Act.put, List.setIfInBounds_toArray, List.set_cons_zero, List.set_cons_succ, i64_w, i32_w]
                      rfl
                    refine take_ (i := 6) (N := some 57) (v := ?_) (a' := ?_) #[true, true, true, true, true, true, true, true, false, false, false] rfl rfl (take_ofW HT_.out HW_.out (by kernel_rfl)) (fun _ _ _ h => h) (Or.inl ⟨by rfl, ?_⟩) hHeld ?_ ?_
                    rotate_left
                    · rintro w' ⟨s0, s1, s2, s3, s4, s5, s6, s7, s8, s9, s10, s11⟩
                      go_simp
                      with_reducible rfl
                    rotate_left
                    · simp only [Act.put, List.setIfInBounds_toArray, List.set_cons_zero, List.set_cons_succ, i64_w, i32_w]
                      rfl
                    refine pure_ (i := 8) (N := some 59) (v := ?_) (a' := ?_) #[true, true, true, true, true, true, true, true, true, false, false] rfl rfl (any_of HT_.out (by kernel_rfl)) (fun _ _ _ h => h) (Or.inl ⟨by rfl, ?_⟩) ?_ ?_
                    rotate_left
                    · intro w'
                      go_simp
                      with_reducible rfl
                    rotate_left
                    · simp only [Act.put, List.setIfInBounds_toArray, List.set_cons_zero, List.set_cons_succ, i64_w, i32_w]
                      rfl
                    refine take_ (i := 9) (N := some 60) (v := ?_) (a' := ?_) #[true, true, true, true, true, true, true, true, true, true, false] rfl rfl (take_ofW HT_.out HW_.out (by kernel_rfl)) (fun _ _ _ h => h) (Or.inl ⟨by rfl, ?_⟩) hHeld ?_ ?_
                    rotate_left
                    · rintro w' ⟨s0, s1, s2, s3, s4, s5, s6, s7, s8, s9, s10, s11⟩
                      go_simp
                      with_reducible rfl
                    rotate_left
                    · simp only [Act.put, List.setIfInBounds_toArray, List.set_cons_zero, List.set_cons_succ, i64_w, i32_w]
                      rfl
                    refine pure_ (i := 10) (N := some 61) (v := ?_) (a' := ?_) #[true, true, true, true, true, true, true, true, true, true, true] rfl rfl (any_of HT_.out (by kernel_rfl)) (fun _ _ _ h => h) (Or.inl ⟨by rfl, ?_⟩) ?_ ?_
                    rotate_left
                    · intro w'
                      go_simp
                      with_reducible rfl
                    rotate_left
                    · simp only [Act.put, List.setIfInBounds_toArray, List.set_cons_zero, List.set_cons_succ, i64_w, i32_w]
                      rfl
                    refine done_ (done_of HT_.out (by kernel_rfl)) ?_
                    try go_wp2
                    go_ret
                    exact ⟨by first | rfl | (simp [errW_none, errW_some] <;> rfl) | (simp [*, errW_none, errW_some] <;> rfl), by repeat (first | (with_reducible first | exact HB.out | apply below_alloc | apply pw_below_drewN | apply below_drew1 | refine below_set ?_ GE145.out | refine below_set ?_ GE146.out) | exact HB.out)⟩
                · rw [if_neg c28] at H
                  exact absurd H (by simp)
              · rw [if_neg c27] at H
                exact absurd H (by simp)
            · rw [if_neg c26] at H
              have c26b0 : decide (x5_2 < (l0_3.length : Int)) = false := decide_eq_false c26
              clear c26
              have H' := Aside0.mk H
              clear H
              have hnb36 := NB145_146.out
              have hnc36 := NB146_145.out
              have hcz37_0 : wr.cell? ⟨gb145, 0, none⟩ = some (.int .i64 a0_0) := (blk_cell BK145.out 0).trans rfl
              have hcz37_1 : wr.cell? ⟨gb145, 1, none⟩ = some (.int .i64 a0_1) := (blk_cell BK145.out 1).trans rfl
              have hcz37_2 : wr.cell? ⟨gb145, 2, none⟩ = some (.string a0_2) := (blk_cell BK145.out 2).trans rfl
              have hcz37_3 : wr.cell? ⟨gb145, 3, none⟩ = some (.slice A0_3 l0_3.length c0_3) := (blk_cell BK145.out 3).trans rfl
              have hcz37_4 : wr.cell? ⟨gb145, 4, none⟩ = some (.slice A0_4 l0_4.length c0_4) := (blk_cell BK145.out 4).trans rfl
              have hfz37_0 := blk_frozen BK145.out 0
              have hfz37_1 := blk_frozen BK145.out 1
              have hfz37_2 := blk_frozen BK145.out 2
              have hfz37_3 := blk_frozen BK145.out 3
              have hfz37_4 := blk_frozen BK145.out 4
              go_wp2
              go_loopg [6] k2 (fun kq v6 w' => ∃ (x6_3 : Int), v6 = .int .i64 x6_3 ∧ Aside0 (spec_Same.l1 kq x6_3 a0_0 a0_1 a0_2 l0_3 l0_4 a1_0 a1_1 a1_2 l1_3 l1_4 = some r) ∧ Aside0 (kq ≤ k2) ∧ Aside0 (w'.heap[gb145]? = some (.cells #[.int .i64 a0_0, .int .i64 a0_1, .string a0_2, (.slice A0_3 l0_3.length c0_3), (.slice A0_4 l0_4.length c0_4)] 26 (0, 0))) ∧ Aside0 (w'.heap[gb146]? = some (.cells #[.int .i64 a1_0, .int .i64 a1_1, .string a1_2, (.slice A1_3 l1_3.length c1_3), (.slice A1_4 l1_4.length c1_4)] 26 (0, 0))) ∧ Aside0 (Below w.heap.size w w'))
              case atStart => exact ⟨(0), (by first | rfl | (simp; done) | (simp [*]; done)), H', ⟨Nat.le_refl _⟩, ⟨by (with_reducible repeat (first | refine blk_drewN ?_ _ | refine blk_drew ?_ | refine blk_alloc ?_ _)); exact BK145.out⟩, ⟨by (with_reducible repeat (first | refine blk_drewN ?_ _ | refine blk_drew ?_ | refine blk_alloc ?_ _)); exact BK146.out⟩, ⟨by repeat (first | (with_reducible first | exact HB.out | apply below_alloc | apply pw_below_drewN | apply below_drew1 | refine below_set ?_ GE145.out | refine below_set ?_ GE146.out) | exact HB.out)⟩⟩
              case round =>
                clear H'
                try clear c1
                try clear p1
                try clear q1
                try clear hx1
                try clear c2
                try clear p2
                try clear c3
                try clear c6
                try clear c6b0
                try clear c6b1
                try clear p6
                try clear c7
                try clear c7b0
                try clear c7b1
                try clear c8
                try clear c8b0
                try clear c8b1
                try clear c9
                try clear c9b0
                try clear c9b1
                try clear c9b2
                try clear c10
                try clear c13
                try clear p14
                try clear q14
                try clear hx14
                try clear c15
                try clear c16
                try clear c19
                try clear c22
                try clear c25
                try clear c26
                try clear c26b0
                try clear c27
                try clear c27b0
                try clear c28
                try clear c28b0
                try clear c29
                try clear c29b0
                try clear c29b1
                try clear c30
                try clear c33
                try clear c36
                try clear hcz11_0
                try clear hcz11_1
                try clear hcz11_2
                try clear hcz11_3
                try clear hcz11_4
                try clear hcz12_0
                try clear hcz12_1
                try clear hcz12_2
                try clear hcz12_3
                try clear hcz12_4
                try clear hcz14_0
                try clear hcz14_1
                try clear hcz14_2
                try clear hcz14_3
                try clear hcz14_4
                try clear hcz15_0
                try clear hcz15_1
                try clear hcz15_2
                try clear hcz15_3
                try clear hcz15_4
                try clear hcz17_0
                try clear hcz17_1
                try clear hcz17_2
                try clear hcz17_3
                try clear hcz17_4
                try clear hcz18_0
                try clear hcz18_1
                try clear hcz18_2
                try clear hcz18_3
                try clear hcz18_4
                try clear hcz20_0
                try clear hcz20_1
                try clear hcz20_2
                try clear hcz20_3
                try clear hcz20_4
                try clear hcz21_0
                try clear hcz21_1
                try clear hcz21_2
                try clear hcz21_3
                try clear hcz21_4
                try clear hcz23_0
                try clear hcz23_1
                try clear hcz23_2
                try clear hcz23_3
                try clear hcz23_4
                try clear hcz24_0
                try clear hcz24_1
                try clear hcz24_2
                try clear hcz24_3
                try clear hcz24_4
                try clear hcz31_0
                try clear hcz31_1
                try clear hcz31_2
                try clear hcz31_3
                try clear hcz31_4
                try clear hcz34_0
                try clear hcz34_1
                try clear hcz34_2
                try clear hcz34_3
                try clear hcz34_4
                try clear hcz37_0
                try clear hcz37_1
                try clear hcz37_2
                try clear hcz37_3
                try clear hcz37_4
                try clear hfz11_0
                try clear hfz11_1
                try clear hfz11_2
                try clear hfz11_3
                try clear hfz11_4
                try clear hfz12_0
                try clear hfz12_1
                try clear hfz12_2
                try clear hfz12_3
                try clear hfz12_4
                try clear hfz14_0
                try clear hfz14_1
                try clear hfz14_2
                try clear hfz14_3
                try clear hfz14_4
                try clear hfz15_0
                try clear hfz15_1
                try clear hfz15_2
                try clear hfz15_3
                try clear hfz15_4
                try clear hfz17_0
                try clear hfz17_1
                try clear hfz17_2
                try clear hfz17_3
                try clear hfz17_4
                try clear hfz18_0
                try clear hfz18_1
                try clear hfz18_2
                try clear hfz18_3
                try clear hfz18_4
                try clear hfz20_0
                try clear hfz20_1
                try clear hfz20_2
                try clear hfz20_3
                try clear hfz20_4
                try clear hfz21_0
                try clear hfz21_1
                try clear hfz21_2
                try clear hfz21_3
                try clear hfz21_4
                try clear hfz23_0
                try clear hfz23_1
                try clear hfz23_2
                try clear hfz23_3
                try clear hfz23_4
                try clear hfz24_0
                try clear hfz24_1
                try clear hfz24_2
                try clear hfz24_3
                try clear hfz24_4
                try clear hfz31_0
                try clear hfz31_1
                try clear hfz31_2
                try clear hfz31_3
                try clear hfz31_4
                try clear hfz34_0
                try clear hfz34_1
                try clear hfz34_2
                try clear hfz34_3
                try clear hfz34_4
                try clear hfz37_0
                try clear hfz37_1
                try clear hfz37_2
                try clear hfz37_3
                try clear hfz37_4
                try clear hx147_0
                try clear hx148_0
                try clear p147
                try clear p148
                try clear p2
                try clear q147
                try clear q148
                obtain ⟨x6_3, rfl, HA, HK3, BK145, BK146, HB⟩ := hrel
                cases gk with
                | zero => exact absurd HA.out (by simp [spec_Same.l1])
                | succ k3 =>
                  have H := HA.out
                  clear HA
                  simp only [spec_Same.l1] at H
                  by_cases c38 : x6_3 < (l0_4.length : Int)
                  · rw [if_pos c38] at H
                    have c38b0 : decide (x6_3 < (l0_4.length : Int)) = true := decide_eq_true c38
                    clear c38
                    by_cases c39 : 0 ≤ x6_3
                    · rw [if_pos c39] at H
                      have c39b0 : decide (0 ≤ x6_3) = true := decide_eq_true c39
                      clear c39
                      by_cases c40 : x6_3 < (l1_4.length : Int)
                      · rw [if_pos c40] at H
                        have c40b0 : decide (x6_3 < (l1_4.length : Int)) = true := decide_eq_true c40
                        clear c40
                        replace H := Option.bind_eq_some_iff.mp H
                        obtain ⟨t151, A410, H⟩ := H
                        replace H : (if t151 = true then (spec_Same.l1 k3 (wrap64 (x6_3 + 1)) a0_0 a0_1 a0_2 l0_3 l0_4 a1_0 a1_1 a1_2 l1_3 l1_4) else (some false)) = some r := H
                        have A41 := Aside0.mk A410
                        clear A410
                        by_cases c42 : t151 = true
                        · subst c42
                          have H1 : (spec_Same.l1 k3 (wrap64 (x6_3 + 1)) a0_0 a0_1 a0_2 l0_3 l0_4 a1_0 a1_1 a1_2 l1_3 l1_4) = some r := by rw [if_pos rfl] at H; exact H
                          clear H
                          have H := H1
                          clear H1
                          have H' := Aside0.mk H
                          clear H
                          have hnb43 := NB145_146.out
                          have hnc43 := NB146_145.out
                          have hcz44_0 : wr.cell? ⟨gb145, 0, none⟩ = some (.int .i64 a0_0) := (blk_cell BK145.out 0).trans rfl
                          have hcz44_1 : wr.cell? ⟨gb145, 1, none⟩ = some (.int .i64 a0_1) := (blk_cell BK145.out 1).trans rfl
                          have hcz44_2 : wr.cell? ⟨gb145, 2, none⟩ = some (.string a0_2) := (blk_cell BK145.out 2).trans rfl
                          have hcz44_3 : wr.cell? ⟨gb145, 3, none⟩ = some (.slice A0_3 l0_3.length c0_3) := (blk_cell BK145.out 3).trans rfl
                          have hcz44_4 : wr.cell? ⟨gb145, 4, none⟩ = some (.slice A0_4 l0_4.length c0_4) := (blk_cell BK145.out 4).trans rfl
                          have hfz44_0 := blk_frozen BK145.out 0
                          have hfz44_1 := blk_frozen BK145.out 1
                          have hfz44_2 := blk_frozen BK145.out 2
                          have hfz44_3 := blk_frozen BK145.out 3
                          have hfz44_4 := blk_frozen BK145.out 4
                          try go_wp2
                          have n0_ := Aside0.mk (blk_drew BK145.out)
                          have n1_ := Aside0.mk (blk_drew BK146.out)
                          have n2_ := Aside0.mk (below_drew1 HB.out)
                          clear BK145
                          clear BK146
                          clear HB
                          have BK145 := n0_
                          have BK146 := n1_
                          have HB := n2_
                          clear n0_ n1_ n2_
                          have p149 : 0 ≤ (x6_3 : Int) := of_decide_eq_true (by first | (with_reducible assumption) | assumption)
                          have q149 : x6_3 < (l0_4.length : Int) := of_decide_eq_true (by first | (with_reducible assumption) | assumption)
                          obtain ⟨ad149, A149_3, c149_3, A149_4, c149_4, e149, hx149_0, hx149_1, hx149_2, hx149_3, hx149_4, hl149_3, hi149_3, hl149_4, hi149_4⟩ := at_T26 HR0_4.out x6_3 p149 q149
                          have hw149_4 := hx149_4
                          have hw149_3 := hx149_3
                          have hw149_2 := hx149_2
                          have hw149_1 := hx149_1
                          have hw149_0 := hx149_0
                          cases e149
                          replace hx149_0 := (HB.out.cell (World.block_lt_of_cell? w _ hx149_0)).trans hx149_0
                          replace hx149_1 := (HB.out.cell (World.block_lt_of_cell? w _ hx149_1)).trans hx149_1
                          replace hx149_2 := (HB.out.cell (World.block_lt_of_cell? w _ hx149_2)).trans hx149_2
                          replace hx149_3 := (HB.out.cell (World.block_lt_of_cell? w _ hx149_3)).trans hx149_3
                          replace hx149_4 := (HB.out.cell (World.block_lt_of_cell? w _ hx149_4)).trans hx149_4
                          have HR149_3 := Aside0.mk hi149_3
                          have HC149_3 := Aside0.mk hl149_3
                          clear hi149_3 hl149_3
                          have HR149_4 := Aside0.mk hi149_4
                          have HC149_4 := Aside0.mk hl149_4
                          clear hi149_4 hl149_4
                          replace p149 := eq_true p149
                          replace q149 := eq_true q149
                          have p150 : 0 ≤ (x6_3 : Int) := of_decide_eq_true (by first | (with_reducible assumption) | assumption)
                          have q150 : x6_3 < (l1_4.length : Int) := of_decide_eq_true (by first | (with_reducible assumption) | assumption)
                          obtain ⟨ad150, A150_3, c150_3, A150_4, c150_4, e150, hx150_0, hx150_1, hx150_2, hx150_3, hx150_4, hl150_3, hi150_3, hl150_4, hi150_4⟩ := at_T26 HR1_4.out x6_3 p150 q150
                          have hw150_4 := hx150_4
                          have hw150_3 := hx150_3
                          have hw150_2 := hx150_2
                          have hw150_1 := hx150_1
                          have hw150_0 := hx150_0
                          cases e150
                          replace hx150_0 := (HB.out.cell (World.block_lt_of_cell? w _ hx150_0)).trans hx150_0
                          replace hx150_1 := (HB.out.cell (World.block_lt_of_cell? w _ hx150_1)).trans hx150_1
                          replace hx150_2 := (HB.out.cell (World.block_lt_of_cell? w _ hx150_2)).trans hx150_2
                          replace hx150_3 := (HB.out.cell (World.block_lt_of_cell? w _ hx150_3)).trans hx150_3
                          replace hx150_4 := (HB.out.cell (World.block_lt_of_cell? w _ hx150_4)).trans hx150_4
                          have HR150_3 := Aside0.mk hi150_3
                          have HC150_3 := Aside0.mk hl150_3
                          clear hi150_3 hl150_3
                          have HR150_4 := Aside0.mk hi150_4
                          have HC150_4 := Aside0.mk hl150_4
                          clear hi150_4 hl150_4
                          replace p150 := eq_true p150
                          replace q150 := eq_true q150
                          refine start_ (n := 12) (S := fun w' => w'.cell? ⟨gb145, 0, none⟩ = some (.int .i64 a0_0) ∧ w'.cell? ⟨gb145, 1, none⟩ = some (.int .i64 a0_1) ∧ w'.cell? ⟨gb145, 2, none⟩ = some (.string a0_2) ∧ w'.cell? ⟨gb145, 3, none⟩ = some (.slice A0_3 l0_3.length c0_3) ∧ w'.cell? ⟨gb145, 4, none⟩ = some (.slice (some ad149) l0_4.length c0_4) ∧ w'.cell? ⟨gb146, 0, none⟩ = some (.int .i64 a1_0) ∧ w'.cell? ⟨gb146, 1, none⟩ = some (.int .i64 a1_1) ∧ w'.cell? ⟨gb146, 2, none⟩ = some (.string a1_2) ∧ w'.cell? ⟨gb146, 3, none⟩ = some (.slice A1_3 l1_3.length c1_3) ∧ w'.cell? ⟨gb146, 4, none⟩ = some (.slice (some ad150) l1_4.length c1_4) ∧ w'.cell? (ad149.add ((x6_3).toNat * 5)) = some (.int .i64 ((rd_T26 l0_4 x6_3).f0)) ∧ w'.cell? ⟨(ad149.add ((x6_3).toNat * 5)).block, (ad149.add ((x6_3).toNat * 5)).off + 1, none⟩ = some (.int .i64 ((rd_T26 l0_4 x6_3).f1)) ∧ w'.cell? ⟨(ad149.add ((x6_3).toNat * 5)).block, (ad149.add ((x6_3).toNat * 5)).off + 2, none⟩ = some (.string ((rd_T26 l0_4 x6_3).f2)) ∧ w'.cell? ⟨(ad149.add ((x6_3).toNat * 5)).block, (ad149.add ((x6_3).toNat * 5)).off + 3, none⟩ = some (.slice A149_3 ((rd_T26 l0_4 x6_3).f3).length c149_3) ∧ w'.cell? ⟨(ad149.add ((x6_3).toNat * 5)).block, (ad149.add ((x6_3).toNat * 5)).off + 4, none⟩ = some (.slice A149_4 ((rd_T26 l0_4 x6_3).f4).length c149_4) ∧ w'.cell? (ad150.add ((x6_3).toNat * 5)) = some (.int .i64 ((rd_T26 l1_4 x6_3).f0)) ∧ w'.cell? ⟨(ad150.add ((x6_3).toNat * 5)).block, (ad150.add ((x6_3).toNat * 5)).off + 1, none⟩ = some (.int .i64 ((rd_T26 l1_4 x6_3).f1)) ∧ w'.cell? ⟨(ad150.add ((x6_3).toNat * 5)).block, (ad150.add ((x6_3).toNat * 5)).off + 2, none⟩ = some (.string ((rd_T26 l1_4 x6_3).f2)) ∧ w'.cell? ⟨(ad150.add ((x6_3).toNat * 5)).block, (ad150.add ((x6_3).toNat * 5)).off + 3, none⟩ = some (.slice A150_3 ((rd_T26 l1_4 x6_3).f3).length c150_3) ∧ w'.cell? ⟨(ad150.add ((x6_3).toNat * 5)).block, (ad150.add ((x6_3).toNat * 5)).off + 4, none⟩ = some (.slice A150_4 ((rd_T26 l1_4 x6_3).f4).length c150_4)) (ds := []) #[false, false, false, false, false, false, false, false, false, false, false, false] (by kernel_rfl) rfl rfl ⟨(blk_cell BK145.out 0).trans rfl, (blk_cell BK145.out 1).trans rfl, (blk_cell BK145.out 2).trans rfl, (blk_cell BK145.out 3).trans rfl, (blk_cell BK145.out 4).trans rfl, (blk_cell BK146.out 0).trans rfl, (blk_cell BK146.out 1).trans rfl, (blk_cell BK146.out 2).trans rfl, (blk_cell BK146.out 3).trans rfl, (blk_cell BK146.out 4).trans rfl, ((HB.out.cell (World.block_lt_of_cell? w _ hw149_0)).trans hw149_0), ((HB.out.cell (World.block_lt_of_cell? w _ hw149_1)).trans hw149_1), ((HB.out.cell (World.block_lt_of_cell? w _ hw149_2)).trans hw149_2), ((HB.out.cell (World.block_lt_of_cell? w _ hw149_3)).trans hw149_3), ((HB.out.cell (World.block_lt_of_cell? w _ hw149_4)).trans hw149_4), ((HB.out.cell (World.block_lt_of_cell? w _ hw150_0)).trans hw150_0), ((HB.out.cell (World.block_lt_of_cell? w _ hw150_1)).trans hw150_1), ((HB.out.cell (World.block_lt_of_cell? w _ hw150_2)).trans hw150_2), ((HB.out.cell (World.block_lt_of_cell? w _ hw150_3)).trans hw150_3), ((HB.out.cell (World.block_lt_of_cell? w _ hw150_4)).trans hw150_4)⟩ (fun hHeld => ?_); refine with_tabW spec_Same.tab11 spec_Same.bits11 (fun HT_ HW_ => ?_)
                          generalize wr.drew = w45 at BK145 BK146 HB HR149_3 HR149_4 HR150_3 HR150_4 hx149_0 hx149_1 hx149_2 hx149_3 hx149_4 hx150_0 hx150_1 hx150_2 hx150_3 hx150_4 hHeld ⊢
                          refine pure_ (i := 0) (N := some 69) (v := ?_) (a' := ?_) #[true, false, false, false, false, false, false, false, false, false, false, false] rfl rfl (any_of HT_.out (by kernel_rfl)) (fun _ _ _ h => h) (Or.inl ⟨by rfl, ?_⟩) ?_ ?_
                          rotate_left
                          · intro w'
                            go_simp
                            with_reducible rfl
                          rotate_left
                          · simp only [Act.put, List.setIfInBounds_toArray, List.set_cons_zero, List.set_cons_succ, i64_w, i32_w]
                            rfl
                          refine pure_ (i := 2) (N := some 71) (v := ?_) (a' := ?_) #[true, false, true, false, false, false, false, false, false, false, false, false] rfl rfl (any_of HT_.out (by kernel_rfl)) (fun _ _ _ h => h) (Or.inl ⟨by rfl, ?_⟩) ?_ ?_
                          rotate_left
                          · intro w'
                            go_simp
                            with_reducible rfl
                          rotate_left
                          · simp only [Act.put, List.setIfInBounds_toArray, List.set_cons_zero, List.set_cons_succ, i64_w, i32_w]
                            rfl
                          refine pure_ (i := 5) (N := some 74) (v := ?_) (a' := ?_) #[true, false, true, false, false, true, false, false, false, false, false, false] rfl rfl (any_of HT_.out (by kernel_rfl)) (fun _ _ _ h => h) (Or.inl ⟨by rfl, ?_⟩) ?_ ?_
                          rotate_left
                          · intro w'
                            go_simp
                            with_reducible rfl
                          rotate_left
                          · simp only [Act.put, List.setIfInBounds_toArray, List.set_cons_zero, List.set_cons_succ, i64_w, i32_w]
                            rfl
                          refine pure_ (i := 7) (N := some 76) (v := ?_) (a' := ?_) #[true, false, true, false, false, true, false, true, false, false, false, false] rfl rfl (any_of HT_.out (by kernel_rfl)) (fun _ _ _ h => h) (Or.inl ⟨by rfl, ?_⟩) ?_ ?_
                          rotate_left
                          · intro w'
                            go_simp
                            with_reducible rfl
                          rotate_left
                          · simp only [Act.put, List.setIfInBounds_toArray, List.set_cons_zero, List.set_cons_succ, i64_w, i32_w]
                            rfl
                          refine take_ (i := 1) (N := some 70) (v := ?_) (a' := ?_) #[true, true, true, false, false, true, false, true, false, false, false, false] rfl rfl (take_ofW HT_.out HW_.out (by kernel_rfl)) (fun _ _ _ h => h) (Or.inl ⟨by rfl, ?_⟩) hHeld ?_ ?_
                          rotate_left
                          · rintro w' ⟨s0, s1, s2, s3, s4, s5, s6, s7, s8, s9, s10, s11, s12, s13, s14, s15, s16, s17, s18, s19⟩
                            go_simp
                            with_reducible rfl
                          rotate_left
                          · simp only [Act.put, List.setIfInBounds_toArray, List.set_cons_zero, List.set_cons_succ, i64_w, i32_w]
                            rfl
                          refine pure_ (i := 3) (N := some 72) (v := ?_) (a' := ?_) #[true, true, true, true, false, true, false, true, false, false, false, false] rfl rfl (any_of HT_.out (by kernel_rfl)) (fun _ _ _ h => h) (Or.inl ⟨by rfl, ?_⟩) ?_ ?_
                          rotate_left
                          · intro w'
                            go_simp
                            with_reducible rfl
                          rotate_left
                          · simp only [Act.put, List.setIfInBounds_toArray, List.set_cons_zero, List.set_cons_succ, i64_w, i32_w]
                            rfl
                          refine take_ (i := 4) (N := some 73) (v := ?_) (a' := ?_) #[true, true, true, true, true, true, false, true, false, false, false, false] rfl rfl (take_ofW HT_.out HW_.out (by kernel_rfl)) (fun _ _ _ h => h) (Or.inl ⟨by rfl, ?_⟩) hHeld ?_ ?_
                          rotate_left
                          · rintro w' ⟨s0, s1, s2, s3, s4, s5, s6, s7, s8, s9, s10, s11, s12, s13, s14, s15, s16, s17, s18, s19⟩
                            go_simp
                            with_reducible rfl
                          rotate_left
                          · simp only [Act.put, List.setIfInBounds_toArray, List.set_cons_zero, List.set_cons_succ, i64_w, i32_w]
                            rfl
                          refine take_ (i := 6) (N := some 75) (v := ?_) (a' := ?_) #[true, true, true, true, true, true, true, true, false, false, false, false] rfl rfl (take_ofW HT_.out HW_.out (by kernel_rfl)) (fun _ _ _ h => h) (Or.inl ⟨by rfl, ?_⟩) hHeld ?_ ?_
                          rotate_left
                          · rintro w' ⟨s0, s1, s2, s3, s4, s5, s6, s7, s8, s9, s10, s11, s12, s13, s14, s15, s16, s17, s18, s19⟩
                            go_simp
                            with_reducible rfl
                          rotate_left
                          · simp only [Act.put, List.setIfInBounds_toArray, List.set_cons_zero, List.set_cons_succ, i64_w, i32_w]
                            rfl
                          refine pure_ (i := 8) (N := some 77) (v := ?_) (a' := ?_) #[true, true, true, true, true, true, true, true, true, false, false, false] rfl rfl (any_of HT_.out (by kernel_rfl)) (fun _ _ _ h => h) (Or.inl ⟨by rfl, ?_⟩) ?_ ?_
                          rotate_left
                          · intro w'
                            go_simp
                            with_reducible rfl
                          rotate_left
                          · simp only [Act.put, List.setIfInBounds_toArray, List.set_cons_zero, List.set_cons_succ, i64_w, i32_w]
                            rfl
                          refine take_ (i := 9) (N := some 78) (v := ?_) (a' := ?_) #[true, true, true, true, true, true, true, true, true, true, false, false] rfl rfl (take_ofW HT_.out HW_.out (by kernel_rfl)) (fun _ _ _ h => h) (Or.inl ⟨by rfl, ?_⟩) hHeld ?_ ?_
                          rotate_left
                          · rintro w' ⟨s0, s1, s2, s3, s4, s5, s6, s7, s8, s9, s10, s11, s12, s13, s14, s15, s16, s17, s18, s19⟩
                            go_simp
                            with_reducible rfl
                          rotate_left
                          · simp only [Act.put, List.setIfInBounds_toArray, List.set_cons_zero, List.set_cons_succ, i64_w, i32_w]
                            rfl
                          refine one_ (i := 10) (N := some 79) #[true, true, true, true, true, true, true, true, true, true, true, false] rfl rfl (one_of HT_.out (by kernel_rfl)) (by decide) (fun K hK => ?_)
                          refine goes_ Tryz.func15 (by kernel_rfl) rfl #[.agg #[.int .i64 ((rd_T26 l0_4 x6_3).f0), .int .i64 ((rd_T26 l0_4 x6_3).f1), .string ((rd_T26 l0_4 x6_3).f2), .slice A149_3 ((rd_T26 l0_4 x6_3).f3).length c149_3, .slice A149_4 ((rd_T26 l0_4 x6_3).f4).length c149_4], .agg #[.int .i64 ((rd_T26 l1_4 x6_3).f0), .int .i64 ((rd_T26 l1_4 x6_3).f1), .string ((rd_T26 l1_4 x6_3).f2), .slice A150_3 ((rd_T26 l1_4 x6_3).f3).length c150_3, .slice A150_4 ((rd_T26 l1_4 x6_3).f4).length c150_4]] (by rfl) rfl rfl (by (try simp only [List.map_toArray, List.map_cons, List.map_nil]); first | done | rfl | (simp only [List.length_drop, List.length_take]; rfl)) ?_
                          with_reducible refine (ih k3 (by have := HJ2.out; have := HK2.out; have := HK3.out; omega) ((rd_T26 l0_4 x6_3).f0) ((rd_T26 l0_4 x6_3).f1) ((rd_T26 l0_4 x6_3).f2) _ _ ((rd_T26 l0_4 x6_3).f3) _ _ ((rd_T26 l0_4 x6_3).f4) ((rd_T26 l1_4 x6_3).f0) ((rd_T26 l1_4 x6_3).f1) ((rd_T26 l1_4 x6_3).f2) _ _ ((rd_T26 l1_4 x6_3).f3) _ _ ((rd_T26 l1_4 x6_3).f4) true _ ?side1 ?side2 ?side3 ?side4 ?side5 ?side6 ?side7 ?side8 A41.out).mono ?_
                          (case side1 => repeat (first | exact (Kd.C_below HR149_3.out HB.out) | (with_reducible refine Kd.C_alloc ?_ _) | (with_reducible refine Kd.C_drewN ?_ _) | (with_reducible refine Kd.C_drew ?_)))
                          (case side2 => exact HC149_3.out)
                          (case side3 => repeat (first | exact (Kd.C_below HR149_4.out HB.out) | (with_reducible refine Kd.C_alloc ?_ _) | (with_reducible refine Kd.C_drewN ?_ _) | (with_reducible refine Kd.C_drew ?_)))
                          (case side4 => exact HC149_4.out)
                          (case side5 => repeat (first | exact (Kd.C_below HR150_3.out HB.out) | (with_reducible refine Kd.C_alloc ?_ _) | (with_reducible refine Kd.C_drewN ?_ _) | (with_reducible refine Kd.C_drew ?_)))
                          (case side6 => exact HC150_3.out)
                          (case side7 => repeat (first | exact (Kd.C_below HR150_4.out HB.out) | (with_reducible refine Kd.C_alloc ?_ _) | (with_reducible refine Kd.C_drewN ?_ _) | (with_reducible refine Kd.C_drew ?_)))
                          (case side8 => exact HC150_4.out)
                          rintro e w46 ⟨rfl, hb⟩
                          refine ⟨_, rfl, ?_⟩
                          have n0_ := Aside0.mk (blk_below (g := gb145) (o := .cells #[.int .i64 a0_0, .int .i64 a0_1, .string a0_2, .slice A0_3 l0_3.length c0_3, .slice (some ad149) l0_4.length c0_4] 26 (0, 0)) (by (with_reducible repeat (first | refine blk_drewN ?_ _ | refine blk_drew ?_ | refine blk_alloc ?_ _)); exact BK145.out) hb)
                          have n1_ := Aside0.mk (blk_below (g := gb146) (o := .cells #[.int .i64 a1_0, .int .i64 a1_1, .string a1_2, .slice A1_3 l1_3.length c1_3, .slice (some ad150) l1_4.length c1_4] 26 (0, 0)) (by (with_reducible repeat (first | refine blk_drewN ?_ _ | refine blk_drew ?_ | refine blk_alloc ?_ _)); exact BK146.out) hb)
                          have n2_ := Aside0.mk (below_step (by repeat (first | (with_reducible first | exact HB.out | apply below_alloc | apply pw_below_drewN | apply below_drew1 | refine below_set ?_ GE145.out | refine below_set ?_ GE146.out) | exact HB.out)) hb)
                          clear BK145
                          clear BK146
                          clear HB
                          have BK145 := n0_
                          have BK146 := n1_
                          have HB := n2_
                          clear n0_ n1_ n2_
                          (try clear hb)
                          (try clear hb2)
                          (try clear hk)
                          (try clear hi)
                          refine hK.out _ _ ⟨(blk_cell BK145.out 0).trans rfl, (blk_cell BK145.out 1).trans rfl, (blk_cell BK145.out 2).trans rfl, (blk_cell BK145.out 3).trans rfl, (blk_cell BK145.out 4).trans rfl, (blk_cell BK146.out 0).trans rfl, (blk_cell BK146.out 1).trans rfl, (blk_cell BK146.out 2).trans rfl, (blk_cell BK146.out 3).trans rfl, (blk_cell BK146.out 4).trans rfl, ((HB.out.cell (World.block_lt_of_cell? w _ hw149_0)).trans hw149_0), ((HB.out.cell (World.block_lt_of_cell? w _ hw149_1)).trans hw149_1), ((HB.out.cell (World.block_lt_of_cell? w _ hw149_2)).trans hw149_2), ((HB.out.cell (World.block_lt_of_cell? w _ hw149_3)).trans hw149_3), ((HB.out.cell (World.block_lt_of_cell? w _ hw149_4)).trans hw149_4), ((HB.out.cell (World.block_lt_of_cell? w _ hw150_0)).trans hw150_0), ((HB.out.cell (World.block_lt_of_cell? w _ hw150_1)).trans hw150_1), ((HB.out.cell (World.block_lt_of_cell? w _ hw150_2)).trans hw150_2), ((HB.out.cell (World.block_lt_of_cell? w _ hw150_3)).trans hw150_3), ((HB.out.cell (World.block_lt_of_cell? w _ hw150_4)).trans hw150_4)⟩ (fun hHeld => ?_)
                          clear hK K
                          refine norm_ (a' := ?_) ?_ ?_
                          rotate_left
                          · show Act.put _ (some 79) _ = _
                            simp only [Act.put, List.setIfInBounds_toArray, List.set_cons_zero, List.set_cons_succ, i64_w, i32_w]
                            rfl
                          refine pure_ (i := 11) (N := some 80) (v := ?_) (a' := ?_) #[true, true, true, true, true, true, true, true, true, true, true, true] rfl rfl (any_of HT_.out (by kernel_rfl)) (fun _ _ _ h => h) (Or.inl ⟨by rfl, ?_⟩) ?_ ?_
                          rotate_left
                          · intro w'
                            go_simp
                            with_reducible rfl
                          rotate_left
                          · simp only [Act.put, List.setIfInBounds_toArray, List.set_cons_zero, List.set_cons_succ, i64_w, i32_w]
                            rfl
                          refine done_ (done_of HT_.out (by kernel_rfl)) ?_
                          try go_wp2
                          go_roundg k3
                          case measure => have := HJ2.out; have := HK2.out; have := HK3.out; omega
                          case rel => exact ⟨(wrap64 (x6_3 + 1)), (by first | rfl | (simp; done) | (simp [*]; done)), H', ⟨by have := HJ2.out; have := HK2.out; have := HK3.out; omega⟩, ⟨by (with_reducible repeat (first | refine blk_drewN ?_ _ | refine blk_drew ?_ | refine blk_alloc ?_ _)); exact BK145.out⟩, ⟨by (with_reducible repeat (first | refine blk_drewN ?_ _ | refine blk_drew ?_ | refine blk_alloc ?_ _)); exact BK146.out⟩, ⟨by repeat (first | (with_reducible first | exact HB.out | apply below_alloc | apply pw_below_drewN | apply below_drew1 | refine below_set ?_ GE145.out | refine below_set ?_ GE146.out) | exact HB.out)⟩⟩
                        · replace c42 := Bool.eq_false_iff.mpr c42
                          subst c42
                          have H1 : (some false) = some r := by rw [if_neg (show ¬ (false = true) by decide)] at H; exact H
                          clear H
                          have H := H1
                          clear H1
                          obtain rfl := Option.some.inj H
                          have hnb47 := NB145_146.out
                          have hnc47 := NB146_145.out
                          have hcz48_0 : wr.cell? ⟨gb145, 0, none⟩ = some (.int .i64 a0_0) := (blk_cell BK145.out 0).trans rfl
                          have hcz48_1 : wr.cell? ⟨gb145, 1, none⟩ = some (.int .i64 a0_1) := (blk_cell BK145.out 1).trans rfl
                          have hcz48_2 : wr.cell? ⟨gb145, 2, none⟩ = some (.string a0_2) := (blk_cell BK145.out 2).trans rfl
                          have hcz48_3 : wr.cell? ⟨gb145, 3, none⟩ = some (.slice A0_3 l0_3.length c0_3) := (blk_cell BK145.out 3).trans rfl
                          have hcz48_4 : wr.cell? ⟨gb145, 4, none⟩ = some (.slice A0_4 l0_4.length c0_4) := (blk_cell BK145.out 4).trans rfl
                          have hfz48_0 := blk_frozen BK145.out 0
                          have hfz48_1 := blk_frozen BK145.out 1
                          have hfz48_2 := blk_frozen BK145.out 2
                          have hfz48_3 := blk_frozen BK145.out 3
                          have hfz48_4 := blk_frozen BK145.out 4
                          try go_wp2
                          have n0_ := Aside0.mk (blk_drew BK145.out)
                          have n1_ := Aside0.mk (blk_drew BK146.out)
                          have n2_ := Aside0.mk (below_drew1 HB.out)
                          clear BK145
                          clear BK146
                          clear HB
                          have BK145 := n0_
                          have BK146 := n1_
                          have HB := n2_
                          clear n0_ n1_ n2_
                          have p149 : 0 ≤ (x6_3 : Int) := of_decide_eq_true (by first | (with_reducible assumption) | assumption)
                          have q149 : x6_3 < (l0_4.length : Int) := of_decide_eq_true (by first | (with_reducible assumption) | assumption)
                          obtain ⟨ad149, A149_3, c149_3, A149_4, c149_4, e149, hx149_0, hx149_1, hx149_2, hx149_3, hx149_4, hl149_3, hi149_3, hl149_4, hi149_4⟩ := at_T26 HR0_4.out x6_3 p149 q149
                          have hw149_4 := hx149_4
                          have hw149_3 := hx149_3
                          have hw149_2 := hx149_2
                          have hw149_1 := hx149_1
                          have hw149_0 := hx149_0
                          cases e149
                          replace hx149_0 := (HB.out.cell (World.block_lt_of_cell? w _ hx149_0)).trans hx149_0
                          replace hx149_1 := (HB.out.cell (World.block_lt_of_cell? w _ hx149_1)).trans hx149_1
                          replace hx149_2 := (HB.out.cell (World.block_lt_of_cell? w _ hx149_2)).trans hx149_2
                          replace hx149_3 := (HB.out.cell (World.block_lt_of_cell? w _ hx149_3)).trans hx149_3
                          replace hx149_4 := (HB.out.cell (World.block_lt_of_cell? w _ hx149_4)).trans hx149_4
                          have HR149_3 := Aside0.mk hi149_3
                          have HC149_3 := Aside0.mk hl149_3
                          clear hi149_3 hl149_3
                          have HR149_4 := Aside0.mk hi149_4
                          have HC149_4 := Aside0.mk hl149_4
                          clear hi149_4 hl149_4
                          replace p149 := eq_true p149
                          replace q149 := eq_true q149
                          have p150 : 0 ≤ (x6_3 : Int) := of_decide_eq_true (by first | (with_reducible assumption) | assumption)
                          have q150 : x6_3 < (l1_4.length : Int) := of_decide_eq_true (by first | (with_reducible assumption) | assumption)
                          obtain ⟨ad150, A150_3, c150_3, A150_4, c150_4, e150, hx150_0, hx150_1, hx150_2, hx150_3, hx150_4, hl150_3, hi150_3, hl150_4, hi150_4⟩ := at_T26 HR1_4.out x6_3 p150 q150
                          have hw150_4 := hx150_4
                          have hw150_3 := hx150_3
                          have hw150_2 := hx150_2
                          have hw150_1 := hx150_1
                          have hw150_0 := hx150_0
                          cases e150
                          replace hx150_0 := (HB.out.cell (World.block_lt_of_cell? w _ hx150_0)).trans hx150_0
                          replace hx150_1 := (HB.out.cell (World.block_lt_of_cell? w _ hx150_1)).trans hx150_1
                          replace hx150_2 := (HB.out.cell (World.block_lt_of_cell? w _ hx150_2)).trans hx150_2
                          replace hx150_3 := (HB.out.cell (World.block_lt_of_cell? w _ hx150_3)).trans hx150_3
                          replace hx150_4 := (HB.out.cell (World.block_lt_of_cell? w _ hx150_4)).trans hx150_4
                          have HR150_3 := Aside0.mk hi150_3
                          have HC150_3 := Aside0.mk hl150_3
                          clear hi150_3 hl150_3
                          have HR150_4 := Aside0.mk hi150_4
                          have HC150_4 := Aside0.mk hl150_4
                          clear hi150_4 hl150_4
                          replace p150 := eq_true p150
                          replace q150 := eq_true q150
                          refine start_ (n := 12) (S := fun w' => w'.cell? ⟨gb145, 0, none⟩ = some (.int .i64 a0_0) ∧ w'.cell? ⟨gb145, 1, none⟩ = some (.int .i64 a0_1) ∧ w'.cell? ⟨gb145, 2, none⟩ = some (.string a0_2) ∧ w'.cell? ⟨gb145, 3, none⟩ = some (.slice A0_3 l0_3.length c0_3) ∧ w'.cell? ⟨gb145, 4, none⟩ = some (.slice (some ad149) l0_4.length c0_4) ∧ w'.cell? ⟨gb146, 0, none⟩ = some (.int .i64 a1_0) ∧ w'.cell? ⟨gb146, 1, none⟩ = some (.int .i64 a1_1) ∧ w'.cell? ⟨gb146, 2, none⟩ = some (.string a1_2) ∧ w'.cell? ⟨gb146, 3, none⟩ = some (.slice A1_3 l1_3.length c1_3) ∧ w'.cell? ⟨gb146, 4, none⟩ = some (.slice (some ad150) l1_4.length c1_4) ∧ w'.cell? (ad149.add ((x6_3).toNat * 5)) = some (.int .i64 ((rd_T26 l0_4 x6_3).f0)) ∧ w'.cell? ⟨(ad149.add ((x6_3).toNat * 5)).block, (ad149.add ((x6_3).toNat * 5)).off + 1, none⟩ = some (.int .i64 ((rd_T26 l0_4 x6_3).f1)) ∧ w'.cell? ⟨(ad149.add ((x6_3).toNat * 5)).block, (ad149.add ((x6_3).toNat * 5)).off + 2, none⟩ = some (.string ((rd_T26 l0_4 x6_3).f2)) ∧ w'.cell? ⟨(ad149.add ((x6_3).toNat * 5)).block, (ad149.add ((x6_3).toNat * 5)).off + 3, none⟩ = some (.slice A149_3 ((rd_T26 l0_4 x6_3).f3).length c149_3) ∧ w'.cell? ⟨(ad149.add ((x6_3).toNat * 5)).block, (ad149.add ((x6_3).toNat * 5)).off + 4, none⟩ = some (.slice A149_4 ((rd_T26 l0_4 x6_3).f4).length c149_4) ∧ w'.cell? (ad150.add ((x6_3).toNat * 5)) = some (.int .i64 ((rd_T26 l1_4 x6_3).f0)) ∧ w'.cell? ⟨(ad150.add ((x6_3).toNat * 5)).block, (ad150.add ((x6_3).toNat * 5)).off + 1, none⟩ = some (.int .i64 ((rd_T26 l1_4 x6_3).f1)) ∧ w'.cell? ⟨(ad150.add ((x6_3).toNat * 5)).block, (ad150.add ((x6_3).toNat * 5)).off + 2, none⟩ = some (.string ((rd_T26 l1_4 x6_3).f2)) ∧ w'.cell? ⟨(ad150.add ((x6_3).toNat * 5)).block, (ad150.add ((x6_3).toNat * 5)).off + 3, none⟩ = some (.slice A150_3 ((rd_T26 l1_4 x6_3).f3).length c150_3) ∧ w'.cell? ⟨(ad150.add ((x6_3).toNat * 5)).block, (ad150.add ((x6_3).toNat * 5)).off + 4, none⟩ = some (.slice A150_4 ((rd_T26 l1_4 x6_3).f4).length c150_4)) (ds := []) #[false, false, false, false, false, false, false, false, false, false, false, false] (by kernel_rfl) rfl rfl ⟨(blk_cell BK145.out 0).trans rfl, (blk_cell BK145.out 1).trans rfl, (blk_cell BK145.out 2).trans rfl, (blk_cell BK145.out 3).trans rfl, (blk_cell BK145.out 4).trans rfl, (blk_cell BK146.out 0).trans rfl, (blk_cell BK146.out 1).trans rfl, (blk_cell BK146.out 2).trans rfl, (blk_cell BK146.out 3).trans rfl, (blk_cell BK146.out 4).trans rfl, ((HB.out.cell (World.block_lt_of_cell? w _ hw149_0)).trans hw149_0), ((HB.out.cell (World.block_lt_of_cell? w _ hw149_1)).trans hw149_1), ((HB.out.cell (World.block_lt_of_cell? w _ hw149_2)).trans hw149_2), ((HB.out.cell (World.block_lt_of_cell? w _ hw149_3)).trans hw149_3), ((HB.out.cell (World.block_lt_of_cell? w _ hw149_4)).trans hw149_4), ((HB.out.cell (World.block_lt_of_cell? w _ hw150_0)).trans hw150_0), ((HB.out.cell (World.block_lt_of_cell? w _ hw150_1)).trans hw150_1), ((HB.out.cell (World.block_lt_of_cell? w _ hw150_2)).trans hw150_2), ((HB.out.cell (World.block_lt_of_cell? w _ hw150_3)).trans hw150_3), ((HB.out.cell (World.block_lt_of_cell? w _ hw150_4)).trans hw150_4)⟩ (fun hHeld => ?_); refine with_tabW spec_Same.tab11 spec_Same.bits11 (fun HT_ HW_ => ?_)
                          generalize wr.drew = w49 at BK145 BK146 HB HR149_3 HR149_4 HR150_3 HR150_4 hx149_0 hx149_1 hx149_2 hx149_3 hx149_4 hx150_0 hx150_1 hx150_2 hx150_3 hx150_4 hHeld ⊢
                          refine pure_ (i := 0) (N := some 69) (v := ?_) (a' := ?_) #[true, false, false, false, false, false, false, false, false, false, false, false] rfl rfl (any_of HT_.out (by kernel_rfl)) (fun _ _ _ h => h) (Or.inl ⟨by rfl, ?_⟩) ?_ ?_
                          rotate_left
                          · intro w'
                            go_simp
                            with_reducible rfl
                          rotate_left
                          · simp only [Act.put, List.setIfInBounds_toArray, List.set_cons_zero, List.set_cons_succ, i64_w, i32_w]
                            rfl
                          refine pure_ (i := 2) (N := some 71) (v := ?_) (a' := ?_) #[true, false, true, false, false, false, false, false, false, false, false, false] rfl rfl (any_of HT_.out (by kernel_rfl)) (fun _ _ _ h => h) (Or.inl ⟨by rfl, ?_⟩) ?_ ?_
                          rotate_left
                          · intro w'
                            go_simp
                            with_reducible rfl
                          rotate_left
                          · simp only [Act.put, List.setIfInBounds_toArray, List.set_cons_zero, List.set_cons_succ, i64_w, i32_w]
                            rfl
                          refine pure_ (i := 5) (N := some 74) (v := ?_) (a' := ?_) #[true, false, true, false, false, true, false, false, false, false, false, false] rfl rfl (any_of HT_.out (by kernel_rfl)) (fun _ _ _ h => h) (Or.inl ⟨by rfl, ?_⟩) ?_ ?_
                          rotate_left
                          · intro w'
                            go_simp
                            with_reducible rfl
                          rotate_left
                          · simp only [Act.put, List.setIfInBounds_toArray, List.set_cons_zero, List.set_cons_succ, i64_w, i32_w]
                            rfl
                          refine pure_ (i := 7) (N := some 76) (v := ?_) (a' := ?_) #[true, false, true, false, false, true, false, true, false, false, false, false] rfl rfl (any_of HT_.out (by kernel_rfl)) (fun _ _ _ h => h) (Or.inl ⟨by rfl, ?_⟩) ?_ ?_
                          rotate_left
                          · intro w'
                            go_simp
                            with_reducible rfl
                          rotate_left
                          · simp only [Act.put, List.setIfInBounds_toArray, List.set_cons_zero, List.set_cons_succ, i64_w, i32_w]
                            rfl
                          refine take_ (i := 1) (N := some 70) (v := ?_) (a' := ?_) #[true, true, true, false, false, true, false, true, false, false, false, false] rfl rfl (take_ofW HT_.out HW_.out (by kernel_rfl)) (fun _ _ _ h => h) (Or.inl ⟨by rfl, ?_⟩) hHeld ?_ ?_
                          rotate_left
                          · rintro w' ⟨s0, s1, s2, s3, s4, s5, s6, s7, s8, s9, s10, s11, s12, s13, s14, s15, s16, s17, s18, s19⟩
                            go_simp
                            with_reducible rfl
                          rotate_left
                          · simp only [Act.put, List.setIfInBounds_toArray, List.set_cons_zero, List.set_cons_succ, i64_w, i32_w]
                            rfl
                          refine pure_ (i := 3) (N := some 72) (v := ?_) (a' := ?_) #[true, true, true, true, false, true, false, true, false, false, false, false] rfl rfl (any_of HT_.out (by kernel_rfl)) (fun _ _ _ h => h) (Or.inl ⟨by rfl, ?_⟩) ?_ ?_
                          rotate_left
                          · intro w'
                            go_simp
                            with_reducible rfl
                          rotate_left
                          · simp only [Act.put, List.setIfInBounds_toArray, List.set_cons_zero, List.set_cons_succ, i64_w, i32_w]
                            rfl
                          refine take_ (i := 4) (N := some 73) (v := ?_) (a' := ?_) #[true, true, true, true, true, true, false, true, false, false, false, false] rfl rfl (take_ofW HT_.out HW_.out (by kernel_rfl)) (fun _ _ _ h => h) (Or.inl ⟨by rfl, ?_⟩) hHeld ?_ ?_
                          rotate_left
                          · rintro w' ⟨s0, s1, s2, s3, s4, s5, s6, s7, s8, s9, s10, s11, s12, s13, s14, s15, s16, s17, s18, s19⟩
                            go_simp
                            with_reducible rfl
                          rotate_left
                          · simp only [Act.put, List.setIfInBounds_toArray, List.set_cons_zero, List.set_cons_succ, i64_w, i32_w]
                            rfl
                          refine take_ (i := 6) (N := some 75) (v := ?_) (a' := ?_) #[true, true, true, true, true, true, true, true, false, false, false, false] rfl rfl (take_ofW HT_.out HW_.out (by kernel_rfl)) (fun _ _ _ h => h) (Or.inl ⟨by rfl, ?_⟩) hHeld ?_ ?_
                          rotate_left
                          · rintro w' ⟨s0, s1, s2, s3, s4, s5, s6, s7, s8, s9, s10, s11, s12, s13, s14, s15, s16, s17, s18, s19⟩
                            go_simp
                            with_reducible rfl
                          rotate_left
                          · simp only [Act.put, List.setIfInBounds_toArray, List.set_cons_zero, List.set_cons_succ, i64_w, i32_w]
                            rfl
                          refine pure_ (i := 8) (N := some 77) (v := ?_) (a' := ?_) #[true, true, true, true, true, true, true, true, true, false, false, false] rfl rfl (any_of HT_.out (by kernel_rfl)) (fun _ _ _ h => h) (Or.inl ⟨by rfl, ?_⟩) ?_ ?_
                          rotate_left
                          · intro w'
                            go_simp
                            with_reducible rfl
                          rotate_left
                          · simp only [Act.put, List.setIfInBounds_toArray, List.set_cons_zero, List.set_cons_succ, i64_w, i32_w]
                            rfl
                          refine take_ (i := 9) (N := some 78) (v := ?_) (a' := ?_) #[true, true, true, true, true, true, true, true, true, true, false, false] rfl rfl (take_ofW HT_.out HW_.out (by kernel_rfl)) (fun _ _ _ h => h) (Or.inl ⟨by rfl, ?_⟩) hHeld ?_ ?_
                          rotate_left
                          · rintro w' ⟨s0, s1, s2, s3, s4, s5, s6, s7, s8, s9, s10, s11, s12, s13, s14, s15, s16, s17, s18, s19⟩
                            go_simp
                            with_reducible rfl
                          rotate_left
                          · simp only [Act.put, List.setIfInBounds_toArray, List.set_cons_zero, List.set_cons_succ, i64_w, i32_w]
                            rfl
                          refine one_ (i := 10) (N := some 79) #[true, true, true, true, true, true, true, true, true, true, true, false] rfl rfl (one_of HT_.out (by kernel_rfl)) (by decide) (fun K hK => ?_)
                          refine goes_ Tryz.func15 (by kernel_rfl) rfl #[.agg #[.int .i64 ((rd_T26 l0_4 x6_3).f0), .int .i64 ((rd_T26 l0_4 x6_3).f1), .string ((rd_T26 l0_4 x6_3).f2), .slice A149_3 ((rd_T26 l0_4 x6_3).f3).length c149_3, .slice A149_4 ((rd_T26 l0_4 x6_3).f4).length c149_4], .agg #[.int .i64 ((rd_T26 l1_4 x6_3).f0), .int .i64 ((rd_T26 l1_4 x6_3).f1), .string ((rd_T26 l1_4 x6_3).f2), .slice A150_3 ((rd_T26 l1_4 x6_3).f3).length c150_3, .slice A150_4 ((rd_T26 l1_4 x6_3).f4).length c150_4]] (by rfl) rfl rfl (by (try simp only [List.map_toArray, List.map_cons, List.map_nil]); first | done | rfl | (simp only [List.length_drop, List.length_take]; rfl)) ?_
                          with_reducible refine (ih k3 (by have := HJ2.out; have := HK2.out; have := HK3.out; omega) ((rd_T26 l0_4 x6_3).f0) ((rd_T26 l0_4 x6_3).f1) ((rd_T26 l0_4 x6_3).f2) _ _ ((rd_T26 l0_4 x6_3).f3) _ _ ((rd_T26 l0_4 x6_3).f4) ((rd_T26 l1_4 x6_3).f0) ((rd_T26 l1_4 x6_3).f1) ((rd_T26 l1_4 x6_3).f2) _ _ ((rd_T26 l1_4 x6_3).f3) _ _ ((rd_T26 l1_4 x6_3).f4) false _ ?side1 ?side2 ?side3 ?side4 ?side5 ?side6 ?side7 ?side8 A41.out).mono ?_
                          (case side1 => repeat (first | exact (Kd.C_below HR149_3.out HB.out) | (with_reducible refine Kd.C_alloc ?_ _) | (with_reducible refine Kd.C_drewN ?_ _) | (with_reducible refine Kd.C_drew ?_)))
                          (case side2 => exact HC149_3.out)
                          (case side3 => repeat (first | exact (Kd.C_below HR149_4.out HB.out) | (with_reducible refine Kd.C_alloc ?_ _) | (with_reducible refine Kd.C_drewN ?_ _) | (with_reducible refine Kd.C_drew ?_)))
                          (case side4 => exact HC149_4.out)
                          (case side5 => repeat (first | exact (Kd.C_below HR150_3.out HB.out) | (with_reducible refine Kd.C_alloc ?_ _) | (with_reducible refine Kd.C_drewN ?_ _) | (with_reducible refine Kd.C_drew ?_)))
                          (case side6 => exact HC150_3.out)
                          (case side7 => repeat (first | exact (Kd.C_below HR150_4.out HB.out) | (with_reducible refine Kd.C_alloc ?_ _) | (with_reducible refine Kd.C_drewN ?_ _) | (with_reducible refine Kd.C_drew ?_)))
                          (case side8 => exact HC150_4.out)
                          rintro e w50 ⟨rfl, hb⟩
                          refine ⟨_, rfl, ?_⟩
                          have n0_ := Aside0.mk (blk_below (g := gb145) (o := .cells #[.int .i64 a0_0, .int .i64 a0_1, .string a0_2, .slice A0_3 l0_3.length c0_3, .slice (some ad149) l0_4.length c0_4] 26 (0, 0)) (by (with_reducible repeat (first | refine blk_drewN ?_ _ | refine blk_drew ?_ | refine blk_alloc ?_ _)); exact BK145.out) hb)
                          have n1_ := Aside0.mk (blk_below (g := gb146) (o := .cells #[.int .i64 a1_0, .int .i64 a1_1, .string a1_2, .slice A1_3 l1_3.length c1_3, .slice (some ad150) l1_4.length c1_4] 26 (0, 0)) (by (with_reducible repeat (first | refine blk_drewN ?_ _ | refine blk_drew ?_ | refine blk_alloc ?_ _)); exact BK146.out) hb)
                          have n2_ := Aside0.mk (below_step (by repeat (first | (with_reducible first | exact HB.out | apply below_alloc | apply pw_below_drewN | apply below_drew1 | refine below_set ?_ GE145.out | refine below_set ?_ GE146.out) | exact HB.out)) hb)
                          clear BK145
                          clear BK146
                          clear HB
                          have BK145 := n0_
                          have BK146 := n1_
                          have HB := n2_
                          clear n0_ n1_ n2_
                          (try clear hb)
                          (try clear hb2)
                          (try clear hk)
                          (try clear hi)
                          refine hK.out _ _ ⟨(blk_cell BK145.out 0).trans rfl, (blk_cell BK145.out 1).trans rfl, (blk_cell BK145.out 2).trans rfl, (blk_cell BK145.out 3).trans rfl, (blk_cell BK145.out 4).trans rfl, (blk_cell BK146.out 0).trans rfl, (blk_cell BK146.out 1).trans rfl, (blk_cell BK146.out 2).trans rfl, (blk_cell BK146.out 3).trans rfl, (blk_cell BK146.out 4).trans rfl, ((HB.out.cell (World.block_lt_of_cell? w _ hw149_0)).trans hw149_0), ((HB.out.cell (World.block_lt_of_cell? w _ hw149_1)).trans hw149_1), ((HB.out.cell (World.block_lt_of_cell? w _ hw149_2)).trans hw149_2), ((HB.out.cell (World.block_lt_of_cell? w _ hw149_3)).trans hw149_3), ((HB.out.cell (World.block_lt_of_cell? w _ hw149_4)).trans hw149_4), ((HB.out.cell (World.block_lt_of_cell? w _ hw150_0)).trans hw150_0), ((HB.out.cell (World.block_lt_of_cell? w _ hw150_1)).trans hw150_1), ((HB.out.cell (World.block_lt_of_cell? w _ hw150_2)).trans hw150_2), ((HB.out.cell (World.block_lt_of_cell? w _ hw150_3)).trans hw150_3), ((HB.out.cell (World.block_lt_of_cell? w _ hw150_4)).trans hw150_4)⟩ (fun hHeld => ?_)
                          clear hK K
                          refine norm_ (a' := ?_) ?_ ?_
                          rotate_left
                          · show Act.put _ (some 79) _ = _
                            simp only [Act.put, List.setIfInBounds_toArray, List.set_cons_zero, List.set_cons_succ, i64_w, i32_w]
                            rfl
                          refine pure_ (i := 11) (N := some 80) (v := ?_) (a' := ?_) #[true, true, true, true, true, true, true, true, true, true, true, true] rfl rfl (any_of HT_.out (by kernel_rfl)) (fun _ _ _ h => h) (Or.inl ⟨by rfl, ?_⟩) ?_ ?_
                          rotate_left
                          · intro w'
                            go_simp
                            with_reducible rfl
                          rotate_left
                          · simp only [Act.put, List.setIfInBounds_toArray, List.set_cons_zero, List.set_cons_succ, i64_w, i32_w]
                            rfl
                          refine done_ (done_of HT_.out (by kernel_rfl)) ?_
                          try go_wp2
                          go_ret
                          exact ⟨by first | rfl | (simp [errW_none, errW_some] <;> rfl) | (simp [*, errW_none, errW_some] <;> rfl), by repeat (first | (with_reducible first | exact HB.out | apply below_alloc | apply pw_below_drewN | apply below_drew1 | refine below_set ?_ GE145.out | refine below_set ?_ GE146.out) | exact HB.out)⟩
                      · rw [if_neg c40] at H
                        exact absurd H (by simp)
                    · rw [if_neg c39] at H
                      exact absurd H (by simp)
                  · rw [if_neg c38] at H
                    have c38b0 : decide (x6_3 < (l0_4.length : Int)) = false := decide_eq_false c38
                    clear c38
                    obtain rfl := Option.some.inj H
                    have hnb51 := NB145_146.out
                    have hnc51 := NB146_145.out
                    have hcz52_0 : wr.cell? ⟨gb145, 0, none⟩ = some (.int .i64 a0_0) := (blk_cell BK145.out 0).trans rfl
                    have hcz52_1 : wr.cell? ⟨gb145, 1, none⟩ = some (.int .i64 a0_1) := (blk_cell BK145.out 1).trans rfl
                    have hcz52_2 : wr.cell? ⟨gb145, 2, none⟩ = some (.string a0_2) := (blk_cell BK145.out 2).trans rfl
                    have hcz52_3 : wr.cell? ⟨gb145, 3, none⟩ = some (.slice A0_3 l0_3.length c0_3) := (blk_cell BK145.out 3).trans rfl
                    have hcz52_4 : wr.cell? ⟨gb145, 4, none⟩ = some (.slice A0_4 l0_4.length c0_4) := (blk_cell BK145.out 4).trans rfl
                    have hfz52_0 := blk_frozen BK145.out 0
                    have hfz52_1 := blk_frozen BK145.out 1
                    have hfz52_2 := blk_frozen BK145.out 2
                    have hfz52_3 := blk_frozen BK145.out 3
                    have hfz52_4 := blk_frozen BK145.out 4
                    go_wp2
                    go_ret
                    exact ⟨by first | rfl | (simp [errW_none, errW_some] <;> rfl) | (simp [*, errW_none, errW_some] <;> rfl), by repeat (first | (with_reducible first | exact HB.out | apply below_alloc | apply pw_below_drewN | apply below_drew1 | refine below_set ?_ GE145.out | refine below_set ?_ GE146.out) | exact HB.out)⟩

end Go.Proofs.YtiamiagjkfioiaaGreatDoor.PT
