/- Joined texts. -/
import Derived.Test.YtiamiagjkfioiaaGreatDoorPTx0
-- Written by a program over the translation (xprint.py). Lean checks it.
namespace Go.Proofs.YtiamiagjkfioiaaGreatDoor.PT
open Go.RowKit Go.Proofs.YtiamiagjkfioiaaGreatDoorW.PrintWords Go.Proofs.YtiamiagjkfioiaaGreatDoorW.PrintLast Go.Proofs.YtiamiagjkfioiaaGreatDoorW.PrintMore
attribute [local go_sem] max2_int min2_int max_two min_two max_three min_three max_four min_four   -- for this text's walks alone
set_option linter.unusedVariables false
set_option linter.unusedSimpArgs false

/-! ### laws_to: function 14 -/
mutual
def laws_to.l0 : Nat → Int → Int → Int → ByteArray → List ByteArray → List (S26) → Int → Int → ByteArray → List ByteArray → List (S34) → Option (Int × Int × ByteArray × List ByteArray × (List (S34)))
  | 0, _, _, _, _, _, _, _, _, _, _, _ => none
  | k + 1, x4, x102000, x102001, x102002, x102003, x102004, x110000, x110001, x110002, x110003, x110004 => if x4 < (x102004.length : Int) then (if 0 ≤ x4 then ((laws_to.f k ((rd_T26 x102004 x4).f0) ((rd_T26 x102004 x4).f1) ((rd_T26 x102004 x4).f2) ((rd_T26 x102004 x4).f3) ((rd_T26 x102004 x4).f4)).bind fun bt111 => (if x110004.length < 1759218604441 then (laws_to.l0 k (wrap64 (x4 + 1)) x102000 x102001 x102002 x102003 x102004 x110000 x110001 x110002 x110003 (x110004 ++ [(⟨bt111.1, bt111.2.1, bt111.2.2.1, bt111.2.2.2.1, bt111.2.2.2.2⟩ : S34)])) else (none))) else (none)) else (some (x110000, x110001, x110002, x110003, x110004))
def laws_to.f : Nat → Int → Int → ByteArray → List ByteArray → List (S26) → Option (Int × Int × ByteArray × List ByteArray × (List (S34)))
  | 0, _, _, _, _, _ => none
  | k + 1, a0_0, a0_1, a0_2, l0_3, l0_4 => (some (([] : List ByteArray) : List ByteArray)).bind fun y103 => (if y103.length + l0_3.length < 8796093022208 then (laws_to.l0 k 0 a0_0 a0_1 a0_2 l0_3 l0_4 a0_0 a0_1 a0_2 (y103 ++ l0_3) ([] : List (S34))) else (none))
end
theorem laws_to.mono_l : ∀ k, (∀ y0 y1 y2 y3 y4, LeO (laws_to.f k y0 y1 y2 y3 y4) (laws_to.f (k + 1) y0 y1 y2 y3 y4)) ∧ (∀ y0 y1 y2 y3 y4 y5 y6 y7 y8 y9 y10, LeO (laws_to.l0 k y0 y1 y2 y3 y4 y5 y6 y7 y8 y9 y10) (laws_to.l0 (k + 1) y0 y1 y2 y3 y4 y5 y6 y7 y8 y9 y10))
  | 0 => ⟨fun _ _ _ _ _ r h => by simp [laws_to.f] at h, fun _ _ _ _ _ _ _ _ _ _ _ r h => by simp [laws_to.l0] at h⟩
  | k + 1 => by
    obtain ⟨ih0, ih1⟩ := laws_to.mono_l k
    refine ⟨?_, ?_⟩
    · intro y0 y1 y2 y3 y4
      unfold laws_to.f
      repeat' first
      | (with_reducible exact ih0 _ _ _ _ _)
      | (with_reducible exact ih1 _ _ _ _ _ _ _ _ _ _ _)
      | (with_reducible exact LeO.refl _)
      | (with_reducible exact LeO.none _)
      | (with_reducible refine LeO.ite ?_ ?_)
      | (with_reducible refine LeO.bind ?_ (fun _ => ?_))
      | exact ih0 _ _ _ _ _
      | exact ih1 _ _ _ _ _ _ _ _ _ _ _
      | exact LeO.none _
      | refine LeO.ite ?_ ?_
      | refine LeO.bind ?_ (fun _ => ?_)
    · intro y0 y1 y2 y3 y4 y5 y6 y7 y8 y9 y10
      unfold laws_to.l0
      repeat' first
      | (with_reducible exact ih0 _ _ _ _ _)
      | (with_reducible exact ih1 _ _ _ _ _ _ _ _ _ _ _)
      | (with_reducible exact LeO.refl _)
      | (with_reducible exact LeO.none _)
      | (with_reducible refine LeO.ite ?_ ?_)
      | (with_reducible refine LeO.bind ?_ (fun _ => ?_))
      | exact ih0 _ _ _ _ _
      | exact ih1 _ _ _ _ _ _ _ _ _ _ _
      | exact LeO.none _
      | refine LeO.ite ?_ ?_
      | refine LeO.bind ?_ (fun _ => ?_)
theorem laws_to.mono : ∀ a0 a1 a2 a3 a4 k, LeO (laws_to.f k a0 a1 a2 a3 a4) (laws_to.f (k + 1) a0 a1 a2 a3 a4) := by
  intro a0 a1 a2 a3 a4 k
  obtain ⟨ih0, ih1⟩ := laws_to.mono_l k
  exact ih0 a0 a1 a2 a3 a4
def laws_to.T1 : Bool × List (List Nat × List Nat) := (true, [([], []), ([0], [0]), ([], []), ([2], [2]), ([], []), ([4], [4]), ([], []), ([], []), ([7], [7]), ([6, 8], [6, 8]), ([1, 3, 5, 9], [1, 3, 5, 9]), ([], []), ([11, 10, 9, 0, 1, 2, 3, 4, 5, 6, 7, 8, 9, 10, 11], [10, 11])])
def laws_to.B1 : List Nat := [0, 1, 0, 4, 0, 16, 0, 0, 128, 448, 1023, 0, 4095]
theorem laws_to.tab1 : rtab .any (opsOf Tryz.f14 1) = laws_to.T1 := by kernel_rfl
theorem laws_to.bits1 : waitsOk laws_to.T1.2 laws_to.B1 = true := by kernel_rfl
def laws_to.T5 : Bool × List (List Nat × List Nat) := (true, [([], []), ([0], [0]), ([], []), ([2], [2]), ([], []), ([3, 4], [3, 4]), ([5], [5]), ([6], [6]), ([7], [7]), ([1, 8, 7], [1, 8]), ([0, 1, 2, 3, 4, 5, 6, 7, 8, 9], []), ([10, 9, 9, 0, 1, 2, 3, 4, 5, 6, 7, 8, 9], [9, 10])])
def laws_to.B5 : List Nat := [0, 1, 0, 4, 0, 28, 60, 124, 252, 511, 1023, 2047]
theorem laws_to.tab5 : rtab .any (opsOf Tryz.f14 5) = laws_to.T5 := by kernel_rfl
theorem laws_to.bits5 : waitsOk laws_to.T5.2 laws_to.B5 = true := by kernel_rfl
set_option maxHeartbeats 8000000 in
set_option maxRecDepth 100000 in
theorem laws_to.calls (k : Nat) : ∀ (a0_0 : Int) (a0_1 : Int) (a0_2 : ByteArray) (A0_3 : Option Addr) (c0_3 : Nat) (l0_3 : List ByteArray) (A0_4 : Option Addr) (c0_4 : Nat) (l0_4 : List (S26)) (r1 : Int) (r2 : Int) (r3 : ByteArray) (r4 : List ByteArray) (r5 : List (S34)) (w : World) (hr0_3 : Kd.C Kd.string w A0_3 l0_3.length l0_3) (hc0_3 : l0_3.length ≤ c0_3) (hr0_4 : Kd.C k26 w A0_4 l0_4.length l0_4) (hc0_4 : l0_4.length ≤ c0_4) (h : laws_to.f k a0_0 a0_1 a0_2 l0_3 l0_4 = some (r1, r2, r3, r4, r5)),
    Calls Tryz.prog 14 #[.agg #[.int .i64 a0_0, .int .i64 a0_1, .string a0_2, .slice A0_3 l0_3.length c0_3, .slice A0_4 l0_4.length c0_4]] w fun e w' => ∃ v3_ v4_ : Value, e = .returned (.agg #[.int .i64 r1, .int .i64 r2, .string r3, v3_, v4_]) ∧ Kd.R Kd.string 9 w' w.heap.size (fun _ => True) v3_ r4 ∧ Kd.R k34 34 w' w.heap.size (fun k_ => some k_ ≠ (v3_ : Value).ownBlock) v4_ r5 ∧ Below w.heap.size w w' := by
  induction k using Nat.strongRecOn with
  | _ k ih =>
  intro a0_0 a0_1 a0_2 A0_3 c0_3 l0_3 A0_4 c0_4 l0_4 r1 r2 r3 r4 r5 w hr0_3 hc0_3 hr0_4 hc0_4 h
  cases k with
  | zero => exact absurd h (by simp [laws_to.f])
  | succ k =>
  simp only [laws_to.f] at h
  have hu26 := Tryz.underlying26
  have hu34 := Tryz.underlying34
  have HR0_3 := Aside0.mk hr0_3
  have HC0_3 := Aside0.mk hc0_3
  clear hr0_3 hc0_3
  have HR0_4 := Aside0.mk hr0_4
  have HC0_4 := Aside0.mk hc0_4
  clear hr0_4 hc0_4
  have HB := Aside0.mk (Below.refl w.heap.size w)
  have H : ((some (([] : List ByteArray) : List ByteArray)).bind fun y103 => (if y103.length + l0_3.length < 8796093022208 then (laws_to.l0 k 0 a0_0 a0_1 a0_2 l0_3 l0_4 a0_0 a0_1 a0_2 (y103 ++ l0_3) ([] : List (S34))) else (none))) = some (r1, r2, r3, r4, r5) := h
  clear h
  obtain ⟨y103, hy103⟩ : ∃ y_ : List ByteArray, y_ = (([] : List ByteArray)) := ⟨_, rfl⟩
  replace H : (if y103.length + l0_3.length < 8796093022208 then (laws_to.l0 k 0 a0_0 a0_1 a0_2 l0_3 l0_4 a0_0 a0_1 a0_2 (y103 ++ l0_3) ([] : List (S34))) else (none)) = some (r1, r2, r3, r4, r5) := by first | (rw [hy103]; with_reducible exact H) | (have H2_ := (Option.bind_some _ _).symm.trans H; rw [hy103]; with_reducible exact H2_) | (have H2_ := (Option.bind_some _ _).symm.trans H; with_reducible exact H2_) | with_reducible exact H | (rw [hy103]; exact H) | exact H
  have Ny103 := Aside0.mk hy103
  clear hy103
  by_cases c2 : y103.length + l0_3.length < 8796093022208
  · rw [if_pos c2] at H
    have LMc2 := Aside0.mk c2
    clear c2
    obtain ⟨y106, hy106⟩ : ∃ y_ : List ByteArray, y_ = (y103 ++ l0_3) := ⟨_, rfl⟩
    replace H : (laws_to.l0 k 0 a0_0 a0_1 a0_2 l0_3 l0_4 a0_0 a0_1 a0_2 y106 ([] : List (S34))) = some (r1, r2, r3, r4, r5) := by first | (rw [hy106]; with_reducible exact H) | (have H2_ := (Option.bind_some _ _).symm.trans H; rw [hy106]; with_reducible exact H2_) | (have H2_ := (Option.bind_some _ _).symm.trans H; with_reducible exact H2_) | with_reducible exact H | (rw [hy106]; exact H) | exact H
    have Ny106 := Aside0.mk hy106
    clear hy106
    have H' := Aside0.mk H
    clear H
    go_enter Tryz.func14, Tryz.ntmps14
    try go_wp2_with (first | ((with_reducible refine gate_dst (N := 1) rfl ?_); refine box_event ?hg (N := 1) ?hd (cs := #[.int .i64 a0_0, .int .i64 a0_1, .string a0_2, .slice A0_3 l0_3.length c0_3, .slice A0_4 l0_4.length c0_4]) (t := 26) ?hr ?_; (case hd => rfl); (case hg => rfl); (case hr => first | (go_simp; done) | (go_simp; rfl)); intro gb101 hg w3 hbox hb; have n0_ := Aside0.mk (below_step (by repeat (first | (with_reducible first | exact HB.out | apply below_alloc | apply pw_below_drewN | apply below_drew1) | exact HB.out)) hb); have n1_ := Aside0.mk (hbox); have n2_ := Aside0.mk ((by rw [hg]; exact (below_size (by repeat (first | (with_reducible first | exact HB.out | apply below_alloc | apply pw_below_drewN | apply below_drew1) | exact HB.out))) : w.heap.size ≤ gb101)); have n3_ := Aside0.mk ((by rw [hg]; exact (below_size (by repeat (first | (with_reducible first | exact HB.out | apply below_alloc | apply pw_below_drewN | apply below_drew1) | exact HB.out))) : w.heap.size ≤ gb101)); clear HB; have HB := n0_; have BK101 := n1_; have GW101 := n2_; have GE101 := n3_; clear n0_ n1_ n2_ n3_; clear hb hbox hg) | ((with_reducible refine gate_dst (N := 2) rfl ?_); refine box_event ?hg (N := 2) ?hd (cs := #[.int .i64 0, .int .i64 0, .string (⟨#[]⟩ : ByteArray), .slice none 0 0, .slice none 0 0]) (t := 34) ?hr ?_; (case hd => rfl); (case hg => rfl); (case hr => first | (go_simp; done) | (go_simp; rfl)); intro gb102 hg w4 hbox hb; have n0_ := Aside0.mk (blk_below (g := gb101) (o := .cells #[.int .i64 a0_0, .int .i64 a0_1, .string a0_2, .slice A0_3 l0_3.length c0_3, .slice A0_4 l0_4.length c0_4] 26 (0, 0)) (by (with_reducible repeat (first | refine blk_drewN ?_ _ | refine blk_drew ?_ | refine blk_alloc ?_ _)); exact BK101.out) hb); have n1_ := Aside0.mk (below_step (by repeat (first | (with_reducible first | exact HB.out | apply below_alloc | apply pw_below_drewN | apply below_drew1 | refine below_set ?_ GE101.out) | exact HB.out)) hb); have n2_ := Aside0.mk (hbox); have n3_ := Aside0.mk ((by rw [hg]; exact (below_size (by repeat (first | (with_reducible first | exact HB.out | apply below_alloc | apply pw_below_drewN | apply below_drew1 | refine below_set ?_ GE101.out) | exact HB.out))) : w.heap.size ≤ gb102)); have n4_ := Aside0.mk ((by rw [hg]; exact (below_size (by repeat (first | (with_reducible first | exact HB.out | apply below_alloc | apply pw_below_drewN | apply below_drew1 | refine below_set ?_ GE101.out) | exact HB.out))) : w.heap.size ≤ gb102)); have n5_ := Aside0.mk ((by rw [hg]; exact Nat.ne_of_lt (blk_lt (g := gb101) (o := .cells #[.int .i64 a0_0, .int .i64 a0_1, .string a0_2, .slice A0_3 l0_3.length c0_3, .slice A0_4 l0_4.length c0_4] 26 (0, 0)) (by (with_reducible repeat (first | refine blk_drewN ?_ _ | refine blk_drew ?_ | refine blk_alloc ?_ _)); exact BK101.out)) : gb101 ≠ gb102)); have n6_ := Aside0.mk ((by rw [hg]; exact Nat.ne_of_gt (blk_lt (g := gb101) (o := .cells #[.int .i64 a0_0, .int .i64 a0_1, .string a0_2, .slice A0_3 l0_3.length c0_3, .slice A0_4 l0_4.length c0_4] 26 (0, 0)) (by (with_reducible repeat (first | refine blk_drewN ?_ _ | refine blk_drew ?_ | refine blk_alloc ?_ _)); exact BK101.out)) : gb102 ≠ gb101)); clear BK101; clear HB; have BK101 := n0_; have HB := n1_; have BK102 := n2_; have GW102 := n3_; have GE102 := n4_; have NB101_102 := n5_; have NB102_101 := n6_; clear n0_ n1_ n2_ n3_ n4_ n5_ n6_; clear hb hbox hg))
    have n0_ := Aside0.mk (blk_drew BK101.out)
    have n1_ := Aside0.mk (blk_drew BK102.out)
    have n2_ := Aside0.mk (below_drew1 HB.out)
    clear BK101
    clear BK102
    clear HB
    have BK101 := n0_
    have BK102 := n1_
    have HB := n2_
    clear n0_ n1_ n2_
    refine start_ (n := 13) (S := fun w' => w'.cell? ⟨gb101, 0, none⟩ = some (.int .i64 a0_0) ∧ w'.cell? ⟨gb101, 1, none⟩ = some (.int .i64 a0_1) ∧ w'.cell? ⟨gb101, 2, none⟩ = some (.string a0_2) ∧ w'.cell? ⟨gb101, 3, none⟩ = some (.slice A0_3 l0_3.length c0_3) ∧ w'.cell? ⟨gb101, 4, none⟩ = some (.slice A0_4 l0_4.length c0_4)) (ds := []) #[false, false, false, false, false, false, false, false, false, false, false, false, false] (by kernel_rfl) rfl rfl ⟨(blk_cell BK101.out 0).trans rfl, (blk_cell BK101.out 1).trans rfl, (blk_cell BK101.out 2).trans rfl, (blk_cell BK101.out 3).trans rfl, (blk_cell BK101.out 4).trans rfl⟩ (fun hHeld => ?_); refine with_tabW laws_to.tab1 laws_to.bits1 (fun HT_ HW_ => ?_)
    generalize w4.drew = w5 at BK101 BK102 HB hHeld ⊢
    refine pure_ (i := 0) (N := some 5) (v := ?_) (a' := ?_) #[true, false, false, false, false, false, false, false, false, false, false, false, false] rfl rfl (any_of HT_.out (by kernel_rfl)) (fun _ _ _ h => h) (Or.inl ⟨by rfl, ?_⟩) ?_ ?_
    rotate_left
    · intro w'
      go_simp
      with_reducible rfl
    rotate_left
    · simp only [Act.put, List.setIfInBounds_toArray, List.set_cons_zero, List.set_cons_succ, i64_w, i32_w]
      rfl
    refine pure_ (i := 2) (N := some 7) (v := ?_) (a' := ?_) #[true, false, true, false, false, false, false, false, false, false, false, false, false] rfl rfl (any_of HT_.out (by kernel_rfl)) (fun _ _ _ h => h) (Or.inl ⟨by rfl, ?_⟩) ?_ ?_
    rotate_left
    · intro w'
      go_simp
      with_reducible rfl
    rotate_left
    · simp only [Act.put, List.setIfInBounds_toArray, List.set_cons_zero, List.set_cons_succ, i64_w, i32_w]
      rfl
    refine pure_ (i := 4) (N := some 9) (v := ?_) (a' := ?_) #[true, false, true, false, true, false, false, false, false, false, false, false, false] rfl rfl (any_of HT_.out (by kernel_rfl)) (fun _ _ _ h => h) (Or.inl ⟨by rfl, ?_⟩) ?_ ?_
    rotate_left
    · intro w'
      go_simp
      with_reducible rfl
    rotate_left
    · simp only [Act.put, List.setIfInBounds_toArray, List.set_cons_zero, List.set_cons_succ, i64_w, i32_w]
      rfl
    refine pure_ (i := 7) (N := some 12) (v := ?_) (a' := ?_) #[true, false, true, false, true, false, false, true, false, false, false, false, false] rfl rfl (any_of HT_.out (by kernel_rfl)) (fun _ _ _ h => h) (Or.inl ⟨by rfl, ?_⟩) ?_ ?_
    rotate_left
    · intro w'
      go_simp
      with_reducible rfl
    rotate_left
    · simp only [Act.put, List.setIfInBounds_toArray, List.set_cons_zero, List.set_cons_succ, i64_w, i32_w]
      rfl
    refine take_ (i := 1) (N := some 6) (v := ?_) (a' := ?_) #[true, true, true, false, true, false, false, true, false, false, false, false, false] rfl rfl (take_ofW HT_.out HW_.out (by kernel_rfl)) (fun _ _ _ h => h) (Or.inl ⟨by rfl, ?_⟩) hHeld ?_ ?_
    rotate_left
    · rintro w' ⟨s0, s1, s2, s3, s4⟩
      go_simp
      with_reducible rfl
    rotate_left
    · simp only [Act.put, List.setIfInBounds_toArray, List.set_cons_zero, List.set_cons_succ, i64_w, i32_w]
      rfl
    refine take_ (i := 3) (N := some 8) (v := ?_) (a' := ?_) #[true, true, true, true, true, false, false, true, false, false, false, false, false] rfl rfl (take_ofW HT_.out HW_.out (by kernel_rfl)) (fun _ _ _ h => h) (Or.inl ⟨by rfl, ?_⟩) hHeld ?_ ?_
    rotate_left
    · rintro w' ⟨s0, s1, s2, s3, s4⟩
      go_simp
      with_reducible rfl
    rotate_left
    · simp only [Act.put, List.setIfInBounds_toArray, List.set_cons_zero, List.set_cons_succ, i64_w, i32_w]
      rfl
    refine take_ (i := 5) (N := some 10) (v := ?_) (a' := ?_) #[true, true, true, true, true, true, false, true, false, false, false, false, false] rfl rfl (take_ofW HT_.out HW_.out (by kernel_rfl)) (fun _ _ _ h => h) (Or.inl ⟨by rfl, ?_⟩) hHeld ?_ ?_
    rotate_left
    · rintro w' ⟨s0, s1, s2, s3, s4⟩
      go_simp
      with_reducible rfl
    rotate_left
    · simp only [Act.put, List.setIfInBounds_toArray, List.set_cons_zero, List.set_cons_succ, i64_w, i32_w]
      rfl
    refine take_ (i := 8) (N := some 13) (v := ?_) (a' := ?_) #[true, true, true, true, true, true, false, true, true, false, false, false, false] rfl rfl (take_ofW HT_.out HW_.out (by kernel_rfl)) (fun _ _ _ h => h) (Or.inl ⟨by rfl, ?_⟩) hHeld ?_ ?_
    rotate_left
    · rintro w' ⟨s0, s1, s2, s3, s4⟩
      go_simp
      with_reducible rfl
    rotate_left
    · simp only [Act.put, List.setIfInBounds_toArray, List.set_cons_zero, List.set_cons_succ, i64_w, i32_w]
      rfl
    refine join_ (σ := Value × Value × Nat) 1 #[true, true, true, true, true, true, true, true, true, true, true, true, false] (fun s_ => [(11, s_.1), (14, s_.2.1), (3, .pointer (some ⟨s_.2.2, 0, none⟩)), (15, .agg #[.int .i64 a0_0, .int .i64 a0_1, .string a0_2, s_.2.1, .slice none 0 0])]) (fun s_ w' => (w'.cell? ⟨gb101, 0, none⟩ = some (.int .i64 a0_0) ∧ w'.cell? ⟨gb101, 1, none⟩ = some (.int .i64 a0_1) ∧ w'.cell? ⟨gb101, 2, none⟩ = some (.string a0_2) ∧ w'.cell? ⟨gb101, 3, none⟩ = some (.slice A0_3 l0_3.length c0_3) ∧ w'.cell? ⟨gb101, 4, none⟩ = some (.slice A0_4 l0_4.length c0_4)) ∧ (Kd.R Kd.string 9 w' w.heap.size (fun _ => True) s_.2.1 y106) ∧ (w'.heap[gb101]? = some (.cells #[.int .i64 a0_0, .int .i64 a0_1, .string a0_2, .slice A0_3 l0_3.length c0_3, .slice A0_4 l0_4.length c0_4] 26 (0, 0))) ∧ (w'.heap[gb102]? = some (.cells #[.int .i64 0, .int .i64 0, .string (⟨#[]⟩ : ByteArray), .slice none 0 0, .slice none 0 0] 34 (0, 0))) ∧ (w'.heap[s_.2.2]? = some (.cells #[.int .i64 0, .int .i64 0, .string (⟨#[]⟩ : ByteArray), .slice none 0 0, .slice none 0 0] 34 (0, 0))) ∧ (w.heap.size ≤ s_.2.2) ∧ (w.heap.size ≤ s_.2.2) ∧ (gb101 ≠ s_.2.2) ∧ (s_.2.2 ≠ gb101) ∧ (gb102 ≠ s_.2.2) ∧ (s_.2.2 ≠ gb102) ∧ (Below w.heap.size w w')) ?_ ?_
    rotate_left
    · intro hCont
      refine two_ (i := 6) (j := 11) (Ni := some 11) (Nj := some 3) #[true, true, true, true, true, true, true, true, true, false, false, false, false] #[true, true, true, true, true, true, false, true, true, false, false, true, false] rfl rfl rfl rfl (two_of HT_.out (by kernel_rfl)) (by decide) (by decide) (fun K hK => ?_) (fun K hK => ?_)
      · skip
        refine Kd.R_lit_step Kd.string _ 9 ?hg (N := 11) ?hd (xs := ([] : List ByteArray)) (inner := []) (ok := fun _ => True) (okp := fun _ => True) ?hr ?hp (fun _ hk => hk) trivial (Below.refl _ _) (Nat.le_refl _) (by simp) ?_; (case hd => rfl); (case hg => rfl); (case hr => first | (go_simp; done) | (go_simp; rfl)); (case hp => exact (Reps.none _ _))
        intro v104 w6 ho7 hb hg_ hnew_
        clear hg_ hnew_
        (first | rw [← Ny103.out] at ho7 | (simp only [Int.reduceToNat] at ho7; rw [← Ny103.out] at ho7))
        have n0_ := Aside0.mk (Kd.R_lower ho7 (below_size (by repeat (first | (with_reducible first | exact HB.out | apply below_alloc | apply pw_below_drewN | apply below_drew1 | refine below_set ?_ GE101.out | refine below_set ?_ GE102.out) | exact HB.out))))
        have n1_ := Aside0.mk (blk_below (g := gb101) (o := .cells #[.int .i64 a0_0, .int .i64 a0_1, .string a0_2, .slice A0_3 l0_3.length c0_3, .slice A0_4 l0_4.length c0_4] 26 (0, 0)) (by (with_reducible repeat (first | refine blk_drewN ?_ _ | refine blk_drew ?_ | refine blk_alloc ?_ _)); exact BK101.out) hb)
        have n2_ := Aside0.mk (blk_below (g := gb102) (o := .cells #[.int .i64 0, .int .i64 0, .string (⟨#[]⟩ : ByteArray), .slice none 0 0, .slice none 0 0] 34 (0, 0)) (by (with_reducible repeat (first | refine blk_drewN ?_ _ | refine blk_drew ?_ | refine blk_alloc ?_ _)); exact BK102.out) hb)
        have n3_ := Aside0.mk (below_step (by repeat (first | (with_reducible first | exact HB.out | apply below_alloc | apply pw_below_drewN | apply below_drew1 | refine below_set ?_ GE101.out | refine below_set ?_ GE102.out) | exact HB.out)) hb)
        clear BK101
        clear BK102
        clear HB
        have HO105 := n0_
        have BK101 := n1_
        have BK102 := n2_
        have HB := n3_
        clear n0_ n1_ n2_ n3_
        clear hb ho7
        refine hK.out _ _ ⟨(blk_cell BK101.out 0).trans rfl, (blk_cell BK101.out 1).trans rfl, (blk_cell BK101.out 2).trans rfl, (blk_cell BK101.out 3).trans rfl, (blk_cell BK101.out 4).trans rfl⟩ (fun hHeld => ?_)
        clear hK K
        refine norm_ (a' := ?_) ?_ ?_
        rotate_left
        · show Act.put _ (some 11) _ = _
          simp only [Act.put, List.setIfInBounds_toArray, List.set_cons_zero, List.set_cons_succ, i64_w, i32_w]
          rfl
        refine two_ (i := 9) (j := 11) (Ni := some 14) (Nj := some 3) #[true, true, true, true, true, true, true, true, true, true, false, false, false] #[true, true, true, true, true, true, true, true, true, false, false, true, false] rfl rfl rfl rfl (two_of HT_.out (by kernel_rfl)) (by decide) (by decide) (fun K hK => ?_) (fun K hK => ?_)
        · skip
          refine Kd.R_append_rows_step Kd.string (w0 := w) w.heap.size (by rfl) (.tmp 11) (.tmp 13) 22 9 (.string ⟨#[]⟩) 16 rfl Tryz.underlying22 info9 rfl (by decide) (by omega) v104 y103 l0_3 _ _ _ (fun _ => True) (fun _ => False) rfl rfl ?aO ?aR (fun _ _ h => h) (fun _ h => h.elim) ?aF ?aB ?aS ?aL ?_
          (case aR => repeat (first | exact (Kd.C_below HR0_3.out HB.out) | (with_reducible refine Kd.C_alloc ?_ _) | (with_reducible refine Kd.C_drewN ?_ _) | (with_reducible refine Kd.C_drew ?_)))
          (case aB => exact (by repeat (first | (with_reducible first | exact HB.out | apply below_alloc | apply pw_below_drewN | apply below_drew1 | refine below_set ?_ GE101.out | refine below_set ?_ GE102.out) | exact HB.out)))
          (case aF => exact (fun _ _ => trivial))
          (case aO => exact (by (with_reducible repeat (first | apply Kd.R_alloc | apply Kd.R_drewN | apply Kd.R_drew)); exact HO105.out))
          (case aS => exact (below_size (by repeat (first | (with_reducible first | exact HB.out | apply below_alloc | apply pw_below_drewN | apply below_drew1 | refine below_set ?_ GE101.out | refine below_set ?_ GE102.out) | exact HB.out))))
          (case aL => have := LMc2.out; omega)
          intro v107 w8 ho hb hg hat
          rw [← Ny106.out] at ho
          have n0_ := Aside0.mk (blk_grown (g := gb101) (o := .cells #[.int .i64 a0_0, .int .i64 a0_1, .string a0_2, .slice A0_3 l0_3.length c0_3, .slice A0_4 l0_4.length c0_4] 26 (0, 0)) (by (with_reducible repeat (first | refine blk_drewN ?_ _ | refine blk_drew ?_ | refine blk_alloc ?_ _)); exact BK101.out) hg (Kd.R_ne HO105.out BK101.out (by decide)))
          have n1_ := Aside0.mk (blk_grown (g := gb102) (o := .cells #[.int .i64 0, .int .i64 0, .string (⟨#[]⟩ : ByteArray), .slice none 0 0, .slice none 0 0] 34 (0, 0)) (by (with_reducible repeat (first | refine blk_drewN ?_ _ | refine blk_drew ?_ | refine blk_alloc ?_ _)); exact BK102.out) hg (Kd.R_ne HO105.out BK102.out (by decide)))
          have n2_ := Aside0.mk (hb)
          have n3_ := Aside0.mk (ho)
          clear BK101
          clear BK102
          clear HB
          clear HO105
          have BK101 := n0_
          have BK102 := n1_
          have HB := n2_
          have HO108 := n3_
          clear n0_ n1_ n2_ n3_
          clear ho hb hg hat
          obtain ⟨Ao9, co9, eo9⟩ := Kd.R_slice HO108.out
          (first | subst eo9 | (injection eo9 with f1_ f2_ f3_; have f4_ := f1_.symm; have f5_ := f3_.symm; clear f1_ f2_ f3_; subst f4_; subst f5_))
          refine hK.out _ _ ⟨(blk_cell BK101.out 0).trans rfl, (blk_cell BK101.out 1).trans rfl, (blk_cell BK101.out 2).trans rfl, (blk_cell BK101.out 3).trans rfl, (blk_cell BK101.out 4).trans rfl⟩ (fun hHeld => ?_)
          clear hK K
          refine norm_ (a' := ?_) ?_ ?_
          rotate_left
          · show Act.put _ (some 14) _ = _
            simp only [Act.put, List.setIfInBounds_toArray, List.set_cons_zero, List.set_cons_succ, i64_w, i32_w]
            rfl
          refine pure_ (i := 10) (N := some 15) (v := ?_) (a' := ?_) #[true, true, true, true, true, true, true, true, true, true, true, false, false] rfl rfl (any_of HT_.out (by kernel_rfl)) (fun _ _ _ h => h) (Or.inl ⟨by rfl, ?_⟩) ?_ ?_
          rotate_left
          · intro w'
            go_simp
            with_reducible rfl
          rotate_left
          · simp only [Act.put, List.setIfInBounds_toArray, List.set_cons_zero, List.set_cons_succ, i64_w, i32_w]
            rfl
          refine one_ (i := 11) (N := some 3) #[true, true, true, true, true, true, true, true, true, true, true, true, false] rfl rfl (one_of HT_.out (by kernel_rfl)) (by decide) (fun K hK => ?_)
          refine box_step ?hg (N := 3) ?hd (cs := #[.int .i64 0, .int .i64 0, .string (⟨#[]⟩ : ByteArray), .slice none 0 0, .slice none 0 0]) (t := 34) ?hr ?_; (case hd => rfl); (case hg => rfl); (case hr => first | (go_simp; done) | (go_simp; rfl))
          intro gb109 hg w10 hbox hb
          have n0_ := Aside0.mk (Kd.R_below (by (with_reducible repeat (first | apply Kd.R_alloc | apply Kd.R_drewN | apply Kd.R_drew)); exact HO108.out) hb)
          have n1_ := Aside0.mk (blk_below (g := gb101) (o := .cells #[.int .i64 a0_0, .int .i64 a0_1, .string a0_2, .slice A0_3 l0_3.length c0_3, .slice A0_4 l0_4.length c0_4] 26 (0, 0)) (by (with_reducible repeat (first | refine blk_drewN ?_ _ | refine blk_drew ?_ | refine blk_alloc ?_ _)); exact BK101.out) hb)
          have n2_ := Aside0.mk (blk_below (g := gb102) (o := .cells #[.int .i64 0, .int .i64 0, .string (⟨#[]⟩ : ByteArray), .slice none 0 0, .slice none 0 0] 34 (0, 0)) (by (with_reducible repeat (first | refine blk_drewN ?_ _ | refine blk_drew ?_ | refine blk_alloc ?_ _)); exact BK102.out) hb)
          have n3_ := Aside0.mk (below_step (by repeat (first | (with_reducible first | exact HB.out | apply below_alloc | apply pw_below_drewN | apply below_drew1 | refine below_set ?_ GE101.out | refine below_set ?_ GE102.out) | exact HB.out)) hb)
          have n4_ := Aside0.mk (hbox)
          have n5_ := Aside0.mk ((by rw [hg]; exact (below_size (by repeat (first | (with_reducible first | exact HB.out | apply below_alloc | apply pw_below_drewN | apply below_drew1 | refine below_set ?_ GE101.out | refine below_set ?_ GE102.out) | exact HB.out))) : w.heap.size ≤ gb109))
          have n6_ := Aside0.mk ((by rw [hg]; exact (below_size (by repeat (first | (with_reducible first | exact HB.out | apply below_alloc | apply pw_below_drewN | apply below_drew1 | refine below_set ?_ GE101.out | refine below_set ?_ GE102.out) | exact HB.out))) : w.heap.size ≤ gb109))
          have n7_ := Aside0.mk ((by rw [hg]; exact Nat.ne_of_lt (blk_lt (g := gb101) (o := .cells #[.int .i64 a0_0, .int .i64 a0_1, .string a0_2, .slice A0_3 l0_3.length c0_3, .slice A0_4 l0_4.length c0_4] 26 (0, 0)) (by (with_reducible repeat (first | refine blk_drewN ?_ _ | refine blk_drew ?_ | refine blk_alloc ?_ _)); exact BK101.out)) : gb101 ≠ gb109))
          have n8_ := Aside0.mk ((by rw [hg]; exact Nat.ne_of_gt (blk_lt (g := gb101) (o := .cells #[.int .i64 a0_0, .int .i64 a0_1, .string a0_2, .slice A0_3 l0_3.length c0_3, .slice A0_4 l0_4.length c0_4] 26 (0, 0)) (by (with_reducible repeat (first | refine blk_drewN ?_ _ | refine blk_drew ?_ | refine blk_alloc ?_ _)); exact BK101.out)) : gb109 ≠ gb101))
          have n9_ := Aside0.mk ((by rw [hg]; exact Nat.ne_of_lt (blk_lt (g := gb102) (o := .cells #[.int .i64 0, .int .i64 0, .string (⟨#[]⟩ : ByteArray), .slice none 0 0, .slice none 0 0] 34 (0, 0)) (by (with_reducible repeat (first | refine blk_drewN ?_ _ | refine blk_drew ?_ | refine blk_alloc ?_ _)); exact BK102.out)) : gb102 ≠ gb109))
          have n10_ := Aside0.mk ((by rw [hg]; exact Nat.ne_of_gt (blk_lt (g := gb102) (o := .cells #[.int .i64 0, .int .i64 0, .string (⟨#[]⟩ : ByteArray), .slice none 0 0, .slice none 0 0] 34 (0, 0)) (by (with_reducible repeat (first | refine blk_drewN ?_ _ | refine blk_drew ?_ | refine blk_alloc ?_ _)); exact BK102.out)) : gb109 ≠ gb102))
          clear HO108
          clear BK101
          clear BK102
          clear HB
          have HO108 := n0_
          have BK101 := n1_
          have BK102 := n2_
          have HB := n3_
          have BK109 := n4_
          have GW109 := n5_
          have GE109 := n6_
          have NB101_109 := n7_
          have NB109_101 := n8_
          have NB102_109 := n9_
          have NB109_102 := n10_
          clear n0_ n1_ n2_ n3_ n4_ n5_ n6_ n7_ n8_ n9_ n10_
          clear hb hbox hg
          refine hK.out _ _ ⟨(blk_cell BK101.out 0).trans rfl, (blk_cell BK101.out 1).trans rfl, (blk_cell BK101.out 2).trans rfl, (blk_cell BK101.out 3).trans rfl, (blk_cell BK101.out 4).trans rfl⟩ (fun hHeld => ?_)
          clear hK K
          refine norm_ (a' := ?_) ?_ ?_
          rotate_left
          · show Act.put _ (some 3) _ = _
            simp only [Act.put, List.setIfInBounds_toArray, List.set_cons_zero, List.set_cons_succ, i64_w, i32_w]
            rfl
          exact norm_ (by simp only [putAll, Act.put, List.setIfInBounds_toArray, List.set_cons_zero, List.set_cons_succ]) (hCont (v104, .slice Ao9 y106.length co9, gb109) _ ⟨hHeld, (by (with_reducible repeat (first | apply Kd.R_alloc | apply Kd.R_drewN | apply Kd.R_drew)); exact HO108.out), (by (with_reducible repeat (first | refine blk_drewN ?_ _ | refine blk_drew ?_ | refine blk_alloc ?_ _)); exact BK101.out), (by (with_reducible repeat (first | refine blk_drewN ?_ _ | refine blk_drew ?_ | refine blk_alloc ?_ _)); exact BK102.out), (by (with_reducible repeat (first | refine blk_drewN ?_ _ | refine blk_drew ?_ | refine blk_alloc ?_ _)); exact BK109.out), GW109.out, GE109.out, NB101_109.out, NB109_101.out, NB102_109.out, NB109_102.out, (by repeat (first | (with_reducible first | exact HB.out | apply below_alloc | apply pw_below_drewN | apply below_drew1 | refine below_set ?_ GE101.out | refine below_set ?_ GE102.out | refine below_set ?_ GE109.out) | exact HB.out))⟩)
        · skip
          refine box_step ?hg (N := 3) ?hd (cs := #[.int .i64 0, .int .i64 0, .string (⟨#[]⟩ : ByteArray), .slice none 0 0, .slice none 0 0]) (t := 34) ?hr ?_; (case hd => rfl); (case hg => rfl); (case hr => first | (go_simp; done) | (go_simp; rfl))
          intro gb109 hg w8 hbox hb
          have n0_ := Aside0.mk (Kd.R_below (by (with_reducible repeat (first | apply Kd.R_alloc | apply Kd.R_drewN | apply Kd.R_drew)); exact HO105.out) hb)
          have n1_ := Aside0.mk (blk_below (g := gb101) (o := .cells #[.int .i64 a0_0, .int .i64 a0_1, .string a0_2, .slice A0_3 l0_3.length c0_3, .slice A0_4 l0_4.length c0_4] 26 (0, 0)) (by (with_reducible repeat (first | refine blk_drewN ?_ _ | refine blk_drew ?_ | refine blk_alloc ?_ _)); exact BK101.out) hb)
          have n2_ := Aside0.mk (blk_below (g := gb102) (o := .cells #[.int .i64 0, .int .i64 0, .string (⟨#[]⟩ : ByteArray), .slice none 0 0, .slice none 0 0] 34 (0, 0)) (by (with_reducible repeat (first | refine blk_drewN ?_ _ | refine blk_drew ?_ | refine blk_alloc ?_ _)); exact BK102.out) hb)
          have n3_ := Aside0.mk (below_step (by repeat (first | (with_reducible first | exact HB.out | apply below_alloc | apply pw_below_drewN | apply below_drew1 | refine below_set ?_ GE101.out | refine below_set ?_ GE102.out) | exact HB.out)) hb)
          have n4_ := Aside0.mk (hbox)
          have n5_ := Aside0.mk ((by rw [hg]; exact (below_size (by repeat (first | (with_reducible first | exact HB.out | apply below_alloc | apply pw_below_drewN | apply below_drew1 | refine below_set ?_ GE101.out | refine below_set ?_ GE102.out) | exact HB.out))) : w.heap.size ≤ gb109))
          have n6_ := Aside0.mk ((by rw [hg]; exact (below_size (by repeat (first | (with_reducible first | exact HB.out | apply below_alloc | apply pw_below_drewN | apply below_drew1 | refine below_set ?_ GE101.out | refine below_set ?_ GE102.out) | exact HB.out))) : w.heap.size ≤ gb109))
          have n7_ := Aside0.mk ((by rw [hg]; exact Nat.ne_of_lt (blk_lt (g := gb101) (o := .cells #[.int .i64 a0_0, .int .i64 a0_1, .string a0_2, .slice A0_3 l0_3.length c0_3, .slice A0_4 l0_4.length c0_4] 26 (0, 0)) (by (with_reducible repeat (first | refine blk_drewN ?_ _ | refine blk_drew ?_ | refine blk_alloc ?_ _)); exact BK101.out)) : gb101 ≠ gb109))
          have n8_ := Aside0.mk ((by rw [hg]; exact Nat.ne_of_gt (blk_lt (g := gb101) (o := .cells #[.int .i64 a0_0, .int .i64 a0_1, .string a0_2, .slice A0_3 l0_3.length c0_3, .slice A0_4 l0_4.length c0_4] 26 (0, 0)) (by (with_reducible repeat (first | refine blk_drewN ?_ _ | refine blk_drew ?_ | refine blk_alloc ?_ _)); exact BK101.out)) : gb109 ≠ gb101))
          have n9_ := Aside0.mk ((by rw [hg]; exact Nat.ne_of_lt (blk_lt (g := gb102) (o := .cells #[.int .i64 0, .int .i64 0, .string (⟨#[]⟩ : ByteArray), .slice none 0 0, .slice none 0 0] 34 (0, 0)) (by (with_reducible repeat (first | refine blk_drewN ?_ _ | refine blk_drew ?_ | refine blk_alloc ?_ _)); exact BK102.out)) : gb102 ≠ gb109))
          have n10_ := Aside0.mk ((by rw [hg]; exact Nat.ne_of_gt (blk_lt (g := gb102) (o := .cells #[.int .i64 0, .int .i64 0, .string (⟨#[]⟩ : ByteArray), .slice none 0 0, .slice none 0 0] 34 (0, 0)) (by (with_reducible repeat (first | refine blk_drewN ?_ _ | refine blk_drew ?_ | refine blk_alloc ?_ _)); exact BK102.out)) : gb109 ≠ gb102))
          clear HO105
          clear BK101
          clear BK102
          clear HB
          have HO105 := n0_
          have BK101 := n1_
          have BK102 := n2_
          have HB := n3_
          have BK109 := n4_
          have GW109 := n5_
          have GE109 := n6_
          have NB101_109 := n7_
          have NB109_101 := n8_
          have NB102_109 := n9_
          have NB109_102 := n10_
          clear n0_ n1_ n2_ n3_ n4_ n5_ n6_ n7_ n8_ n9_ n10_
          clear hb hbox hg
          refine hK.out _ _ ⟨(blk_cell BK101.out 0).trans rfl, (blk_cell BK101.out 1).trans rfl, (blk_cell BK101.out 2).trans rfl, (blk_cell BK101.out 3).trans rfl, (blk_cell BK101.out 4).trans rfl⟩ (fun hHeld => ?_)
          clear hK K
          refine norm_ (a' := ?_) ?_ ?_
          rotate_left
          · show Act.put _ (some 3) _ = _
            simp only [Act.put, List.setIfInBounds_toArray, List.set_cons_zero, List.set_cons_succ, i64_w, i32_w]
            rfl
          refine one_ (i := 9) (N := some 14) #[true, true, true, true, true, true, true, true, true, true, false, true, false] rfl rfl (one_of HT_.out (by kernel_rfl)) (by decide) (fun K hK => ?_)
          refine Kd.R_append_rows_step Kd.string (w0 := w) w.heap.size (by rfl) (.tmp 11) (.tmp 13) 22 9 (.string ⟨#[]⟩) 16 rfl Tryz.underlying22 info9 rfl (by decide) (by omega) v104 y103 l0_3 _ _ _ (fun _ => True) (fun _ => False) rfl rfl ?aO ?aR (fun _ _ h => h) (fun _ h => h.elim) ?aF ?aB ?aS ?aL ?_
          (case aR => repeat (first | exact (Kd.C_below HR0_3.out HB.out) | (with_reducible refine Kd.C_alloc ?_ _) | (with_reducible refine Kd.C_drewN ?_ _) | (with_reducible refine Kd.C_drew ?_)))
          (case aB => exact (by repeat (first | (with_reducible first | exact HB.out | apply below_alloc | apply pw_below_drewN | apply below_drew1 | refine below_set ?_ GE101.out | refine below_set ?_ GE102.out | refine below_set ?_ GE109.out) | exact HB.out)))
          (case aF => exact (fun _ _ => trivial))
          (case aO => exact (by (with_reducible repeat (first | apply Kd.R_alloc | apply Kd.R_drewN | apply Kd.R_drew)); exact HO105.out))
          (case aS => exact (below_size (by repeat (first | (with_reducible first | exact HB.out | apply below_alloc | apply pw_below_drewN | apply below_drew1 | refine below_set ?_ GE101.out | refine below_set ?_ GE102.out | refine below_set ?_ GE109.out) | exact HB.out))))
          (case aL => have := LMc2.out; omega)
          intro v107 w9 ho hb hg hat
          rw [← Ny106.out] at ho
          have n0_ := Aside0.mk (blk_grown (g := gb101) (o := .cells #[.int .i64 a0_0, .int .i64 a0_1, .string a0_2, .slice A0_3 l0_3.length c0_3, .slice A0_4 l0_4.length c0_4] 26 (0, 0)) (by (with_reducible repeat (first | refine blk_drewN ?_ _ | refine blk_drew ?_ | refine blk_alloc ?_ _)); exact BK101.out) hg (Kd.R_ne HO105.out BK101.out (by decide)))
          have n1_ := Aside0.mk (blk_grown (g := gb102) (o := .cells #[.int .i64 0, .int .i64 0, .string (⟨#[]⟩ : ByteArray), .slice none 0 0, .slice none 0 0] 34 (0, 0)) (by (with_reducible repeat (first | refine blk_drewN ?_ _ | refine blk_drew ?_ | refine blk_alloc ?_ _)); exact BK102.out) hg (Kd.R_ne HO105.out BK102.out (by decide)))
          have n2_ := Aside0.mk (blk_grown (g := gb109) (o := .cells #[.int .i64 0, .int .i64 0, .string (⟨#[]⟩ : ByteArray), .slice none 0 0, .slice none 0 0] 34 (0, 0)) (by (with_reducible repeat (first | refine blk_drewN ?_ _ | refine blk_drew ?_ | refine blk_alloc ?_ _)); exact BK109.out) hg (Kd.R_ne HO105.out BK109.out (by decide)))
          have n3_ := Aside0.mk (hb)
          have n4_ := Aside0.mk (ho)
          clear BK101
          clear BK102
          clear BK109
          clear HB
          clear HO105
          have BK101 := n0_
          have BK102 := n1_
          have BK109 := n2_
          have HB := n3_
          have HO108 := n4_
          clear n0_ n1_ n2_ n3_ n4_
          clear ho hb hg hat
          obtain ⟨Ao10, co10, eo10⟩ := Kd.R_slice HO108.out
          (first | subst eo10 | (injection eo10 with f1_ f2_ f3_; have f4_ := f1_.symm; have f5_ := f3_.symm; clear f1_ f2_ f3_; subst f4_; subst f5_))
          refine hK.out _ _ ⟨(blk_cell BK101.out 0).trans rfl, (blk_cell BK101.out 1).trans rfl, (blk_cell BK101.out 2).trans rfl, (blk_cell BK101.out 3).trans rfl, (blk_cell BK101.out 4).trans rfl⟩ (fun hHeld => ?_)
          clear hK K
          refine norm_ (a' := ?_) ?_ ?_
          rotate_left
          · show Act.put _ (some 14) _ = _
            simp only [Act.put, List.setIfInBounds_toArray, List.set_cons_zero, List.set_cons_succ, i64_w, i32_w]
            rfl
          refine pure_ (i := 10) (N := some 15) (v := ?_) (a' := ?_) #[true, true, true, true, true, true, true, true, true, true, true, true, false] rfl rfl (any_of HT_.out (by kernel_rfl)) (fun _ _ _ h => h) (Or.inl ⟨by rfl, ?_⟩) ?_ ?_
          rotate_left
          · intro w'
            go_simp
            with_reducible rfl
          rotate_left
          · simp only [Act.put, List.setIfInBounds_toArray, List.set_cons_zero, List.set_cons_succ, i64_w, i32_w]
            rfl
          exact norm_ (by simp only [putAll, Act.put, List.setIfInBounds_toArray, List.set_cons_zero, List.set_cons_succ]) (hCont (v104, .slice Ao10 y106.length co10, gb109) _ ⟨hHeld, (by (with_reducible repeat (first | apply Kd.R_alloc | apply Kd.R_drewN | apply Kd.R_drew)); exact HO108.out), (by (with_reducible repeat (first | refine blk_drewN ?_ _ | refine blk_drew ?_ | refine blk_alloc ?_ _)); exact BK101.out), (by (with_reducible repeat (first | refine blk_drewN ?_ _ | refine blk_drew ?_ | refine blk_alloc ?_ _)); exact BK102.out), (by (with_reducible repeat (first | refine blk_drewN ?_ _ | refine blk_drew ?_ | refine blk_alloc ?_ _)); exact BK109.out), GW109.out, GE109.out, NB101_109.out, NB109_101.out, NB102_109.out, NB109_102.out, (by repeat (first | (with_reducible first | exact HB.out | apply below_alloc | apply pw_below_drewN | apply below_drew1 | refine below_set ?_ GE101.out | refine below_set ?_ GE102.out | refine below_set ?_ GE109.out) | exact HB.out))⟩)
      · skip
        refine box_step ?hg (N := 3) ?hd (cs := #[.int .i64 0, .int .i64 0, .string (⟨#[]⟩ : ByteArray), .slice none 0 0, .slice none 0 0]) (t := 34) ?hr ?_; (case hd => rfl); (case hg => rfl); (case hr => first | (go_simp; done) | (go_simp; rfl))
        intro gb109 hg w6 hbox hb
        have n0_ := Aside0.mk (blk_below (g := gb101) (o := .cells #[.int .i64 a0_0, .int .i64 a0_1, .string a0_2, .slice A0_3 l0_3.length c0_3, .slice A0_4 l0_4.length c0_4] 26 (0, 0)) (by (with_reducible repeat (first | refine blk_drewN ?_ _ | refine blk_drew ?_ | refine blk_alloc ?_ _)); exact BK101.out) hb)
        have n1_ := Aside0.mk (blk_below (g := gb102) (o := .cells #[.int .i64 0, .int .i64 0, .string (⟨#[]⟩ : ByteArray), .slice none 0 0, .slice none 0 0] 34 (0, 0)) (by (with_reducible repeat (first | refine blk_drewN ?_ _ | refine blk_drew ?_ | refine blk_alloc ?_ _)); exact BK102.out) hb)
        have n2_ := Aside0.mk (below_step (by repeat (first | (with_reducible first | exact HB.out | apply below_alloc | apply pw_below_drewN | apply below_drew1 | refine below_set ?_ GE101.out | refine below_set ?_ GE102.out) | exact HB.out)) hb)
        have n3_ := Aside0.mk (hbox)
        have n4_ := Aside0.mk ((by rw [hg]; exact (below_size (by repeat (first | (with_reducible first | exact HB.out | apply below_alloc | apply pw_below_drewN | apply below_drew1 | refine below_set ?_ GE101.out | refine below_set ?_ GE102.out) | exact HB.out))) : w.heap.size ≤ gb109))
        have n5_ := Aside0.mk ((by rw [hg]; exact (below_size (by repeat (first | (with_reducible first | exact HB.out | apply below_alloc | apply pw_below_drewN | apply below_drew1 | refine below_set ?_ GE101.out | refine below_set ?_ GE102.out) | exact HB.out))) : w.heap.size ≤ gb109))
        have n6_ := Aside0.mk ((by rw [hg]; exact Nat.ne_of_lt (blk_lt (g := gb101) (o := .cells #[.int .i64 a0_0, .int .i64 a0_1, .string a0_2, .slice A0_3 l0_3.length c0_3, .slice A0_4 l0_4.length c0_4] 26 (0, 0)) (by (with_reducible repeat (first | refine blk_drewN ?_ _ | refine blk_drew ?_ | refine blk_alloc ?_ _)); exact BK101.out)) : gb101 ≠ gb109))
        have n7_ := Aside0.mk ((by rw [hg]; exact Nat.ne_of_gt (blk_lt (g := gb101) (o := .cells #[.int .i64 a0_0, .int .i64 a0_1, .string a0_2, .slice A0_3 l0_3.length c0_3, .slice A0_4 l0_4.length c0_4] 26 (0, 0)) (by (with_reducible repeat (first | refine blk_drewN ?_ _ | refine blk_drew ?_ | refine blk_alloc ?_ _)); exact BK101.out)) : gb109 ≠ gb101))
        have n8_ := Aside0.mk ((by rw [hg]; exact Nat.ne_of_lt (blk_lt (g := gb102) (o := .cells #[.int .i64 0, .int .i64 0, .string (⟨#[]⟩ : ByteArray), .slice none 0 0, .slice none 0 0] 34 (0, 0)) (by (with_reducible repeat (first | refine blk_drewN ?_ _ | refine blk_drew ?_ | refine blk_alloc ?_ _)); exact BK102.out)) : gb102 ≠ gb109))
        have n9_ := Aside0.mk ((by rw [hg]; exact Nat.ne_of_gt (blk_lt (g := gb102) (o := .cells #[.int .i64 0, .int .i64 0, .string (⟨#[]⟩ : ByteArray), .slice none 0 0, .slice none 0 0] 34 (0, 0)) (by (with_reducible repeat (first | refine blk_drewN ?_ _ | refine blk_drew ?_ | refine blk_alloc ?_ _)); exact BK102.out)) : gb109 ≠ gb102))
        clear BK101
        clear BK102
        clear HB
        have BK101 := n0_
        have BK102 := n1_
        have HB := n2_
        have BK109 := n3_
        have GW109 := n4_
        have GE109 := n5_
        have NB101_109 := n6_
        have NB109_101 := n7_
        have NB102_109 := n8_
        have NB109_102 := n9_
        clear n0_ n1_ n2_ n3_ n4_ n5_ n6_ n7_ n8_ n9_
        clear hb hbox hg
        refine hK.out _ _ ⟨(blk_cell BK101.out 0).trans rfl, (blk_cell BK101.out 1).trans rfl, (blk_cell BK101.out 2).trans rfl, (blk_cell BK101.out 3).trans rfl, (blk_cell BK101.out 4).trans rfl⟩ (fun hHeld => ?_)
        clear hK K
        refine norm_ (a' := ?_) ?_ ?_
        rotate_left
        · show Act.put _ (some 3) _ = _
          simp only [Act.put, List.setIfInBounds_toArray, List.set_cons_zero, List.set_cons_succ, i64_w, i32_w]
          rfl
        refine one_ (i := 6) (N := some 11) #[true, true, true, true, true, true, true, true, true, false, false, true, false] rfl rfl (one_of HT_.out (by kernel_rfl)) (by decide) (fun K hK => ?_)
        refine Kd.R_lit_step Kd.string _ 9 ?hg (N := 11) ?hd (xs := ([] : List ByteArray)) (inner := []) (ok := fun _ => True) (okp := fun _ => True) ?hr ?hp (fun _ hk => hk) trivial (Below.refl _ _) (Nat.le_refl _) (by simp) ?_; (case hd => rfl); (case hg => rfl); (case hr => first | (go_simp; done) | (go_simp; rfl)); (case hp => exact (Reps.none _ _))
        intro v104 w7 ho8 hb hg_ hnew_
        clear hg_ hnew_
        (first | rw [← Ny103.out] at ho8 | (simp only [Int.reduceToNat] at ho8; rw [← Ny103.out] at ho8))
        have n0_ := Aside0.mk (Kd.R_lower ho8 (below_size (by repeat (first | (with_reducible first | exact HB.out | apply below_alloc | apply pw_below_drewN | apply below_drew1 | refine below_set ?_ GE101.out | refine below_set ?_ GE102.out | refine below_set ?_ GE109.out) | exact HB.out))))
        have n1_ := Aside0.mk (blk_below (g := gb101) (o := .cells #[.int .i64 a0_0, .int .i64 a0_1, .string a0_2, .slice A0_3 l0_3.length c0_3, .slice A0_4 l0_4.length c0_4] 26 (0, 0)) (by (with_reducible repeat (first | refine blk_drewN ?_ _ | refine blk_drew ?_ | refine blk_alloc ?_ _)); exact BK101.out) hb)
        have n2_ := Aside0.mk (blk_below (g := gb102) (o := .cells #[.int .i64 0, .int .i64 0, .string (⟨#[]⟩ : ByteArray), .slice none 0 0, .slice none 0 0] 34 (0, 0)) (by (with_reducible repeat (first | refine blk_drewN ?_ _ | refine blk_drew ?_ | refine blk_alloc ?_ _)); exact BK102.out) hb)
        have n3_ := Aside0.mk (blk_below (g := gb109) (o := .cells #[.int .i64 0, .int .i64 0, .string (⟨#[]⟩ : ByteArray), .slice none 0 0, .slice none 0 0] 34 (0, 0)) (by (with_reducible repeat (first | refine blk_drewN ?_ _ | refine blk_drew ?_ | refine blk_alloc ?_ _)); exact BK109.out) hb)
        have n4_ := Aside0.mk (below_step (by repeat (first | (with_reducible first | exact HB.out | apply below_alloc | apply pw_below_drewN | apply below_drew1 | refine below_set ?_ GE101.out | refine below_set ?_ GE102.out | refine below_set ?_ GE109.out) | exact HB.out)) hb)
        clear BK101
        clear BK102
        clear BK109
        clear HB
        have HO105 := n0_
        have BK101 := n1_
        have BK102 := n2_
        have BK109 := n3_
        have HB := n4_
        clear n0_ n1_ n2_ n3_ n4_
        clear hb ho8
        refine hK.out _ _ ⟨(blk_cell BK101.out 0).trans rfl, (blk_cell BK101.out 1).trans rfl, (blk_cell BK101.out 2).trans rfl, (blk_cell BK101.out 3).trans rfl, (blk_cell BK101.out 4).trans rfl⟩ (fun hHeld => ?_)
        clear hK K
        refine norm_ (a' := ?_) ?_ ?_
        rotate_left
        · show Act.put _ (some 11) _ = _
          simp only [Act.put, List.setIfInBounds_toArray, List.set_cons_zero, List.set_cons_succ, i64_w, i32_w]
          rfl
        refine one_ (i := 9) (N := some 14) #[true, true, true, true, true, true, true, true, true, true, false, true, false] rfl rfl (one_of HT_.out (by kernel_rfl)) (by decide) (fun K hK => ?_)
        refine Kd.R_append_rows_step Kd.string (w0 := w) w.heap.size (by rfl) (.tmp 11) (.tmp 13) 22 9 (.string ⟨#[]⟩) 16 rfl Tryz.underlying22 info9 rfl (by decide) (by omega) v104 y103 l0_3 _ _ _ (fun _ => True) (fun _ => False) rfl rfl ?aO ?aR (fun _ _ h => h) (fun _ h => h.elim) ?aF ?aB ?aS ?aL ?_
        (case aR => repeat (first | exact (Kd.C_below HR0_3.out HB.out) | (with_reducible refine Kd.C_alloc ?_ _) | (with_reducible refine Kd.C_drewN ?_ _) | (with_reducible refine Kd.C_drew ?_)))
        (case aB => exact (by repeat (first | (with_reducible first | exact HB.out | apply below_alloc | apply pw_below_drewN | apply below_drew1 | refine below_set ?_ GE101.out | refine below_set ?_ GE102.out | refine below_set ?_ GE109.out) | exact HB.out)))
        (case aF => exact (fun _ _ => trivial))
        (case aO => exact (by (with_reducible repeat (first | apply Kd.R_alloc | apply Kd.R_drewN | apply Kd.R_drew)); exact HO105.out))
        (case aS => exact (below_size (by repeat (first | (with_reducible first | exact HB.out | apply below_alloc | apply pw_below_drewN | apply below_drew1 | refine below_set ?_ GE101.out | refine below_set ?_ GE102.out | refine below_set ?_ GE109.out) | exact HB.out))))
        (case aL => have := LMc2.out; omega)
        intro v107 w9 ho hb hg hat
        rw [← Ny106.out] at ho
        have n0_ := Aside0.mk (blk_grown (g := gb101) (o := .cells #[.int .i64 a0_0, .int .i64 a0_1, .string a0_2, .slice A0_3 l0_3.length c0_3, .slice A0_4 l0_4.length c0_4] 26 (0, 0)) (by (with_reducible repeat (first | refine blk_drewN ?_ _ | refine blk_drew ?_ | refine blk_alloc ?_ _)); exact BK101.out) hg (Kd.R_ne HO105.out BK101.out (by decide)))
        have n1_ := Aside0.mk (blk_grown (g := gb102) (o := .cells #[.int .i64 0, .int .i64 0, .string (⟨#[]⟩ : ByteArray), .slice none 0 0, .slice none 0 0] 34 (0, 0)) (by (with_reducible repeat (first | refine blk_drewN ?_ _ | refine blk_drew ?_ | refine blk_alloc ?_ _)); exact BK102.out) hg (Kd.R_ne HO105.out BK102.out (by decide)))
        have n2_ := Aside0.mk (blk_grown (g := gb109) (o := .cells #[.int .i64 0, .int .i64 0, .string (⟨#[]⟩ : ByteArray), .slice none 0 0, .slice none 0 0] 34 (0, 0)) (by (with_reducible repeat (first | refine blk_drewN ?_ _ | refine blk_drew ?_ | refine blk_alloc ?_ _)); exact BK109.out) hg (Kd.R_ne HO105.out BK109.out (by decide)))
        have n3_ := Aside0.mk (hb)
        have n4_ := Aside0.mk (ho)
        clear BK101
        clear BK102
        clear BK109
        clear HB
        clear HO105
        have BK101 := n0_
        have BK102 := n1_
        have BK109 := n2_
        have HB := n3_
        have HO108 := n4_
        clear n0_ n1_ n2_ n3_ n4_
        clear ho hb hg hat
        obtain ⟨Ao10, co10, eo10⟩ := Kd.R_slice HO108.out
        (first | subst eo10 | (injection eo10 with f1_ f2_ f3_; have f4_ := f1_.symm; have f5_ := f3_.symm; clear f1_ f2_ f3_; subst f4_; subst f5_))
        refine hK.out _ _ ⟨(blk_cell BK101.out 0).trans rfl, (blk_cell BK101.out 1).trans rfl, (blk_cell BK101.out 2).trans rfl, (blk_cell BK101.out 3).trans rfl, (blk_cell BK101.out 4).trans rfl⟩ (fun hHeld => ?_)
        clear hK K
        refine norm_ (a' := ?_) ?_ ?_
        rotate_left
        · show Act.put _ (some 14) _ = _
          simp only [Act.put, List.setIfInBounds_toArray, List.set_cons_zero, List.set_cons_succ, i64_w, i32_w]
          rfl
        refine pure_ (i := 10) (N := some 15) (v := ?_) (a' := ?_) #[true, true, true, true, true, true, true, true, true, true, true, true, false] rfl rfl (any_of HT_.out (by kernel_rfl)) (fun _ _ _ h => h) (Or.inl ⟨by rfl, ?_⟩) ?_ ?_
        rotate_left
        · intro w'
          go_simp
          with_reducible rfl
        rotate_left
        · simp only [Act.put, List.setIfInBounds_toArray, List.set_cons_zero, List.set_cons_succ, i64_w, i32_w]
          rfl
        exact norm_ (by simp only [putAll, Act.put, List.setIfInBounds_toArray, List.set_cons_zero, List.set_cons_succ]) (hCont (v104, .slice Ao10 y106.length co10, gb109) _ ⟨hHeld, (by (with_reducible repeat (first | apply Kd.R_alloc | apply Kd.R_drewN | apply Kd.R_drew)); exact HO108.out), (by (with_reducible repeat (first | refine blk_drewN ?_ _ | refine blk_drew ?_ | refine blk_alloc ?_ _)); exact BK101.out), (by (with_reducible repeat (first | refine blk_drewN ?_ _ | refine blk_drew ?_ | refine blk_alloc ?_ _)); exact BK102.out), (by (with_reducible repeat (first | refine blk_drewN ?_ _ | refine blk_drew ?_ | refine blk_alloc ?_ _)); exact BK109.out), GW109.out, GE109.out, NB101_109.out, NB109_101.out, NB102_109.out, NB109_102.out, (by repeat (first | (with_reducible first | exact HB.out | apply below_alloc | apply pw_below_drewN | apply below_drew1 | refine below_set ?_ GE101.out | refine below_set ?_ GE102.out | refine below_set ?_ GE109.out) | exact HB.out))⟩)
    rintro ⟨v104, v107, gb109⟩ w11 ⟨hS_, h0_, h1_, h2_, h3_, h4_, h5_, h6_, h7_, h8_, h9_, h10_⟩
    have n0_ : Aside0 (Kd.R Kd.string 9 w11 w.heap.size (fun _ => True) v107 y106) := ⟨h0_⟩
    have n1_ : Aside0 (w11.heap[gb101]? = some (.cells #[.int .i64 a0_0, .int .i64 a0_1, .string a0_2, .slice A0_3 l0_3.length c0_3, .slice A0_4 l0_4.length c0_4] 26 (0, 0))) := ⟨h1_⟩
    have n2_ : Aside0 (w11.heap[gb102]? = some (.cells #[.int .i64 0, .int .i64 0, .string (⟨#[]⟩ : ByteArray), .slice none 0 0, .slice none 0 0] 34 (0, 0))) := ⟨h2_⟩
    have n3_ : Aside0 (w11.heap[gb109]? = some (.cells #[.int .i64 0, .int .i64 0, .string (⟨#[]⟩ : ByteArray), .slice none 0 0, .slice none 0 0] 34 (0, 0))) := ⟨h3_⟩
    have n4_ : Aside0 (w.heap.size ≤ gb109) := ⟨h4_⟩
    have n5_ : Aside0 (w.heap.size ≤ gb109) := ⟨h5_⟩
    have n6_ : Aside0 (gb101 ≠ gb109) := ⟨h6_⟩
    have n7_ : Aside0 (gb109 ≠ gb101) := ⟨h7_⟩
    have n8_ : Aside0 (gb102 ≠ gb109) := ⟨h8_⟩
    have n9_ : Aside0 (gb109 ≠ gb102) := ⟨h9_⟩
    have n10_ : Aside0 (Below w.heap.size w w11) := ⟨h10_⟩
    clear BK101
    clear BK102
    clear HB
    clear h0_ h1_ h2_ h3_ h4_ h5_ h6_ h7_ h8_ h9_ h10_
    have HO108 := n0_
    have BK101 := n1_
    have BK102 := n2_
    have BK109 := n3_
    have GW109 := n4_
    have GE109 := n5_
    have NB101_109 := n6_
    have NB109_101 := n7_
    have NB102_109 := n8_
    have NB109_102 := n9_
    have HB := n10_
    clear n0_ n1_ n2_ n3_ n4_ n5_ n6_ n7_ n8_ n9_ n10_
    have hHeld : w11.cell? ⟨gb101, 0, none⟩ = some (.int .i64 a0_0) ∧ w11.cell? ⟨gb101, 1, none⟩ = some (.int .i64 a0_1) ∧ w11.cell? ⟨gb101, 2, none⟩ = some (.string a0_2) ∧ w11.cell? ⟨gb101, 3, none⟩ = some (.slice A0_3 l0_3.length c0_3) ∧ w11.cell? ⟨gb101, 4, none⟩ = some (.slice A0_4 l0_4.length c0_4) := hS_
    obtain ⟨Ao12, co12, eo12⟩ := Kd.R_slice HO108.out
    (first | subst eo12 | (injection eo12 with f1_ f2_ f3_; have f4_ := f1_.symm; have f5_ := f3_.symm; clear f1_ f2_ f3_; subst f4_; subst f5_))
    refine norm_ (a' := ?_) ?_ ?_
    rotate_left
    · simp only [putAll, Act.put, List.setIfInBounds_toArray, List.set_cons_zero, List.set_cons_succ]
      rfl
    refine one_ (i := 12) (N := none) #[true, true, true, true, true, true, true, true, true, true, true, true, true] rfl rfl (one_of HT_.out (by kernel_rfl)) (by decide) (fun K hK => ?_)
    have hs13 : w11.cell? ⟨gb109, 0, none⟩ = some (.int .i64 0) := (blk_cell BK109.out 0).trans rfl
    have hfs13 := blk_frozen BK109.out 0
    have hns13_0 := NB101_109.out
    have hns13_1 := NB102_109.out
    have hms13_0 := NB109_101.out
    have hms13_1 := NB109_102.out
    have hs14 : w11.cell? ⟨gb109, 1, none⟩ = some (.int .i64 0) := (blk_cell BK109.out 1).trans rfl
    have hfs14 := blk_frozen BK109.out 1
    have hns14_0 := NB101_109.out
    have hns14_1 := NB102_109.out
    have hms14_0 := NB109_101.out
    have hms14_1 := NB109_102.out
    have hs15 : w11.cell? ⟨gb109, 2, none⟩ = some (.string (⟨#[]⟩ : ByteArray)) := (blk_cell BK109.out 2).trans rfl
    have hfs15 := blk_frozen BK109.out 2
    have hns15_0 := NB101_109.out
    have hns15_1 := NB102_109.out
    have hms15_0 := NB109_101.out
    have hms15_1 := NB109_102.out
    have hs16 : w11.cell? ⟨gb109, 3, none⟩ = some (.slice none 0 0) := (blk_cell BK109.out 3).trans rfl
    have hfs16 := blk_frozen BK109.out 3
    have hns16_0 := NB101_109.out
    have hns16_1 := NB102_109.out
    have hms16_0 := NB109_101.out
    have hms16_1 := NB109_102.out
    have hs17 : w11.cell? ⟨gb109, 4, none⟩ = some (.slice none 0 0) := (blk_cell BK109.out 4).trans rfl
    have hfs17 := blk_frozen BK109.out 4
    have hns17_0 := NB101_109.out
    have hns17_1 := NB102_109.out
    have hms17_0 := NB109_101.out
    have hms17_1 := NB109_102.out
    refine skip_ (w1 := ?_) (by rfl) rfl ?_ ?_
    rotate_left
    · go_simp
      rfl
    refine hK.out _ _ ⟨((cell_far (p := ⟨gb109, _, none⟩) NB101_109.out _).trans (((cell_far (p := ⟨gb109, _, none⟩) NB101_109.out _).trans (((cell_far (p := ⟨gb109, _, none⟩) NB101_109.out _).trans (((cell_far (p := ⟨gb109, _, none⟩) NB101_109.out _).trans (((cell_far (p := ⟨gb109, _, none⟩) NB101_109.out _).trans (hHeld.1)))))))))), ((cell_far (p := ⟨gb109, _, none⟩) NB101_109.out _).trans (((cell_far (p := ⟨gb109, _, none⟩) NB101_109.out _).trans (((cell_far (p := ⟨gb109, _, none⟩) NB101_109.out _).trans (((cell_far (p := ⟨gb109, _, none⟩) NB101_109.out _).trans (((cell_far (p := ⟨gb109, _, none⟩) NB101_109.out _).trans (hHeld.2.1)))))))))), ((cell_far (p := ⟨gb109, _, none⟩) NB101_109.out _).trans (((cell_far (p := ⟨gb109, _, none⟩) NB101_109.out _).trans (((cell_far (p := ⟨gb109, _, none⟩) NB101_109.out _).trans (((cell_far (p := ⟨gb109, _, none⟩) NB101_109.out _).trans (((cell_far (p := ⟨gb109, _, none⟩) NB101_109.out _).trans (hHeld.2.2.1)))))))))), ((cell_far (p := ⟨gb109, _, none⟩) NB101_109.out _).trans (((cell_far (p := ⟨gb109, _, none⟩) NB101_109.out _).trans (((cell_far (p := ⟨gb109, _, none⟩) NB101_109.out _).trans (((cell_far (p := ⟨gb109, _, none⟩) NB101_109.out _).trans (((cell_far (p := ⟨gb109, _, none⟩) NB101_109.out _).trans (hHeld.2.2.2.1)))))))))), ((cell_far (p := ⟨gb109, _, none⟩) NB101_109.out _).trans (((cell_far (p := ⟨gb109, _, none⟩) NB101_109.out _).trans (((cell_far (p := ⟨gb109, _, none⟩) NB101_109.out _).trans (((cell_far (p := ⟨gb109, _, none⟩) NB101_109.out _).trans (((cell_far (p := ⟨gb109, _, none⟩) NB101_109.out _).trans (hHeld.2.2.2.2))))))))))⟩ (fun hHeld => ?_)
    clear hK K
    refine done_ (done_of HT_.out (by kernel_rfl)) ?_
    try go_wp2
    go_loopg [4] k (fun kq v4 w' => ∃ (x4_1 : Int) (x110004_1 : List (S34)) (u110004 : Value), v4 = .int .i64 x4_1 ∧ Aside0 (laws_to.l0 kq x4_1 a0_0 a0_1 a0_2 l0_3 l0_4 a0_0 a0_1 a0_2 y106 x110004_1 = some (r1, r2, r3, r4, r5)) ∧ Aside0 (kq ≤ k) ∧ Aside0 (Kd.R Kd.string 9 w' w.heap.size (fun _ => True) (.slice Ao12 y106.length co12) y106) ∧ Aside0 (Kd.R k34 34 w' w.heap.size (fun k_ => some k_ ≠ ((.slice Ao12 y106.length co12) : Value).ownBlock ∧ k_ ≠ gb102 ∧ k_ ≠ gb109) u110004 x110004_1) ∧ Aside0 (w'.heap[gb101]? = some (.cells #[.int .i64 a0_0, .int .i64 a0_1, .string a0_2, (.slice A0_3 l0_3.length c0_3), (.slice A0_4 l0_4.length c0_4)] 26 (0, 0))) ∧ Aside0 (w'.heap[gb102]? = some (.cells #[.int .i64 0, .int .i64 0, .string (⟨#[]⟩ : ByteArray), (.slice none 0 0), (.slice none 0 0)] 34 (0, 0))) ∧ Aside0 (w'.heap[gb109]? = some (.cells #[.int .i64 a0_0, .int .i64 a0_1, .string a0_2, (.slice Ao12 y106.length co12), u110004] 34 (0, 0))) ∧ Aside0 (Below w.heap.size w w'))
    case atStart => exact ⟨(0), (([] : List (S34))), (.slice none 0 0), (by first | rfl | (simp; done) | (simp [*]; done)), H', ⟨Nat.le_refl _⟩, ⟨by (with_reducible repeat (first | apply Kd.R_alloc | apply Kd.R_drewN | apply Kd.R_drew)); exact Kd.R_mono (Kd.R_far (p := ⟨gb109, 4, none⟩) (Kd.R_far (p := ⟨gb109, 3, none⟩) (Kd.R_far (p := ⟨gb109, 2, none⟩) (Kd.R_far (p := ⟨gb109, 1, none⟩) (Kd.R_far (p := ⟨gb109, 0, none⟩) (Kd.R_types HO108.out BK109.out (by decide)) (fun _ hk => hk.2) (.int .i64 a0_0)) (fun _ hk => hk.2) (.int .i64 a0_1)) (fun _ hk => hk.2) (.string a0_2)) (fun _ hk => hk.2) (.slice Ao12 y106.length co12)) (fun _ hk => hk.2) (.slice none 0 0)) (fun _ hk => trivial)⟩, ⟨by first | exact Kd.R_nil _ _ _ _ _ | exact Kd.N_nil _ _ _ _ _ | exact Kd.V_nil _ _ _ _ _ | exact Kd.Q_nil _ _ _ _ _ | exact Kd.S_nil _ _ _ _ _⟩, ⟨by (with_reducible repeat (first | refine blk_drewN ?_ _ | refine blk_drew ?_ | refine blk_alloc ?_ _)); refine blk_far ?_ NB101_109.out _; (with_reducible repeat (first | refine blk_drewN ?_ _ | refine blk_drew ?_ | refine blk_alloc ?_ _)); refine blk_far ?_ NB101_109.out _; (with_reducible repeat (first | refine blk_drewN ?_ _ | refine blk_drew ?_ | refine blk_alloc ?_ _)); refine blk_far ?_ NB101_109.out _; (with_reducible repeat (first | refine blk_drewN ?_ _ | refine blk_drew ?_ | refine blk_alloc ?_ _)); refine blk_far ?_ NB101_109.out _; (with_reducible repeat (first | refine blk_drewN ?_ _ | refine blk_drew ?_ | refine blk_alloc ?_ _)); refine blk_far ?_ NB101_109.out _; (with_reducible repeat (first | refine blk_drewN ?_ _ | refine blk_drew ?_ | refine blk_alloc ?_ _)); exact BK101.out⟩, ⟨by (with_reducible repeat (first | refine blk_drewN ?_ _ | refine blk_drew ?_ | refine blk_alloc ?_ _)); refine blk_far ?_ NB102_109.out _; (with_reducible repeat (first | refine blk_drewN ?_ _ | refine blk_drew ?_ | refine blk_alloc ?_ _)); refine blk_far ?_ NB102_109.out _; (with_reducible repeat (first | refine blk_drewN ?_ _ | refine blk_drew ?_ | refine blk_alloc ?_ _)); refine blk_far ?_ NB102_109.out _; (with_reducible repeat (first | refine blk_drewN ?_ _ | refine blk_drew ?_ | refine blk_alloc ?_ _)); refine blk_far ?_ NB102_109.out _; (with_reducible repeat (first | refine blk_drewN ?_ _ | refine blk_drew ?_ | refine blk_alloc ?_ _)); refine blk_far ?_ NB102_109.out _; (with_reducible repeat (first | refine blk_drewN ?_ _ | refine blk_drew ?_ | refine blk_alloc ?_ _)); exact BK102.out⟩, ⟨by (with_reducible repeat (first | refine blk_drewN ?_ _ | refine blk_drew ?_ | refine blk_alloc ?_ _)); refine blk_put (cs := #[.int .i64 a0_0, .int .i64 a0_1, .string a0_2, .slice Ao12 y106.length co12, .slice none 0 0]) ?_ 4 _ rfl; (with_reducible repeat (first | refine blk_drewN ?_ _ | refine blk_drew ?_ | refine blk_alloc ?_ _)); refine blk_put (cs := #[.int .i64 a0_0, .int .i64 a0_1, .string a0_2, .slice none 0 0, .slice none 0 0]) ?_ 3 _ rfl; (with_reducible repeat (first | refine blk_drewN ?_ _ | refine blk_drew ?_ | refine blk_alloc ?_ _)); refine blk_put (cs := #[.int .i64 a0_0, .int .i64 a0_1, .string (⟨#[]⟩ : ByteArray), .slice none 0 0, .slice none 0 0]) ?_ 2 _ rfl; (with_reducible repeat (first | refine blk_drewN ?_ _ | refine blk_drew ?_ | refine blk_alloc ?_ _)); refine blk_put (cs := #[.int .i64 a0_0, .int .i64 0, .string (⟨#[]⟩ : ByteArray), .slice none 0 0, .slice none 0 0]) ?_ 1 _ rfl; (with_reducible repeat (first | refine blk_drewN ?_ _ | refine blk_drew ?_ | refine blk_alloc ?_ _)); refine blk_put (cs := #[.int .i64 0, .int .i64 0, .string (⟨#[]⟩ : ByteArray), .slice none 0 0, .slice none 0 0]) ?_ 0 _ rfl; (with_reducible repeat (first | refine blk_drewN ?_ _ | refine blk_drew ?_ | refine blk_alloc ?_ _)); exact BK109.out⟩, ⟨by repeat (first | (with_reducible first | exact HB.out | apply below_alloc | apply pw_below_drewN | apply below_drew1 | refine below_set ?_ GE101.out | refine below_set ?_ GE102.out | refine below_set ?_ GE109.out) | exact HB.out)⟩⟩
    case round =>
      clear H'
      try clear c1
      try clear c2
      try clear p2
      try clear c14
      obtain ⟨x4_1, x110004_1, u110004, rfl, HA, HK1, HO_110003, HO_110004, BK101, BK102, BK109, HB⟩ := hrel
      cases gk with
      | zero => exact absurd HA.out (by simp [laws_to.l0])
      | succ k1 =>
        have H := HA.out
        clear HA
        simp only [laws_to.l0] at H
        by_cases c18 : x4_1 < (l0_4.length : Int)
        · rw [if_pos c18] at H
          have c18b0 : decide (x4_1 < (l0_4.length : Int)) = true := decide_eq_true c18
          clear c18
          by_cases c19 : 0 ≤ x4_1
          · rw [if_pos c19] at H
            have c19b0 : decide (0 ≤ x4_1) = true := decide_eq_true c19
            clear c19
            replace H := Option.bind_eq_some_iff.mp H
            obtain ⟨⟨t111, t112, t113, t114, t117⟩, A200, H⟩ := H
            replace H : (if x110004_1.length < 1759218604441 then (laws_to.l0 k1 (wrap64 (x4_1 + 1)) a0_0 a0_1 a0_2 l0_3 l0_4 a0_0 a0_1 a0_2 y106 (x110004_1 ++ [(⟨t111, t112, t113, t114, t117⟩ : S34)])) else (none)) = some (r1, r2, r3, r4, r5) := H
            have A20 := Aside0.mk A200
            clear A200
            by_cases c21 : x110004_1.length < 1759218604441
            · rw [if_pos c21] at H
              have LMc21 := Aside0.mk c21
              clear c21
              obtain ⟨y120, hy120⟩ : ∃ y_ : List (S34), y_ = (x110004_1 ++ [(⟨t111, t112, t113, t114, t117⟩ : S34)]) := ⟨_, rfl⟩
              replace H : (laws_to.l0 k1 (wrap64 (x4_1 + 1)) a0_0 a0_1 a0_2 l0_3 l0_4 a0_0 a0_1 a0_2 y106 y120) = some (r1, r2, r3, r4, r5) := by first | (rw [hy120]; with_reducible exact H) | (have H2_ := (Option.bind_some _ _).symm.trans H; rw [hy120]; with_reducible exact H2_) | (have H2_ := (Option.bind_some _ _).symm.trans H; with_reducible exact H2_) | with_reducible exact H | (rw [hy120]; exact H) | exact H
              have Ny120 := Aside0.mk hy120
              clear hy120
              have H' := Aside0.mk H
              clear H
              have hnb22 := NB101_102.out
              have hnc22 := NB102_101.out
              have hnb23 := NB101_109.out
              have hnc23 := NB109_101.out
              have hcz24_0 : wr.cell? ⟨gb101, 0, none⟩ = some (.int .i64 a0_0) := (blk_cell BK101.out 0).trans rfl
              have hcz24_1 : wr.cell? ⟨gb101, 1, none⟩ = some (.int .i64 a0_1) := (blk_cell BK101.out 1).trans rfl
              have hcz24_2 : wr.cell? ⟨gb101, 2, none⟩ = some (.string a0_2) := (blk_cell BK101.out 2).trans rfl
              have hcz24_3 : wr.cell? ⟨gb101, 3, none⟩ = some (.slice A0_3 l0_3.length c0_3) := (blk_cell BK101.out 3).trans rfl
              have hcz24_4 : wr.cell? ⟨gb101, 4, none⟩ = some (.slice A0_4 l0_4.length c0_4) := (blk_cell BK101.out 4).trans rfl
              have hfz24_0 := blk_frozen BK101.out 0
              have hfz24_1 := blk_frozen BK101.out 1
              have hfz24_2 := blk_frozen BK101.out 2
              have hfz24_3 := blk_frozen BK101.out 3
              have hfz24_4 := blk_frozen BK101.out 4
              try go_wp2
              have n0_ := Aside0.mk (Kd.R_drew HO_110003.out)
              have n1_ := Aside0.mk (Kd.R_drew HO_110004.out)
              have n2_ := Aside0.mk (blk_drew BK101.out)
              have n3_ := Aside0.mk (blk_drew BK102.out)
              have n4_ := Aside0.mk (blk_drew BK109.out)
              have n5_ := Aside0.mk (below_drew1 HB.out)
              clear HO_110003
              clear HO_110004
              clear BK101
              clear BK102
              clear BK109
              clear HB
              have HO_110003 := n0_
              have HO_110004 := n1_
              have BK101 := n2_
              have BK102 := n3_
              have BK109 := n4_
              have HB := n5_
              clear n0_ n1_ n2_ n3_ n4_ n5_
              have p110 : 0 ≤ (x4_1 : Int) := of_decide_eq_true (by first | (with_reducible assumption) | assumption)
              have q110 : x4_1 < (l0_4.length : Int) := of_decide_eq_true (by first | (with_reducible assumption) | assumption)
              obtain ⟨ad110, A110_3, c110_3, A110_4, c110_4, e110, hx110_0, hx110_1, hx110_2, hx110_3, hx110_4, hl110_3, hi110_3, hl110_4, hi110_4⟩ := at_T26 HR0_4.out x4_1 p110 q110
              have hw110_4 := hx110_4
              have hw110_3 := hx110_3
              have hw110_2 := hx110_2
              have hw110_1 := hx110_1
              have hw110_0 := hx110_0
              cases e110
              replace hx110_0 := (HB.out.cell (World.block_lt_of_cell? w _ hx110_0)).trans hx110_0
              replace hx110_1 := (HB.out.cell (World.block_lt_of_cell? w _ hx110_1)).trans hx110_1
              replace hx110_2 := (HB.out.cell (World.block_lt_of_cell? w _ hx110_2)).trans hx110_2
              replace hx110_3 := (HB.out.cell (World.block_lt_of_cell? w _ hx110_3)).trans hx110_3
              replace hx110_4 := (HB.out.cell (World.block_lt_of_cell? w _ hx110_4)).trans hx110_4
              have HR110_3 := Aside0.mk hi110_3
              have HC110_3 := Aside0.mk hl110_3
              clear hi110_3 hl110_3
              have HR110_4 := Aside0.mk hi110_4
              have HC110_4 := Aside0.mk hl110_4
              clear hi110_4 hl110_4
              replace p110 := eq_true p110
              replace q110 := eq_true q110
              refine start_ (n := 12) (S := fun w' => w'.cell? ⟨gb109, 0, none⟩ = some (.int .i64 a0_0) ∧ w'.cell? ⟨gb109, 1, none⟩ = some (.int .i64 a0_1) ∧ w'.cell? ⟨gb109, 2, none⟩ = some (.string a0_2) ∧ w'.cell? ⟨gb109, 3, none⟩ = some (.slice Ao12 y106.length co12) ∧ w'.cell? ⟨gb109, 4, none⟩ = some (u110004) ∧ w'.cell? ⟨gb101, 0, none⟩ = some (.int .i64 a0_0) ∧ w'.cell? ⟨gb101, 1, none⟩ = some (.int .i64 a0_1) ∧ w'.cell? ⟨gb101, 2, none⟩ = some (.string a0_2) ∧ w'.cell? ⟨gb101, 3, none⟩ = some (.slice A0_3 l0_3.length c0_3) ∧ w'.cell? ⟨gb101, 4, none⟩ = some (.slice (some ad110) l0_4.length c0_4) ∧ w'.cell? (ad110.add ((x4_1).toNat * 5)) = some (.int .i64 ((rd_T26 l0_4 x4_1).f0)) ∧ w'.cell? ⟨(ad110.add ((x4_1).toNat * 5)).block, (ad110.add ((x4_1).toNat * 5)).off + 1, none⟩ = some (.int .i64 ((rd_T26 l0_4 x4_1).f1)) ∧ w'.cell? ⟨(ad110.add ((x4_1).toNat * 5)).block, (ad110.add ((x4_1).toNat * 5)).off + 2, none⟩ = some (.string ((rd_T26 l0_4 x4_1).f2)) ∧ w'.cell? ⟨(ad110.add ((x4_1).toNat * 5)).block, (ad110.add ((x4_1).toNat * 5)).off + 3, none⟩ = some (.slice A110_3 ((rd_T26 l0_4 x4_1).f3).length c110_3) ∧ w'.cell? ⟨(ad110.add ((x4_1).toNat * 5)).block, (ad110.add ((x4_1).toNat * 5)).off + 4, none⟩ = some (.slice A110_4 ((rd_T26 l0_4 x4_1).f4).length c110_4)) (ds := [11]) #[false, false, false, false, false, false, false, false, false, false, false, false] (by kernel_rfl) rfl rfl ⟨(blk_cell BK109.out 0).trans rfl, (blk_cell BK109.out 1).trans rfl, (blk_cell BK109.out 2).trans rfl, (blk_cell BK109.out 3).trans rfl, (blk_cell BK109.out 4).trans rfl, (blk_cell BK101.out 0).trans rfl, (blk_cell BK101.out 1).trans rfl, (blk_cell BK101.out 2).trans rfl, (blk_cell BK101.out 3).trans rfl, (blk_cell BK101.out 4).trans rfl, ((HB.out.cell (World.block_lt_of_cell? w _ hw110_0)).trans hw110_0), ((HB.out.cell (World.block_lt_of_cell? w _ hw110_1)).trans hw110_1), ((HB.out.cell (World.block_lt_of_cell? w _ hw110_2)).trans hw110_2), ((HB.out.cell (World.block_lt_of_cell? w _ hw110_3)).trans hw110_3), ((HB.out.cell (World.block_lt_of_cell? w _ hw110_4)).trans hw110_4)⟩ (fun hHeld => ?_); refine with_tabW laws_to.tab5 laws_to.bits5 (fun HT_ HW_ => ?_)
              generalize wr.drew = w25 at HO_110003 HO_110004 BK101 BK102 BK109 HB HR110_3 HR110_4 hx110_0 hx110_1 hx110_2 hx110_3 hx110_4 hHeld ⊢
              refine pure_ (i := 0) (N := some 23) (v := ?_) (a' := ?_) #[true, false, false, false, false, false, false, false, false, false, false, false] rfl rfl (any_of HT_.out (by kernel_rfl)) (fun _ _ _ h => h) (Or.inl ⟨by rfl, ?_⟩) ?_ ?_
              rotate_left
              · intro w'
                go_simp
                with_reducible rfl
              rotate_left
              · simp only [Act.put, List.setIfInBounds_toArray, List.set_cons_zero, List.set_cons_succ, i64_w, i32_w]
                rfl
              refine pure_ (i := 2) (N := some 25) (v := ?_) (a' := ?_) #[true, false, true, false, false, false, false, false, false, false, false, false] rfl rfl (any_of HT_.out (by kernel_rfl)) (fun _ _ _ h => h) (Or.inl ⟨by rfl, ?_⟩) ?_ ?_
              rotate_left
              · intro w'
                go_simp
                with_reducible rfl
              rotate_left
              · simp only [Act.put, List.setIfInBounds_toArray, List.set_cons_zero, List.set_cons_succ, i64_w, i32_w]
                rfl
              refine pure_ (i := 4) (N := some 27) (v := ?_) (a' := ?_) #[true, false, true, false, true, false, false, false, false, false, false, false] rfl rfl (any_of HT_.out (by kernel_rfl)) (fun _ _ _ h => h) (Or.inl ⟨by rfl, ?_⟩) ?_ ?_
              rotate_left
              · intro w'
                go_simp
                with_reducible rfl
              rotate_left
              · simp only [Act.put, List.setIfInBounds_toArray, List.set_cons_zero, List.set_cons_succ, i64_w, i32_w]
                rfl
              refine take_ (i := 1) (N := some 24) (v := ?_) (a' := ?_) #[true, true, true, false, true, false, false, false, false, false, false, false] rfl rfl (take_ofW HT_.out HW_.out (by kernel_rfl)) (fun _ _ _ h => h) (Or.inl ⟨by rfl, ?_⟩) hHeld ?_ ?_
              rotate_left
              · rintro w' ⟨s0, s1, s2, s3, s4, s5, s6, s7, s8, s9, s10, s11, s12, s13, s14⟩
                go_simp
                with_reducible rfl
              rotate_left
              · simp only [Act.put, List.setIfInBounds_toArray, List.set_cons_zero, List.set_cons_succ, i64_w, i32_w]
                rfl
              refine take_ (i := 3) (N := some 26) (v := ?_) (a' := ?_) #[true, true, true, true, true, false, false, false, false, false, false, false] rfl rfl (take_ofW HT_.out HW_.out (by kernel_rfl)) (fun _ _ _ h => h) (Or.inl ⟨by rfl, ?_⟩) hHeld ?_ ?_
              rotate_left
              · rintro w' ⟨s0, s1, s2, s3, s4, s5, s6, s7, s8, s9, s10, s11, s12, s13, s14⟩
                go_simp
                with_reducible rfl
              rotate_left
              · simp only [Act.put, List.setIfInBounds_toArray, List.set_cons_zero, List.set_cons_succ, i64_w, i32_w]
                rfl
              refine pure_ (i := 5) (N := some 28) (v := ?_) (a' := ?_) #[true, true, true, true, true, true, false, false, false, false, false, false] rfl rfl (any_of HT_.out (by kernel_rfl)) (fun _ _ _ h => h) (Or.inl ⟨by rfl, ?_⟩) ?_ ?_
              rotate_left
              · intro w'
                go_simp
                with_reducible rfl
              rotate_left
              · simp only [Act.put, List.setIfInBounds_toArray, List.set_cons_zero, List.set_cons_succ, i64_w, i32_w]
                rfl
              refine take_ (i := 6) (N := some 29) (v := ?_) (a' := ?_) #[true, true, true, true, true, true, true, false, false, false, false, false] rfl rfl (take_ofW HT_.out HW_.out (by kernel_rfl)) (fun _ _ _ h => h) (Or.inl ⟨by rfl, ?_⟩) hHeld ?_ ?_
              rotate_left
              · rintro w' ⟨s0, s1, s2, s3, s4, s5, s6, s7, s8, s9, s10, s11, s12, s13, s14⟩
                go_simp
                with_reducible rfl
              rotate_left
              · simp only [Act.put, List.setIfInBounds_toArray, List.set_cons_zero, List.set_cons_succ, i64_w, i32_w]
                rfl
              refine one_ (i := 7) (N := some 30) #[true, true, true, true, true, true, true, true, false, false, false, false] rfl rfl (one_of HT_.out (by kernel_rfl)) (by decide) (fun K hK => ?_)
              refine goes_ Tryz.func14 (by kernel_rfl) rfl #[.agg #[.int .i64 ((rd_T26 l0_4 x4_1).f0), .int .i64 ((rd_T26 l0_4 x4_1).f1), .string ((rd_T26 l0_4 x4_1).f2), .slice A110_3 ((rd_T26 l0_4 x4_1).f3).length c110_3, .slice A110_4 ((rd_T26 l0_4 x4_1).f4).length c110_4]] (by rfl) rfl rfl (by (try simp only [List.map_toArray, List.map_cons, List.map_nil]); first | done | rfl | (simp only [List.length_drop, List.length_take]; rfl)) ?_
              with_reducible refine (ih k1 (by have := HK1.out; omega) ((rd_T26 l0_4 x4_1).f0) ((rd_T26 l0_4 x4_1).f1) ((rd_T26 l0_4 x4_1).f2) _ _ ((rd_T26 l0_4 x4_1).f3) _ _ ((rd_T26 l0_4 x4_1).f4) t111 t112 t113 t114 t117 _ ?side1 ?side2 ?side3 ?side4 A20.out).mono ?_
              (case side1 => repeat (first | exact (Kd.C_below HR110_3.out HB.out) | (with_reducible refine Kd.C_alloc ?_ _) | (with_reducible refine Kd.C_drewN ?_ _) | (with_reducible refine Kd.C_drew ?_)))
              (case side2 => exact HC110_3.out)
              (case side3 => repeat (first | exact (Kd.C_below HR110_4.out HB.out) | (with_reducible refine Kd.C_alloc ?_ _) | (with_reducible refine Kd.C_drewN ?_ _) | (with_reducible refine Kd.C_drew ?_)))
              (case side4 => exact HC110_4.out)
              rintro e w26 ⟨v115, v118, rfl, ho0, ho1, hb⟩
              refine ⟨_, rfl, ?_⟩
              have n0_ := Aside0.mk (Kd.R_elder' (by (with_reducible repeat (first | apply Kd.R_alloc | apply Kd.R_drewN | apply Kd.R_drew)); exact HO_110003.out) (Kd.R_base ho0) hb)
              have n1_ := Aside0.mk (Kd.R_mono (Kd.R_told (Kd.R_told (Kd.R_old (by (with_reducible repeat (first | apply Kd.R_alloc | apply Kd.R_drewN | apply Kd.R_drew)); exact HO_110004.out) hb) (Kd.R_base ho0)) (Kd.R_base ho1)) (fun _ h_ => h_.1))
              have n2_ := Aside0.mk (Kd.R_lower (Kd.R_new' ho0 (Kd.R_lt (by (with_reducible repeat (first | apply Kd.R_alloc | apply Kd.R_drewN | apply Kd.R_drew)); exact HO_110003.out))) (below_size (by repeat (first | (with_reducible first | exact HB.out | apply below_alloc | apply pw_below_drewN | apply below_drew1 | refine below_set ?_ GE101.out | refine below_set ?_ GE102.out | refine below_set ?_ GE109.out) | exact HB.out))))
              have n3_ := Aside0.mk (Kd.R_lower (Kd.R_newB (Kd.R_newB (Kd.R_new' (Kd.R_new' ho1 (Kd.R_lt (by (with_reducible repeat (first | apply Kd.R_alloc | apply Kd.R_drewN | apply Kd.R_drew)); exact HO_110003.out))) (Kd.R_lt (by (with_reducible repeat (first | apply Kd.R_alloc | apply Kd.R_drewN | apply Kd.R_drew)); exact HO_110004.out))) (g := gb102) (o := .cells #[.int .i64 0, .int .i64 0, .string (⟨#[]⟩ : ByteArray), .slice none 0 0, .slice none 0 0] 34 (0, 0)) (by (with_reducible repeat (first | refine blk_drewN ?_ _ | refine blk_drew ?_ | refine blk_alloc ?_ _)); exact BK102.out)) (g := gb109) (o := .cells #[.int .i64 a0_0, .int .i64 a0_1, .string a0_2, .slice Ao12 y106.length co12, u110004] 34 (0, 0)) (by (with_reducible repeat (first | refine blk_drewN ?_ _ | refine blk_drew ?_ | refine blk_alloc ?_ _)); exact BK109.out)) (below_size (by repeat (first | (with_reducible first | exact HB.out | apply below_alloc | apply pw_below_drewN | apply below_drew1 | refine below_set ?_ GE101.out | refine below_set ?_ GE102.out | refine below_set ?_ GE109.out) | exact HB.out))))
              have n4_ := Aside0.mk (blk_below (g := gb101) (o := .cells #[.int .i64 a0_0, .int .i64 a0_1, .string a0_2, .slice A0_3 l0_3.length c0_3, .slice (some ad110) l0_4.length c0_4] 26 (0, 0)) (by (with_reducible repeat (first | refine blk_drewN ?_ _ | refine blk_drew ?_ | refine blk_alloc ?_ _)); exact BK101.out) hb)
              have n5_ := Aside0.mk (blk_below (g := gb102) (o := .cells #[.int .i64 0, .int .i64 0, .string (⟨#[]⟩ : ByteArray), .slice none 0 0, .slice none 0 0] 34 (0, 0)) (by (with_reducible repeat (first | refine blk_drewN ?_ _ | refine blk_drew ?_ | refine blk_alloc ?_ _)); exact BK102.out) hb)
              have n6_ := Aside0.mk (blk_below (g := gb109) (o := .cells #[.int .i64 a0_0, .int .i64 a0_1, .string a0_2, .slice Ao12 y106.length co12, u110004] 34 (0, 0)) (by (with_reducible repeat (first | refine blk_drewN ?_ _ | refine blk_drew ?_ | refine blk_alloc ?_ _)); exact BK109.out) hb)
              have n7_ := Aside0.mk (below_step (by repeat (first | (with_reducible first | exact HB.out | apply below_alloc | apply pw_below_drewN | apply below_drew1 | refine below_set ?_ GE101.out | refine below_set ?_ GE102.out | refine below_set ?_ GE109.out) | exact HB.out)) hb)
              clear HO_110003
              clear HO_110004
              clear BK101
              clear BK102
              clear BK109
              clear HB
              have HO_110003 := n0_
              have HO_110004 := n1_
              have HO116 := n2_
              have HO119 := n3_
              have BK101 := n4_
              have BK102 := n5_
              have BK109 := n6_
              have HB := n7_
              clear n0_ n1_ n2_ n3_ n4_ n5_ n6_ n7_
              (try clear hb)
              (try clear hb2)
              (try clear hk)
              (try clear hi)
              (try clear ho0)
              (try clear ho1)
              obtain ⟨Ao28, co28, eo28⟩ := Kd.R_slice HO116.out
              (first | subst eo28 | (injection eo28 with f1_ f2_ f3_; have f4_ := f1_.symm; have f5_ := f3_.symm; clear f1_ f2_ f3_; subst f4_; subst f5_))
              obtain ⟨Ao29, co29, eo29⟩ := Kd.R_slice HO119.out
              (first | subst eo29 | (injection eo29 with f1_ f2_ f3_; have f4_ := f1_.symm; have f5_ := f3_.symm; clear f1_ f2_ f3_; subst f4_; subst f5_))
              refine hK.out _ _ ⟨(blk_cell BK109.out 0).trans rfl, (blk_cell BK109.out 1).trans rfl, (blk_cell BK109.out 2).trans rfl, (blk_cell BK109.out 3).trans rfl, (blk_cell BK109.out 4).trans rfl, (blk_cell BK101.out 0).trans rfl, (blk_cell BK101.out 1).trans rfl, (blk_cell BK101.out 2).trans rfl, (blk_cell BK101.out 3).trans rfl, (blk_cell BK101.out 4).trans rfl, ((HB.out.cell (World.block_lt_of_cell? w _ hw110_0)).trans hw110_0), ((HB.out.cell (World.block_lt_of_cell? w _ hw110_1)).trans hw110_1), ((HB.out.cell (World.block_lt_of_cell? w _ hw110_2)).trans hw110_2), ((HB.out.cell (World.block_lt_of_cell? w _ hw110_3)).trans hw110_3), ((HB.out.cell (World.block_lt_of_cell? w _ hw110_4)).trans hw110_4)⟩ (fun hHeld => ?_)
              clear hK K
              refine norm_ (a' := ?_) ?_ ?_
              rotate_left
              · show Act.put _ (some 30) _ = _
                simp only [Act.put, List.setIfInBounds_toArray, List.set_cons_zero, List.set_cons_succ, i64_w, i32_w]
                rfl
              refine one_ (i := 8) (N := some 31) #[true, true, true, true, true, true, true, true, true, false, false, false] rfl rfl (one_of HT_.out (by kernel_rfl)) (by decide) (fun K hK => ?_)
              refine value_ (w1 := ?_) (v := ?_) (by rfl) rfl ?_ ?_
              rotate_left 2
              · go_simp
                constructor
                · rfl
                · rfl
              refine hK.out _ _ ⟨(blk_cell (blk_alloc BK109.out _) 0).trans rfl, (blk_cell (blk_alloc BK109.out _) 1).trans rfl, (blk_cell (blk_alloc BK109.out _) 2).trans rfl, (blk_cell (blk_alloc BK109.out _) 3).trans rfl, (blk_cell (blk_alloc BK109.out _) 4).trans rfl, (blk_cell (blk_alloc BK101.out _) 0).trans rfl, (blk_cell (blk_alloc BK101.out _) 1).trans rfl, (blk_cell (blk_alloc BK101.out _) 2).trans rfl, (blk_cell (blk_alloc BK101.out _) 3).trans rfl, (blk_cell (blk_alloc BK101.out _) 4).trans rfl, (World.cell?_alloc_lt _ _ _ (World.block_lt_of_cell? _ _ (((HB.out.cell (World.block_lt_of_cell? w _ hw110_0)).trans hw110_0)))).trans (((HB.out.cell (World.block_lt_of_cell? w _ hw110_0)).trans hw110_0)), (World.cell?_alloc_lt _ _ _ (World.block_lt_of_cell? _ _ (((HB.out.cell (World.block_lt_of_cell? w _ hw110_1)).trans hw110_1)))).trans (((HB.out.cell (World.block_lt_of_cell? w _ hw110_1)).trans hw110_1)), (World.cell?_alloc_lt _ _ _ (World.block_lt_of_cell? _ _ (((HB.out.cell (World.block_lt_of_cell? w _ hw110_2)).trans hw110_2)))).trans (((HB.out.cell (World.block_lt_of_cell? w _ hw110_2)).trans hw110_2)), (World.cell?_alloc_lt _ _ _ (World.block_lt_of_cell? _ _ (((HB.out.cell (World.block_lt_of_cell? w _ hw110_3)).trans hw110_3)))).trans (((HB.out.cell (World.block_lt_of_cell? w _ hw110_3)).trans hw110_3)), (World.cell?_alloc_lt _ _ _ (World.block_lt_of_cell? _ _ (((HB.out.cell (World.block_lt_of_cell? w _ hw110_4)).trans hw110_4)))).trans (((HB.out.cell (World.block_lt_of_cell? w _ hw110_4)).trans hw110_4))⟩ (fun hHeld => ?_)
              clear hK K
              refine norm_ (a' := ?_) ?_ ?_
              rotate_left
              · show Act.put _ (some 31) _ = _
                simp only [Act.put, List.setIfInBounds_toArray, List.set_cons_zero, List.set_cons_succ, i64_w, i32_w]
                rfl
              refine one_ (i := 9) (N := some 32) #[true, true, true, true, true, true, true, true, true, true, false, false] rfl rfl (one_of HT_.out (by kernel_rfl)) (by decide) (fun K hK => ?_)
              refine Kd.R_append_step k34 (w0 := w) w.heap.size (by rfl) (.tmp 24) (.tmp 31) 32 34 (.agg #[(.int .i64 0), (.int .i64 0), (.string ⟨#[]⟩), (.slice none 0 0), (.slice none 0 0)]) 80 rfl Tryz.underlying32 info34 rfl (by decide) (by omega) u110004 x110004_1 (⟨t111, t112, t113, t114, t117⟩ : S34) [.int .i64 t111, .int .i64 t112, .string t113, .slice Ao28 t114.length co28, .slice Ao29 t117.length co29] (fun k_ => some k_ ≠ (.slice Ao12 y106.length co12 : Value).ownBlock ∧ k_ ≠ gb102 ∧ k_ ≠ gb109) (fun k_ => ((fun k_ => some k_ ≠ (.slice Ao12 y106.length co12 : Value).ownBlock ∧ k_ ≠ gb102 ∧ k_ ≠ gb109)) k_ ∧ some k_ ≠ (u110004 : Value).ownBlock) rfl rfl ?aP (fun _ hk => hk) ?aF ?aO ?aB ?aS ?aL ?_
              (case aP => exact k34_mkM _ _ _ (⟨t111, t112, t113, t114, t117⟩ : S34) (Kd.R_mono (Kd.R_types (Kd.R_types (Kd.R_apart' (HO116.out) (Kd.R_typed HO_110004.out) (by decide)) BK102.out (by decide)) BK109.out (by decide)) (fun k_ hk => ⟨⟨hk.1.1.1.2, ⟨hk.1.2, hk.2⟩⟩, hk.1.1.2⟩)) (Kd.R_mono (HO119.out) (fun k_ hk => ⟨⟨hk.1.1.1.2, ⟨hk.1.2, hk.2⟩⟩, hk.1.1.2⟩)))
              (case aB => exact (by repeat (first | (with_reducible first | exact HB.out | apply below_alloc | apply pw_below_drewN | apply below_drew1 | refine below_set ?_ GE101.out | refine below_set ?_ GE102.out | refine below_set ?_ GE109.out) | exact HB.out)))
              (case aF => exact (fun k_ hk => ⟨Kd.fresh' (Kd.R_lt (by (with_reducible repeat (first | apply Kd.R_alloc | apply Kd.R_drewN | apply Kd.R_drew)); exact HO_110003.out)) k_ hk, Kd.freshB (g := gb102) (o := .cells #[.int .i64 0, .int .i64 0, .string (⟨#[]⟩ : ByteArray), .slice none 0 0, .slice none 0 0] 34 (0, 0)) (by (with_reducible repeat (first | refine blk_drewN ?_ _ | refine blk_drew ?_ | refine blk_alloc ?_ _)); exact BK102.out) k_ hk, Kd.freshB (g := gb109) (o := .cells #[.int .i64 a0_0, .int .i64 a0_1, .string a0_2, .slice Ao12 y106.length co12, u110004] 34 (0, 0)) (by (with_reducible repeat (first | refine blk_drewN ?_ _ | refine blk_drew ?_ | refine blk_alloc ?_ _)); exact BK109.out) k_ hk⟩))
              (case aO => exact (by (with_reducible repeat (first | apply Kd.R_alloc | apply Kd.R_drewN | apply Kd.R_drew)); exact Kd.R_mono HO_110004.out (fun _ hk => ⟨hk.1.1.1, ⟨hk.1.1.2.1, hk.1.1.2.2⟩⟩)))
              (case aS => exact (below_size (by repeat (first | (with_reducible first | exact HB.out | apply below_alloc | apply pw_below_drewN | apply below_drew1 | refine below_set ?_ GE101.out | refine below_set ?_ GE102.out | refine below_set ?_ GE109.out) | exact HB.out))))
              (case aL => have := LMc21.out; omega)
              intro v121 w27 ho hb hg hat
              rw [← Ny120.out] at ho
              have n0_ := Aside0.mk (Kd.R_over' (by (with_reducible repeat (first | apply Kd.R_alloc | apply Kd.R_drewN | apply Kd.R_drew)); exact HO_110003.out) (Kd.R_typed (by (with_reducible repeat (first | apply Kd.R_alloc | apply Kd.R_drewN | apply Kd.R_drew)); exact HO_110004.out)) (by decide) hg)
              have n1_ := Aside0.mk (blk_grown (g := gb101) (o := .cells #[.int .i64 a0_0, .int .i64 a0_1, .string a0_2, .slice A0_3 l0_3.length c0_3, .slice (some ad110) l0_4.length c0_4] 26 (0, 0)) (by (with_reducible repeat (first | refine blk_drewN ?_ _ | refine blk_drew ?_ | refine blk_alloc ?_ _)); exact BK101.out) hg (Kd.R_ne HO_110004.out BK101.out (by decide)))
              have n2_ := Aside0.mk (blk_grown (g := gb102) (o := .cells #[.int .i64 0, .int .i64 0, .string (⟨#[]⟩ : ByteArray), .slice none 0 0, .slice none 0 0] 34 (0, 0)) (by (with_reducible repeat (first | refine blk_drewN ?_ _ | refine blk_drew ?_ | refine blk_alloc ?_ _)); exact BK102.out) hg (Kd.R_away HO_110004.out (fun _ hk => hk.1.1.2.1)))
              have n3_ := Aside0.mk (blk_grown (g := gb109) (o := .cells #[.int .i64 a0_0, .int .i64 a0_1, .string a0_2, .slice Ao12 y106.length co12, u110004] 34 (0, 0)) (by (with_reducible repeat (first | refine blk_drewN ?_ _ | refine blk_drew ?_ | refine blk_alloc ?_ _)); exact BK109.out) hg (Kd.R_away HO_110004.out (fun _ hk => hk.1.1.2.2)))
              have n4_ := Aside0.mk (hb)
              have n5_ := Aside0.mk (ho)
              clear HO_110003
              clear BK101
              clear BK102
              clear BK109
              clear HB
              clear HO_110004
              clear HO116
              clear HO119
              have HO_110003 := n0_
              have BK101 := n1_
              have BK102 := n2_
              have BK109 := n3_
              have HB := n4_
              have HO122 := n5_
              clear n0_ n1_ n2_ n3_ n4_ n5_
              clear ho hb hg hat
              obtain ⟨Ao30, co30, eo30⟩ := Kd.R_slice HO122.out
              (first | subst eo30 | (injection eo30 with f1_ f2_ f3_; have f4_ := f1_.symm; have f5_ := f3_.symm; clear f1_ f2_ f3_; subst f4_; subst f5_))
              refine hK.out _ _ ⟨(blk_cell BK109.out 0).trans rfl, (blk_cell BK109.out 1).trans rfl, (blk_cell BK109.out 2).trans rfl, (blk_cell BK109.out 3).trans rfl, (blk_cell BK109.out 4).trans rfl, (blk_cell BK101.out 0).trans rfl, (blk_cell BK101.out 1).trans rfl, (blk_cell BK101.out 2).trans rfl, (blk_cell BK101.out 3).trans rfl, (blk_cell BK101.out 4).trans rfl, ((HB.out.cell (World.block_lt_of_cell? w _ hw110_0)).trans hw110_0), ((HB.out.cell (World.block_lt_of_cell? w _ hw110_1)).trans hw110_1), ((HB.out.cell (World.block_lt_of_cell? w _ hw110_2)).trans hw110_2), ((HB.out.cell (World.block_lt_of_cell? w _ hw110_3)).trans hw110_3), ((HB.out.cell (World.block_lt_of_cell? w _ hw110_4)).trans hw110_4)⟩ (fun hHeld => ?_)
              clear hK K
              refine norm_ (a' := ?_) ?_ ?_
              rotate_left
              · show Act.put _ (some 32) _ = _
                simp only [Act.put, List.setIfInBounds_toArray, List.set_cons_zero, List.set_cons_succ, i64_w, i32_w]
                rfl
              refine pure_ (i := 10) (N := some 33) (v := ?_) (a' := ?_) #[true, true, true, true, true, true, true, true, true, true, true, false] rfl rfl (any_of HT_.out (by kernel_rfl)) (fun _ _ _ h => h) (Or.inl ⟨by rfl, ?_⟩) ?_ ?_
              rotate_left
              · intro w'
                go_simp
                with_reducible rfl
              rotate_left
              · simp only [Act.put, List.setIfInBounds_toArray, List.set_cons_zero, List.set_cons_succ, i64_w, i32_w]
                rfl
              refine last_ (i := 11) (N := none) #[true, true, true, true, true, true, true, true, true, true, true, true] rfl rfl (one_of HT_.out (by kernel_rfl)) (by decide) (fun K hK => ?_)
              have hs31 : w27.cell? ⟨gb109, 4, none⟩ = some (u110004) := (blk_cell BK109.out 4).trans rfl
              have hfs31 := blk_frozen BK109.out 4
              have hns31_0 := NB101_109.out
              have hns31_1 := NB102_109.out
              have hms31_0 := NB109_101.out
              have hms31_1 := NB109_102.out
              refine skip_ (w1 := ?_) (by rfl) rfl ?_ ?_
              rotate_left
              · go_simp
                rfl
              refine hK.out _ _ ?_
              clear hK K
              refine done_ (done_of HT_.out (by kernel_rfl)) ?_
              try go_wp2
              go_roundg k1
              case measure => have := HK1.out; omega
              case rel => exact ⟨(wrap64 (x4_1 + 1)), (y120), (.slice Ao30 y120.length co30), (by first | rfl | (simp; done) | (simp [*]; done)), H', ⟨by have := HK1.out; omega⟩, ⟨by (with_reducible repeat (first | apply Kd.R_alloc | apply Kd.R_drewN | apply Kd.R_drew)); exact Kd.R_mono (Kd.R_far (p := ⟨gb109, 4, none⟩) (Kd.R_types HO_110003.out BK109.out (by decide)) (fun _ hk => hk.2) (.slice Ao30 y120.length co30)) (fun _ hk => trivial)⟩, ⟨by (with_reducible repeat (first | apply Kd.R_alloc | apply Kd.R_drewN | apply Kd.R_drew)); exact Kd.R_mono (Kd.R_far (p := ⟨gb109, 4, none⟩) (Kd.R_mono HO122.out (fun k_ hk => (⟨hk, hk.2.2⟩ : _ ∧ k_ ≠ gb109))) (fun _ hk => hk.2) (.slice Ao30 y120.length co30)) (fun _ hk => ⟨hk.1.1, ⟨hk.1.2.1, hk.1.2.2⟩⟩)⟩, ⟨by (with_reducible repeat (first | refine blk_drewN ?_ _ | refine blk_drew ?_ | refine blk_alloc ?_ _)); refine blk_far ?_ NB101_109.out _; (with_reducible repeat (first | refine blk_drewN ?_ _ | refine blk_drew ?_ | refine blk_alloc ?_ _)); exact BK101.out⟩, ⟨by (with_reducible repeat (first | refine blk_drewN ?_ _ | refine blk_drew ?_ | refine blk_alloc ?_ _)); refine blk_far ?_ NB102_109.out _; (with_reducible repeat (first | refine blk_drewN ?_ _ | refine blk_drew ?_ | refine blk_alloc ?_ _)); exact BK102.out⟩, ⟨by (with_reducible repeat (first | refine blk_drewN ?_ _ | refine blk_drew ?_ | refine blk_alloc ?_ _)); refine blk_put (cs := #[.int .i64 a0_0, .int .i64 a0_1, .string a0_2, .slice Ao12 y106.length co12, u110004]) ?_ 4 _ rfl; (with_reducible repeat (first | refine blk_drewN ?_ _ | refine blk_drew ?_ | refine blk_alloc ?_ _)); exact BK109.out⟩, ⟨by repeat (first | (with_reducible first | exact HB.out | apply below_alloc | apply pw_below_drewN | apply below_drew1 | refine below_set ?_ GE101.out | refine below_set ?_ GE102.out | refine below_set ?_ GE109.out) | exact HB.out)⟩⟩
            · rw [if_neg c21] at H
              exact absurd H (by simp)
          · rw [if_neg c19] at H
            exact absurd H (by simp)
        · rw [if_neg c18] at H
          have c18b0 : decide (x4_1 < (l0_4.length : Int)) = false := decide_eq_false c18
          clear c18
          simp only [Option.some.injEq, Prod.mk.injEq] at H
          obtain ⟨rfl, rfl, rfl, rfl, rfl⟩ := H
          have hnb32 := NB101_102.out
          have hnc32 := NB102_101.out
          have hnb33 := NB101_109.out
          have hnc33 := NB109_101.out
          have hcz34_0 : wr.cell? ⟨gb101, 0, none⟩ = some (.int .i64 a0_0) := (blk_cell BK101.out 0).trans rfl
          have hcz34_1 : wr.cell? ⟨gb101, 1, none⟩ = some (.int .i64 a0_1) := (blk_cell BK101.out 1).trans rfl
          have hcz34_2 : wr.cell? ⟨gb101, 2, none⟩ = some (.string a0_2) := (blk_cell BK101.out 2).trans rfl
          have hcz34_3 : wr.cell? ⟨gb101, 3, none⟩ = some (.slice A0_3 l0_3.length c0_3) := (blk_cell BK101.out 3).trans rfl
          have hcz34_4 : wr.cell? ⟨gb101, 4, none⟩ = some (.slice A0_4 l0_4.length c0_4) := (blk_cell BK101.out 4).trans rfl
          have hfz34_0 := blk_frozen BK101.out 0
          have hfz34_1 := blk_frozen BK101.out 1
          have hfz34_2 := blk_frozen BK101.out 2
          have hfz34_3 := blk_frozen BK101.out 3
          have hfz34_4 := blk_frozen BK101.out 4
          have hnb35 := NB109_102.out
          have hnc35 := NB102_109.out
          have hcz36_0 : wr.cell? ⟨gb109, 0, none⟩ = some (.int .i64 a0_0) := (blk_cell BK109.out 0).trans rfl
          have hcz36_1 : wr.cell? ⟨gb109, 1, none⟩ = some (.int .i64 a0_1) := (blk_cell BK109.out 1).trans rfl
          have hcz36_2 : wr.cell? ⟨gb109, 2, none⟩ = some (.string a0_2) := (blk_cell BK109.out 2).trans rfl
          have hcz36_3 : wr.cell? ⟨gb109, 3, none⟩ = some (.slice Ao12 y106.length co12) := (blk_cell BK109.out 3).trans rfl
          have hcz36_4 : wr.cell? ⟨gb109, 4, none⟩ = some (u110004) := (blk_cell BK109.out 4).trans rfl
          have hfz36_0 := blk_frozen BK109.out 0
          have hfz36_1 := blk_frozen BK109.out 1
          have hfz36_2 := blk_frozen BK109.out 2
          have hfz36_3 := blk_frozen BK109.out 3
          have hfz36_4 := blk_frozen BK109.out 4
          have hcz37_0 : wr.cell? ⟨gb102, 0, none⟩ = some (.int .i64 0) := (blk_cell BK102.out 0).trans rfl
          have hcz37_1 : wr.cell? ⟨gb102, 1, none⟩ = some (.int .i64 0) := (blk_cell BK102.out 1).trans rfl
          have hcz37_2 : wr.cell? ⟨gb102, 2, none⟩ = some (.string (⟨#[]⟩ : ByteArray)) := (blk_cell BK102.out 2).trans rfl
          have hcz37_3 : wr.cell? ⟨gb102, 3, none⟩ = some (.slice none 0 0) := (blk_cell BK102.out 3).trans rfl
          have hcz37_4 : wr.cell? ⟨gb102, 4, none⟩ = some (.slice none 0 0) := (blk_cell BK102.out 4).trans rfl
          have hfz37_0 := blk_frozen BK102.out 0
          have hfz37_1 := blk_frozen BK102.out 1
          have hfz37_2 := blk_frozen BK102.out 2
          have hfz37_3 := blk_frozen BK102.out 3
          have hfz37_4 := blk_frozen BK102.out 4
          obtain ⟨Ao38, co38, eo38⟩ := Kd.R_slice HO_110004.out
          subst eo38
          go_wp2
          refine bodyPost_ret (results_cell_row rfl _ _ gb102 34 #[.int .i64 a0_0, .int .i64 a0_1, .string a0_2, .slice Ao12 y106.length co12, .slice Ao38 x110004_1.length co38] (0, 0) _ rfl (by (with_reducible repeat (first | refine blk_drewN ?_ _ | refine blk_drew ?_ | refine blk_alloc ?_ _)); refine blk_put (cs := #[.int .i64 a0_0, .int .i64 a0_1, .string a0_2, .slice Ao12 y106.length co12, .slice none 0 0]) ?_ 4 _ rfl; (with_reducible repeat (first | refine blk_drewN ?_ _ | refine blk_drew ?_ | refine blk_alloc ?_ _)); refine blk_put (cs := #[.int .i64 a0_0, .int .i64 a0_1, .string a0_2, .slice none 0 0, .slice none 0 0]) ?_ 3 _ rfl; (with_reducible repeat (first | refine blk_drewN ?_ _ | refine blk_drew ?_ | refine blk_alloc ?_ _)); refine blk_put (cs := #[.int .i64 a0_0, .int .i64 a0_1, .string (⟨#[]⟩ : ByteArray), .slice none 0 0, .slice none 0 0]) ?_ 2 _ rfl; (with_reducible repeat (first | refine blk_drewN ?_ _ | refine blk_drew ?_ | refine blk_alloc ?_ _)); refine blk_put (cs := #[.int .i64 a0_0, .int .i64 0, .string (⟨#[]⟩ : ByteArray), .slice none 0 0, .slice none 0 0]) ?_ 1 _ rfl; (with_reducible repeat (first | refine blk_drewN ?_ _ | refine blk_drew ?_ | refine blk_alloc ?_ _)); refine blk_put (cs := #[.int .i64 0, .int .i64 0, .string (⟨#[]⟩ : ByteArray), .slice none 0 0, .slice none 0 0]) ?_ 0 _ rfl; (with_reducible repeat (first | refine blk_drewN ?_ _ | refine blk_drew ?_ | refine blk_alloc ?_ _)); exact BK102.out) Tryz.underlying34 rfl (by kernel_rfl)) rfl ?_
          exact ⟨_, _, by first | rfl | (simp [errW_none, errW_some] <;> rfl) | (simp [*, errW_none, errW_some] <;> rfl), by (with_reducible repeat (first | apply Kd.R_alloc | apply Kd.R_drewN | apply Kd.R_drew)); exact Kd.R_mono (Kd.R_far (p := ⟨gb102, 4, none⟩) (Kd.R_far (p := ⟨gb102, 3, none⟩) (Kd.R_far (p := ⟨gb102, 2, none⟩) (Kd.R_far (p := ⟨gb102, 1, none⟩) (Kd.R_far (p := ⟨gb102, 0, none⟩) (Kd.R_types HO_110003.out BK102.out (by decide)) (fun _ hk => hk.2) (.int .i64 a0_0)) (fun _ hk => hk.2) (.int .i64 a0_1)) (fun _ hk => hk.2) (.string a0_2)) (fun _ hk => hk.2) (.slice Ao12 y106.length co12)) (fun _ hk => hk.2) (.slice Ao38 x110004_1.length co38)) (fun _ hk => trivial), by (with_reducible repeat (first | apply Kd.R_alloc | apply Kd.R_drewN | apply Kd.R_drew)); exact Kd.R_mono (Kd.R_far (p := ⟨gb102, 4, none⟩) (Kd.R_far (p := ⟨gb102, 3, none⟩) (Kd.R_far (p := ⟨gb102, 2, none⟩) (Kd.R_far (p := ⟨gb102, 1, none⟩) (Kd.R_far (p := ⟨gb102, 0, none⟩) (Kd.R_mono HO_110004.out (fun k_ hk => (⟨hk, hk.2.1⟩ : _ ∧ k_ ≠ gb102))) (fun _ hk => hk.2) (.int .i64 a0_0)) (fun _ hk => hk.2) (.int .i64 a0_1)) (fun _ hk => hk.2) (.string a0_2)) (fun _ hk => hk.2) (.slice Ao12 y106.length co12)) (fun _ hk => hk.2) (.slice Ao38 x110004_1.length co38)) (fun _ hk => hk.1.1), by repeat (first | (with_reducible first | exact HB.out | apply below_alloc | apply pw_below_drewN | apply below_drew1 | refine below_set ?_ GE101.out | refine below_set ?_ GE102.out | refine below_set ?_ GE109.out) | exact HB.out)⟩
  · rw [if_neg c2] at H
    exact absurd H (by simp)

end Go.Proofs.YtiamiagjkfioiaaGreatDoor.PT
-- Written by a program over the translation (xprint.py). Lean checks it.
namespace Go.Proofs.YtiamiagjkfioiaaGreatDoor.PT
open Go.RowKit Go.Proofs.YtiamiagjkfioiaaGreatDoorW.PrintWords Go.Proofs.YtiamiagjkfioiaaGreatDoorW.PrintLast Go.Proofs.YtiamiagjkfioiaaGreatDoorW.PrintMore
attribute [local go_sem] max2_int min2_int max_two min_two max_three min_three max_four min_four   -- for this text's walks alone
set_option linter.unusedVariables false
set_option linter.unusedSimpArgs false

/-! ### laws_from: function 16 -/
mutual
def laws_from.l0 : Nat → Int → Int → Int → ByteArray → List ByteArray → List (S34) → Int → Int → ByteArray → List ByteArray → List (S26) → Option (Int × Int × ByteArray × List ByteArray × (List (S26)))
  | 0, _, _, _, _, _, _, _, _, _, _, _ => none
  | k + 1, x4, x124000, x124001, x124002, x124003, x124004, x132000, x132001, x132002, x132003, x132004 => if x4 < (x124004.length : Int) then (if 0 ≤ x4 then ((laws_from.f k ((rd_T34 x124004 x4).f0) ((rd_T34 x124004 x4).f1) ((rd_T34 x124004 x4).f2) ((rd_T34 x124004 x4).f3) ((rd_T34 x124004 x4).f4)).bind fun bt133 => (if x132004.length < 1759218604441 then (laws_from.l0 k (wrap64 (x4 + 1)) x124000 x124001 x124002 x124003 x124004 x132000 x132001 x132002 x132003 (x132004 ++ [(⟨bt133.1, bt133.2.1, bt133.2.2.1, bt133.2.2.2.1, bt133.2.2.2.2⟩ : S26)])) else (none))) else (none)) else (some (x132000, x132001, x132002, x132003, x132004))
def laws_from.f : Nat → Int → Int → ByteArray → List ByteArray → List (S34) → Option (Int × Int × ByteArray × List ByteArray × (List (S26)))
  | 0, _, _, _, _, _ => none
  | k + 1, a0_0, a0_1, a0_2, l0_3, l0_4 => (some (([] : List ByteArray) : List ByteArray)).bind fun y125 => (if y125.length + l0_3.length < 8796093022208 then (laws_from.l0 k 0 a0_0 a0_1 a0_2 l0_3 l0_4 a0_0 a0_1 a0_2 (y125 ++ l0_3) ([] : List (S26))) else (none))
end
theorem laws_from.mono_l : ∀ k, (∀ y0 y1 y2 y3 y4, LeO (laws_from.f k y0 y1 y2 y3 y4) (laws_from.f (k + 1) y0 y1 y2 y3 y4)) ∧ (∀ y0 y1 y2 y3 y4 y5 y6 y7 y8 y9 y10, LeO (laws_from.l0 k y0 y1 y2 y3 y4 y5 y6 y7 y8 y9 y10) (laws_from.l0 (k + 1) y0 y1 y2 y3 y4 y5 y6 y7 y8 y9 y10))
  | 0 => ⟨fun _ _ _ _ _ r h => by simp [laws_from.f] at h, fun _ _ _ _ _ _ _ _ _ _ _ r h => by simp [laws_from.l0] at h⟩
  | k + 1 => by
    obtain ⟨ih0, ih1⟩ := laws_from.mono_l k
    refine ⟨?_, ?_⟩
    · intro y0 y1 y2 y3 y4
      unfold laws_from.f
      repeat' first
      | (with_reducible exact ih0 _ _ _ _ _)
      | (with_reducible exact ih1 _ _ _ _ _ _ _ _ _ _ _)
      | (with_reducible exact LeO.refl _)
      | (with_reducible exact LeO.none _)
      | (with_reducible refine LeO.ite ?_ ?_)
      | (with_reducible refine LeO.bind ?_ (fun _ => ?_))
      | exact ih0 _ _ _ _ _
      | exact ih1 _ _ _ _ _ _ _ _ _ _ _
      | exact LeO.none _
      | refine LeO.ite ?_ ?_
      | refine LeO.bind ?_ (fun _ => ?_)
    · intro y0 y1 y2 y3 y4 y5 y6 y7 y8 y9 y10
      unfold laws_from.l0
      repeat' first
      | (with_reducible exact ih0 _ _ _ _ _)
      | (with_reducible exact ih1 _ _ _ _ _ _ _ _ _ _ _)
      | (with_reducible exact LeO.refl _)
      | (with_reducible exact LeO.none _)
      | (with_reducible refine LeO.ite ?_ ?_)
      | (with_reducible refine LeO.bind ?_ (fun _ => ?_))
      | exact ih0 _ _ _ _ _
      | exact ih1 _ _ _ _ _ _ _ _ _ _ _
      | exact LeO.none _
      | refine LeO.ite ?_ ?_
      | refine LeO.bind ?_ (fun _ => ?_)
theorem laws_from.mono : ∀ a0 a1 a2 a3 a4 k, LeO (laws_from.f k a0 a1 a2 a3 a4) (laws_from.f (k + 1) a0 a1 a2 a3 a4) := by
  intro a0 a1 a2 a3 a4 k
  obtain ⟨ih0, ih1⟩ := laws_from.mono_l k
  exact ih0 a0 a1 a2 a3 a4
def laws_from.T1 : Bool × List (List Nat × List Nat) := (true, [([], []), ([0], [0]), ([], []), ([2], [2]), ([], []), ([4], [4]), ([], []), ([], []), ([7], [7]), ([6, 8], [6, 8]), ([1, 3, 5, 9], [1, 3, 5, 9]), ([], []), ([11, 10, 9, 0, 1, 2, 3, 4, 5, 6, 7, 8, 9, 10, 11], [10, 11])])
def laws_from.B1 : List Nat := [0, 1, 0, 4, 0, 16, 0, 0, 128, 448, 1023, 0, 4095]
theorem laws_from.tab1 : rtab .any (opsOf Tryz.f16 1) = laws_from.T1 := by kernel_rfl
theorem laws_from.bits1 : waitsOk laws_from.T1.2 laws_from.B1 = true := by kernel_rfl
def laws_from.T5 : Bool × List (List Nat × List Nat) := (true, [([], []), ([0], [0]), ([], []), ([2], [2]), ([], []), ([3, 4], [3, 4]), ([5], [5]), ([6], [6]), ([7], [7]), ([1, 8, 7], [1, 8]), ([0, 1, 2, 3, 4, 5, 6, 7, 8, 9], []), ([10, 9, 9, 0, 1, 2, 3, 4, 5, 6, 7, 8, 9], [9, 10])])
def laws_from.B5 : List Nat := [0, 1, 0, 4, 0, 28, 60, 124, 252, 511, 1023, 2047]
theorem laws_from.tab5 : rtab .any (opsOf Tryz.f16 5) = laws_from.T5 := by kernel_rfl
theorem laws_from.bits5 : waitsOk laws_from.T5.2 laws_from.B5 = true := by kernel_rfl
set_option maxHeartbeats 8000000 in
set_option maxRecDepth 100000 in
theorem laws_from.calls (k : Nat) : ∀ (a0_0 : Int) (a0_1 : Int) (a0_2 : ByteArray) (A0_3 : Option Addr) (c0_3 : Nat) (l0_3 : List ByteArray) (A0_4 : Option Addr) (c0_4 : Nat) (l0_4 : List (S34)) (r1 : Int) (r2 : Int) (r3 : ByteArray) (r4 : List ByteArray) (r5 : List (S26)) (w : World) (hr0_3 : Kd.C Kd.string w A0_3 l0_3.length l0_3) (hc0_3 : l0_3.length ≤ c0_3) (hr0_4 : Kd.C k34 w A0_4 l0_4.length l0_4) (hc0_4 : l0_4.length ≤ c0_4) (h : laws_from.f k a0_0 a0_1 a0_2 l0_3 l0_4 = some (r1, r2, r3, r4, r5)),
    Calls Tryz.prog 16 #[.agg #[.int .i64 a0_0, .int .i64 a0_1, .string a0_2, .slice A0_3 l0_3.length c0_3, .slice A0_4 l0_4.length c0_4]] w fun e w' => ∃ v3_ v4_ : Value, e = .returned (.agg #[.int .i64 r1, .int .i64 r2, .string r3, v3_, v4_]) ∧ Kd.R Kd.string 9 w' w.heap.size (fun _ => True) v3_ r4 ∧ Kd.R k26 26 w' w.heap.size (fun k_ => some k_ ≠ (v3_ : Value).ownBlock) v4_ r5 ∧ Below w.heap.size w w' := by
  induction k using Nat.strongRecOn with
  | _ k ih =>
  intro a0_0 a0_1 a0_2 A0_3 c0_3 l0_3 A0_4 c0_4 l0_4 r1 r2 r3 r4 r5 w hr0_3 hc0_3 hr0_4 hc0_4 h
  cases k with
  | zero => exact absurd h (by simp [laws_from.f])
  | succ k =>
  simp only [laws_from.f] at h
  have hu34 := Tryz.underlying34
  have hu26 := Tryz.underlying26
  have HR0_3 := Aside0.mk hr0_3
  have HC0_3 := Aside0.mk hc0_3
  clear hr0_3 hc0_3
  have HR0_4 := Aside0.mk hr0_4
  have HC0_4 := Aside0.mk hc0_4
  clear hr0_4 hc0_4
  have HB := Aside0.mk (Below.refl w.heap.size w)
  have H : ((some (([] : List ByteArray) : List ByteArray)).bind fun y125 => (if y125.length + l0_3.length < 8796093022208 then (laws_from.l0 k 0 a0_0 a0_1 a0_2 l0_3 l0_4 a0_0 a0_1 a0_2 (y125 ++ l0_3) ([] : List (S26))) else (none))) = some (r1, r2, r3, r4, r5) := h
  clear h
  obtain ⟨y125, hy125⟩ : ∃ y_ : List ByteArray, y_ = (([] : List ByteArray)) := ⟨_, rfl⟩
  replace H : (if y125.length + l0_3.length < 8796093022208 then (laws_from.l0 k 0 a0_0 a0_1 a0_2 l0_3 l0_4 a0_0 a0_1 a0_2 (y125 ++ l0_3) ([] : List (S26))) else (none)) = some (r1, r2, r3, r4, r5) := by first | (rw [hy125]; with_reducible exact H) | (have H2_ := (Option.bind_some _ _).symm.trans H; rw [hy125]; with_reducible exact H2_) | (have H2_ := (Option.bind_some _ _).symm.trans H; with_reducible exact H2_) | with_reducible exact H | (rw [hy125]; exact H) | exact H
  have Ny125 := Aside0.mk hy125
  clear hy125
  by_cases c2 : y125.length + l0_3.length < 8796093022208
  · rw [if_pos c2] at H
    have LMc2 := Aside0.mk c2
    clear c2
    obtain ⟨y128, hy128⟩ : ∃ y_ : List ByteArray, y_ = (y125 ++ l0_3) := ⟨_, rfl⟩
    replace H : (laws_from.l0 k 0 a0_0 a0_1 a0_2 l0_3 l0_4 a0_0 a0_1 a0_2 y128 ([] : List (S26))) = some (r1, r2, r3, r4, r5) := by first | (rw [hy128]; with_reducible exact H) | (have H2_ := (Option.bind_some _ _).symm.trans H; rw [hy128]; with_reducible exact H2_) | (have H2_ := (Option.bind_some _ _).symm.trans H; with_reducible exact H2_) | with_reducible exact H | (rw [hy128]; exact H) | exact H
    have Ny128 := Aside0.mk hy128
    clear hy128
    have H' := Aside0.mk H
    clear H
    go_enter Tryz.func16, Tryz.ntmps16
    try go_wp2_with (first | ((with_reducible refine gate_dst (N := 1) rfl ?_); refine box_event ?hg (N := 1) ?hd (cs := #[.int .i64 a0_0, .int .i64 a0_1, .string a0_2, .slice A0_3 l0_3.length c0_3, .slice A0_4 l0_4.length c0_4]) (t := 34) ?hr ?_; (case hd => rfl); (case hg => rfl); (case hr => first | (go_simp; done) | (go_simp; rfl)); intro gb123 hg w3 hbox hb; have n0_ := Aside0.mk (below_step (by repeat (first | (with_reducible first | exact HB.out | apply below_alloc | apply pw_below_drewN | apply below_drew1) | exact HB.out)) hb); have n1_ := Aside0.mk (hbox); have n2_ := Aside0.mk ((by rw [hg]; exact (below_size (by repeat (first | (with_reducible first | exact HB.out | apply below_alloc | apply pw_below_drewN | apply below_drew1) | exact HB.out))) : w.heap.size ≤ gb123)); have n3_ := Aside0.mk ((by rw [hg]; exact (below_size (by repeat (first | (with_reducible first | exact HB.out | apply below_alloc | apply pw_below_drewN | apply below_drew1) | exact HB.out))) : w.heap.size ≤ gb123)); clear HB; have HB := n0_; have BK123 := n1_; have GW123 := n2_; have GE123 := n3_; clear n0_ n1_ n2_ n3_; clear hb hbox hg) | ((with_reducible refine gate_dst (N := 2) rfl ?_); refine box_event ?hg (N := 2) ?hd (cs := #[.int .i64 0, .int .i64 0, .string (⟨#[]⟩ : ByteArray), .slice none 0 0, .slice none 0 0]) (t := 26) ?hr ?_; (case hd => rfl); (case hg => rfl); (case hr => first | (go_simp; done) | (go_simp; rfl)); intro gb124 hg w4 hbox hb; have n0_ := Aside0.mk (blk_below (g := gb123) (o := .cells #[.int .i64 a0_0, .int .i64 a0_1, .string a0_2, .slice A0_3 l0_3.length c0_3, .slice A0_4 l0_4.length c0_4] 34 (0, 0)) (by (with_reducible repeat (first | refine blk_drewN ?_ _ | refine blk_drew ?_ | refine blk_alloc ?_ _)); exact BK123.out) hb); have n1_ := Aside0.mk (below_step (by repeat (first | (with_reducible first | exact HB.out | apply below_alloc | apply pw_below_drewN | apply below_drew1 | refine below_set ?_ GE123.out) | exact HB.out)) hb); have n2_ := Aside0.mk (hbox); have n3_ := Aside0.mk ((by rw [hg]; exact (below_size (by repeat (first | (with_reducible first | exact HB.out | apply below_alloc | apply pw_below_drewN | apply below_drew1 | refine below_set ?_ GE123.out) | exact HB.out))) : w.heap.size ≤ gb124)); have n4_ := Aside0.mk ((by rw [hg]; exact (below_size (by repeat (first | (with_reducible first | exact HB.out | apply below_alloc | apply pw_below_drewN | apply below_drew1 | refine below_set ?_ GE123.out) | exact HB.out))) : w.heap.size ≤ gb124)); have n5_ := Aside0.mk ((by rw [hg]; exact Nat.ne_of_lt (blk_lt (g := gb123) (o := .cells #[.int .i64 a0_0, .int .i64 a0_1, .string a0_2, .slice A0_3 l0_3.length c0_3, .slice A0_4 l0_4.length c0_4] 34 (0, 0)) (by (with_reducible repeat (first | refine blk_drewN ?_ _ | refine blk_drew ?_ | refine blk_alloc ?_ _)); exact BK123.out)) : gb123 ≠ gb124)); have n6_ := Aside0.mk ((by rw [hg]; exact Nat.ne_of_gt (blk_lt (g := gb123) (o := .cells #[.int .i64 a0_0, .int .i64 a0_1, .string a0_2, .slice A0_3 l0_3.length c0_3, .slice A0_4 l0_4.length c0_4] 34 (0, 0)) (by (with_reducible repeat (first | refine blk_drewN ?_ _ | refine blk_drew ?_ | refine blk_alloc ?_ _)); exact BK123.out)) : gb124 ≠ gb123)); clear BK123; clear HB; have BK123 := n0_; have HB := n1_; have BK124 := n2_; have GW124 := n3_; have GE124 := n4_; have NB123_124 := n5_; have NB124_123 := n6_; clear n0_ n1_ n2_ n3_ n4_ n5_ n6_; clear hb hbox hg))
    have n0_ := Aside0.mk (blk_drew BK123.out)
    have n1_ := Aside0.mk (blk_drew BK124.out)
    have n2_ := Aside0.mk (below_drew1 HB.out)
    clear BK123
    clear BK124
    clear HB
    have BK123 := n0_
    have BK124 := n1_
    have HB := n2_
    clear n0_ n1_ n2_
    refine start_ (n := 13) (S := fun w' => w'.cell? ⟨gb123, 0, none⟩ = some (.int .i64 a0_0) ∧ w'.cell? ⟨gb123, 1, none⟩ = some (.int .i64 a0_1) ∧ w'.cell? ⟨gb123, 2, none⟩ = some (.string a0_2) ∧ w'.cell? ⟨gb123, 3, none⟩ = some (.slice A0_3 l0_3.length c0_3) ∧ w'.cell? ⟨gb123, 4, none⟩ = some (.slice A0_4 l0_4.length c0_4)) (ds := []) #[false, false, false, false, false, false, false, false, false, false, false, false, false] (by kernel_rfl) rfl rfl ⟨(blk_cell BK123.out 0).trans rfl, (blk_cell BK123.out 1).trans rfl, (blk_cell BK123.out 2).trans rfl, (blk_cell BK123.out 3).trans rfl, (blk_cell BK123.out 4).trans rfl⟩ (fun hHeld => ?_); refine with_tabW laws_from.tab1 laws_from.bits1 (fun HT_ HW_ => ?_)
    generalize w4.drew = w5 at BK123 BK124 HB hHeld ⊢
    refine pure_ (i := 0) (N := some 5) (v := ?_) (a' := ?_) #[true, false, false, false, false, false, false, false, false, false, false, false, false] rfl rfl (any_of HT_.out (by kernel_rfl)) (fun _ _ _ h => h) (Or.inl ⟨by rfl, ?_⟩) ?_ ?_
    rotate_left
    · intro w'
      go_simp
      with_reducible rfl
    rotate_left
    · simp only [Act.put, List.setIfInBounds_toArray, List.set_cons_zero, List.set_cons_succ, i64_w, i32_w]
      rfl
    refine pure_ (i := 2) (N := some 7) (v := ?_) (a' := ?_) #[true, false, true, false, false, false, false, false, false, false, false, false, false] rfl rfl (any_of HT_.out (by kernel_rfl)) (fun _ _ _ h => h) (Or.inl ⟨by rfl, ?_⟩) ?_ ?_
    rotate_left
    · intro w'
      go_simp
      with_reducible rfl
    rotate_left
    · simp only [Act.put, List.setIfInBounds_toArray, List.set_cons_zero, List.set_cons_succ, i64_w, i32_w]
      rfl
    refine pure_ (i := 4) (N := some 9) (v := ?_) (a' := ?_) #[true, false, true, false, true, false, false, false, false, false, false, false, false] rfl rfl (any_of HT_.out (by kernel_rfl)) (fun _ _ _ h => h) (Or.inl ⟨by rfl, ?_⟩) ?_ ?_
    rotate_left
    · intro w'
      go_simp
      with_reducible rfl
    rotate_left
    · simp only [Act.put, List.setIfInBounds_toArray, List.set_cons_zero, List.set_cons_succ, i64_w, i32_w]
      rfl
    refine pure_ (i := 7) (N := some 12) (v := ?_) (a' := ?_) #[true, false, true, false, true, false, false, true, false, false, false, false, false] rfl rfl (any_of HT_.out (by kernel_rfl)) (fun _ _ _ h => h) (Or.inl ⟨by rfl, ?_⟩) ?_ ?_
    rotate_left
    · intro w'
      go_simp
      with_reducible rfl
    rotate_left
    · simp only [Act.put, List.setIfInBounds_toArray, List.set_cons_zero, List.set_cons_succ, i64_w, i32_w]
      rfl
    refine take_ (i := 1) (N := some 6) (v := ?_) (a' := ?_) #[true, true, true, false, true, false, false, true, false, false, false, false, false] rfl rfl (take_ofW HT_.out HW_.out (by kernel_rfl)) (fun _ _ _ h => h) (Or.inl ⟨by rfl, ?_⟩) hHeld ?_ ?_
    rotate_left
    · rintro w' ⟨s0, s1, s2, s3, s4⟩
      go_simp
      with_reducible rfl
    rotate_left
    · simp only [Act.put, List.setIfInBounds_toArray, List.set_cons_zero, List.set_cons_succ, i64_w, i32_w]
      rfl
    refine take_ (i := 3) (N := some 8) (v := ?_) (a' := ?_) #[true, true, true, true, true, false, false, true, false, false, false, false, false] rfl rfl (take_ofW HT_.out HW_.out (by kernel_rfl)) (fun _ _ _ h => h) (Or.inl ⟨by rfl, ?_⟩) hHeld ?_ ?_
    rotate_left
    · rintro w' ⟨s0, s1, s2, s3, s4⟩
      go_simp
      with_reducible rfl
    rotate_left
    · simp only [Act.put, List.setIfInBounds_toArray, List.set_cons_zero, List.set_cons_succ, i64_w, i32_w]
      rfl
    refine take_ (i := 5) (N := some 10) (v := ?_) (a' := ?_) #[true, true, true, true, true, true, false, true, false, false, false, false, false] rfl rfl (take_ofW HT_.out HW_.out (by kernel_rfl)) (fun _ _ _ h => h) (Or.inl ⟨by rfl, ?_⟩) hHeld ?_ ?_
    rotate_left
    · rintro w' ⟨s0, s1, s2, s3, s4⟩
      go_simp
      with_reducible rfl
    rotate_left
    · simp only [Act.put, List.setIfInBounds_toArray, List.set_cons_zero, List.set_cons_succ, i64_w, i32_w]
      rfl
    refine take_ (i := 8) (N := some 13) (v := ?_) (a' := ?_) #[true, true, true, true, true, true, false, true, true, false, false, false, false] rfl rfl (take_ofW HT_.out HW_.out (by kernel_rfl)) (fun _ _ _ h => h) (Or.inl ⟨by rfl, ?_⟩) hHeld ?_ ?_
    rotate_left
    · rintro w' ⟨s0, s1, s2, s3, s4⟩
      go_simp
      with_reducible rfl
    rotate_left
    · simp only [Act.put, List.setIfInBounds_toArray, List.set_cons_zero, List.set_cons_succ, i64_w, i32_w]
      rfl
    refine join_ (σ := Value × Value × Nat) 1 #[true, true, true, true, true, true, true, true, true, true, true, true, false] (fun s_ => [(11, s_.1), (14, s_.2.1), (3, .pointer (some ⟨s_.2.2, 0, none⟩)), (15, .agg #[.int .i64 a0_0, .int .i64 a0_1, .string a0_2, s_.2.1, .slice none 0 0])]) (fun s_ w' => (w'.cell? ⟨gb123, 0, none⟩ = some (.int .i64 a0_0) ∧ w'.cell? ⟨gb123, 1, none⟩ = some (.int .i64 a0_1) ∧ w'.cell? ⟨gb123, 2, none⟩ = some (.string a0_2) ∧ w'.cell? ⟨gb123, 3, none⟩ = some (.slice A0_3 l0_3.length c0_3) ∧ w'.cell? ⟨gb123, 4, none⟩ = some (.slice A0_4 l0_4.length c0_4)) ∧ (Kd.R Kd.string 9 w' w.heap.size (fun _ => True) s_.2.1 y128) ∧ (w'.heap[gb123]? = some (.cells #[.int .i64 a0_0, .int .i64 a0_1, .string a0_2, .slice A0_3 l0_3.length c0_3, .slice A0_4 l0_4.length c0_4] 34 (0, 0))) ∧ (w'.heap[gb124]? = some (.cells #[.int .i64 0, .int .i64 0, .string (⟨#[]⟩ : ByteArray), .slice none 0 0, .slice none 0 0] 26 (0, 0))) ∧ (w'.heap[s_.2.2]? = some (.cells #[.int .i64 0, .int .i64 0, .string (⟨#[]⟩ : ByteArray), .slice none 0 0, .slice none 0 0] 26 (0, 0))) ∧ (w.heap.size ≤ s_.2.2) ∧ (w.heap.size ≤ s_.2.2) ∧ (gb123 ≠ s_.2.2) ∧ (s_.2.2 ≠ gb123) ∧ (gb124 ≠ s_.2.2) ∧ (s_.2.2 ≠ gb124) ∧ (Below w.heap.size w w')) ?_ ?_
    rotate_left
    · intro hCont
      refine two_ (i := 6) (j := 11) (Ni := some 11) (Nj := some 3) #[true, true, true, true, true, true, true, true, true, false, false, false, false] #[true, true, true, true, true, true, false, true, true, false, false, true, false] rfl rfl rfl rfl (two_of HT_.out (by kernel_rfl)) (by decide) (by decide) (fun K hK => ?_) (fun K hK => ?_)
      · skip
        refine Kd.R_lit_step Kd.string _ 9 ?hg (N := 11) ?hd (xs := ([] : List ByteArray)) (inner := []) (ok := fun _ => True) (okp := fun _ => True) ?hr ?hp (fun _ hk => hk) trivial (Below.refl _ _) (Nat.le_refl _) (by simp) ?_; (case hd => rfl); (case hg => rfl); (case hr => first | (go_simp; done) | (go_simp; rfl)); (case hp => exact (Reps.none _ _))
        intro v126 w6 ho7 hb hg_ hnew_
        clear hg_ hnew_
        (first | rw [← Ny125.out] at ho7 | (simp only [Int.reduceToNat] at ho7; rw [← Ny125.out] at ho7))
        have n0_ := Aside0.mk (Kd.R_lower ho7 (below_size (by repeat (first | (with_reducible first | exact HB.out | apply below_alloc | apply pw_below_drewN | apply below_drew1 | refine below_set ?_ GE123.out | refine below_set ?_ GE124.out) | exact HB.out))))
        have n1_ := Aside0.mk (blk_below (g := gb123) (o := .cells #[.int .i64 a0_0, .int .i64 a0_1, .string a0_2, .slice A0_3 l0_3.length c0_3, .slice A0_4 l0_4.length c0_4] 34 (0, 0)) (by (with_reducible repeat (first | refine blk_drewN ?_ _ | refine blk_drew ?_ | refine blk_alloc ?_ _)); exact BK123.out) hb)
        have n2_ := Aside0.mk (blk_below (g := gb124) (o := .cells #[.int .i64 0, .int .i64 0, .string (⟨#[]⟩ : ByteArray), .slice none 0 0, .slice none 0 0] 26 (0, 0)) (by (with_reducible repeat (first | refine blk_drewN ?_ _ | refine blk_drew ?_ | refine blk_alloc ?_ _)); exact BK124.out) hb)
        have n3_ := Aside0.mk (below_step (by repeat (first | (with_reducible first | exact HB.out | apply below_alloc | apply pw_below_drewN | apply below_drew1 | refine below_set ?_ GE123.out | refine below_set ?_ GE124.out) | exact HB.out)) hb)
        clear BK123
        clear BK124
        clear HB
        have HO127 := n0_
        have BK123 := n1_
        have BK124 := n2_
        have HB := n3_
        clear n0_ n1_ n2_ n3_
        clear hb ho7
        refine hK.out _ _ ⟨(blk_cell BK123.out 0).trans rfl, (blk_cell BK123.out 1).trans rfl, (blk_cell BK123.out 2).trans rfl, (blk_cell BK123.out 3).trans rfl, (blk_cell BK123.out 4).trans rfl⟩ (fun hHeld => ?_)
        clear hK K
        refine norm_ (a' := ?_) ?_ ?_
        rotate_left
        · show Act.put _ (some 11) _ = _
          simp only [Act.put, List.setIfInBounds_toArray, List.set_cons_zero, List.set_cons_succ, i64_w, i32_w]
          rfl
        refine two_ (i := 9) (j := 11) (Ni := some 14) (Nj := some 3) #[true, true, true, true, true, true, true, true, true, true, false, false, false] #[true, true, true, true, true, true, true, true, true, false, false, true, false] rfl rfl rfl rfl (two_of HT_.out (by kernel_rfl)) (by decide) (by decide) (fun K hK => ?_) (fun K hK => ?_)
        · skip
          refine Kd.R_append_rows_step Kd.string (w0 := w) w.heap.size (by rfl) (.tmp 11) (.tmp 13) 22 9 (.string ⟨#[]⟩) 16 rfl Tryz.underlying22 info9 rfl (by decide) (by omega) v126 y125 l0_3 _ _ _ (fun _ => True) (fun _ => False) rfl rfl ?aO ?aR (fun _ _ h => h) (fun _ h => h.elim) ?aF ?aB ?aS ?aL ?_
          (case aR => repeat (first | exact (Kd.C_below HR0_3.out HB.out) | (with_reducible refine Kd.C_alloc ?_ _) | (with_reducible refine Kd.C_drewN ?_ _) | (with_reducible refine Kd.C_drew ?_)))
          (case aB => exact (by repeat (first | (with_reducible first | exact HB.out | apply below_alloc | apply pw_below_drewN | apply below_drew1 | refine below_set ?_ GE123.out | refine below_set ?_ GE124.out) | exact HB.out)))
          (case aF => exact (fun _ _ => trivial))
          (case aO => exact (by (with_reducible repeat (first | apply Kd.R_alloc | apply Kd.R_drewN | apply Kd.R_drew)); exact HO127.out))
          (case aS => exact (below_size (by repeat (first | (with_reducible first | exact HB.out | apply below_alloc | apply pw_below_drewN | apply below_drew1 | refine below_set ?_ GE123.out | refine below_set ?_ GE124.out) | exact HB.out))))
          (case aL => have := LMc2.out; omega)
          intro v129 w8 ho hb hg hat
          rw [← Ny128.out] at ho
          have n0_ := Aside0.mk (blk_grown (g := gb123) (o := .cells #[.int .i64 a0_0, .int .i64 a0_1, .string a0_2, .slice A0_3 l0_3.length c0_3, .slice A0_4 l0_4.length c0_4] 34 (0, 0)) (by (with_reducible repeat (first | refine blk_drewN ?_ _ | refine blk_drew ?_ | refine blk_alloc ?_ _)); exact BK123.out) hg (Kd.R_ne HO127.out BK123.out (by decide)))
          have n1_ := Aside0.mk (blk_grown (g := gb124) (o := .cells #[.int .i64 0, .int .i64 0, .string (⟨#[]⟩ : ByteArray), .slice none 0 0, .slice none 0 0] 26 (0, 0)) (by (with_reducible repeat (first | refine blk_drewN ?_ _ | refine blk_drew ?_ | refine blk_alloc ?_ _)); exact BK124.out) hg (Kd.R_ne HO127.out BK124.out (by decide)))
          have n2_ := Aside0.mk (hb)
          have n3_ := Aside0.mk (ho)
          clear BK123
          clear BK124
          clear HB
          clear HO127
          have BK123 := n0_
          have BK124 := n1_
          have HB := n2_
          have HO130 := n3_
          clear n0_ n1_ n2_ n3_
          clear ho hb hg hat
          obtain ⟨Ao9, co9, eo9⟩ := Kd.R_slice HO130.out
          (first | subst eo9 | (injection eo9 with f1_ f2_ f3_; have f4_ := f1_.symm; have f5_ := f3_.symm; clear f1_ f2_ f3_; subst f4_; subst f5_))
          refine hK.out _ _ ⟨(blk_cell BK123.out 0).trans rfl, (blk_cell BK123.out 1).trans rfl, (blk_cell BK123.out 2).trans rfl, (blk_cell BK123.out 3).trans rfl, (blk_cell BK123.out 4).trans rfl⟩ (fun hHeld => ?_)
          clear hK K
          refine norm_ (a' := ?_) ?_ ?_
          rotate_left
          · show Act.put _ (some 14) _ = _
            simp only [Act.put, List.setIfInBounds_toArray, List.set_cons_zero, List.set_cons_succ, i64_w, i32_w]
            rfl
          refine pure_ (i := 10) (N := some 15) (v := ?_) (a' := ?_) #[true, true, true, true, true, true, true, true, true, true, true, false, false] rfl rfl (any_of HT_.out (by kernel_rfl)) (fun _ _ _ h => h) (Or.inl ⟨by rfl, ?_⟩) ?_ ?_
          rotate_left
          · intro w'
            go_simp
            with_reducible rfl
          rotate_left
          · simp only [Act.put, List.setIfInBounds_toArray, List.set_cons_zero, List.set_cons_succ, i64_w, i32_w]
            rfl
          refine one_ (i := 11) (N := some 3) #[true, true, true, true, true, true, true, true, true, true, true, true, false] rfl rfl (one_of HT_.out (by kernel_rfl)) (by decide) (fun K hK => ?_)
          refine box_step ?hg (N := 3) ?hd (cs := #[.int .i64 0, .int .i64 0, .string (⟨#[]⟩ : ByteArray), .slice none 0 0, .slice none 0 0]) (t := 26) ?hr ?_; (case hd => rfl); (case hg => rfl); (case hr => first | (go_simp; done) | (go_simp; rfl))
          intro gb131 hg w10 hbox hb
          have n0_ := Aside0.mk (Kd.R_below (by (with_reducible repeat (first | apply Kd.R_alloc | apply Kd.R_drewN | apply Kd.R_drew)); exact HO130.out) hb)
          have n1_ := Aside0.mk (blk_below (g := gb123) (o := .cells #[.int .i64 a0_0, .int .i64 a0_1, .string a0_2, .slice A0_3 l0_3.length c0_3, .slice A0_4 l0_4.length c0_4] 34 (0, 0)) (by (with_reducible repeat (first | refine blk_drewN ?_ _ | refine blk_drew ?_ | refine blk_alloc ?_ _)); exact BK123.out) hb)
          have n2_ := Aside0.mk (blk_below (g := gb124) (o := .cells #[.int .i64 0, .int .i64 0, .string (⟨#[]⟩ : ByteArray), .slice none 0 0, .slice none 0 0] 26 (0, 0)) (by (with_reducible repeat (first | refine blk_drewN ?_ _ | refine blk_drew ?_ | refine blk_alloc ?_ _)); exact BK124.out) hb)
          have n3_ := Aside0.mk (below_step (by repeat (first | (with_reducible first | exact HB.out | apply below_alloc | apply pw_below_drewN | apply below_drew1 | refine below_set ?_ GE123.out | refine below_set ?_ GE124.out) | exact HB.out)) hb)
          have n4_ := Aside0.mk (hbox)
          have n5_ := Aside0.mk ((by rw [hg]; exact (below_size (by repeat (first | (with_reducible first | exact HB.out | apply below_alloc | apply pw_below_drewN | apply below_drew1 | refine below_set ?_ GE123.out | refine below_set ?_ GE124.out) | exact HB.out))) : w.heap.size ≤ gb131))
          have n6_ := Aside0.mk ((by rw [hg]; exact (below_size (by repeat (first | (with_reducible first | exact HB.out | apply below_alloc | apply pw_below_drewN | apply below_drew1 | refine below_set ?_ GE123.out | refine below_set ?_ GE124.out) | exact HB.out))) : w.heap.size ≤ gb131))
          have n7_ := Aside0.mk ((by rw [hg]; exact Nat.ne_of_lt (blk_lt (g := gb123) (o := .cells #[.int .i64 a0_0, .int .i64 a0_1, .string a0_2, .slice A0_3 l0_3.length c0_3, .slice A0_4 l0_4.length c0_4] 34 (0, 0)) (by (with_reducible repeat (first | refine blk_drewN ?_ _ | refine blk_drew ?_ | refine blk_alloc ?_ _)); exact BK123.out)) : gb123 ≠ gb131))
          have n8_ := Aside0.mk ((by rw [hg]; exact Nat.ne_of_gt (blk_lt (g := gb123) (o := .cells #[.int .i64 a0_0, .int .i64 a0_1, .string a0_2, .slice A0_3 l0_3.length c0_3, .slice A0_4 l0_4.length c0_4] 34 (0, 0)) (by (with_reducible repeat (first | refine blk_drewN ?_ _ | refine blk_drew ?_ | refine blk_alloc ?_ _)); exact BK123.out)) : gb131 ≠ gb123))
          have n9_ := Aside0.mk ((by rw [hg]; exact Nat.ne_of_lt (blk_lt (g := gb124) (o := .cells #[.int .i64 0, .int .i64 0, .string (⟨#[]⟩ : ByteArray), .slice none 0 0, .slice none 0 0] 26 (0, 0)) (by (with_reducible repeat (first | refine blk_drewN ?_ _ | refine blk_drew ?_ | refine blk_alloc ?_ _)); exact BK124.out)) : gb124 ≠ gb131))
          have n10_ := Aside0.mk ((by rw [hg]; exact Nat.ne_of_gt (blk_lt (g := gb124) (o := .cells #[.int .i64 0, .int .i64 0, .string (⟨#[]⟩ : ByteArray), .slice none 0 0, .slice none 0 0] 26 (0, 0)) (by (with_reducible repeat (first | refine blk_drewN ?_ _ | refine blk_drew ?_ | refine blk_alloc ?_ _)); exact BK124.out)) : gb131 ≠ gb124))
          clear HO130
          clear BK123
          clear BK124
          clear HB
          have HO130 := n0_
          have BK123 := n1_
          have BK124 := n2_
          have HB := n3_
          have BK131 := n4_
          have GW131 := n5_
          have GE131 := n6_
          have NB123_131 := n7_
          have NB131_123 := n8_
          have NB124_131 := n9_
          have NB131_124 := n10_
          clear n0_ n1_ n2_ n3_ n4_ n5_ n6_ n7_ n8_ n9_ n10_
          clear hb hbox hg
          refine hK.out _ _ ⟨(blk_cell BK123.out 0).trans rfl, (blk_cell BK123.out 1).trans rfl, (blk_cell BK123.out 2).trans rfl, (blk_cell BK123.out 3).trans rfl, (blk_cell BK123.out 4).trans rfl⟩ (fun hHeld => ?_)
          clear hK K
          refine norm_ (a' := ?_) ?_ ?_
          rotate_left
          · show Act.put _ (some 3) _ = _
            simp only [Act.put, List.setIfInBounds_toArray, List.set_cons_zero, List.set_cons_succ, i64_w, i32_w]
            rfl
          exact norm_ (by simp only [putAll, Act.put, List.setIfInBounds_toArray, List.set_cons_zero, List.set_cons_succ]) (hCont (v126, .slice Ao9 y128.length co9, gb131) _ ⟨hHeld, (by (with_reducible repeat (first | apply Kd.R_alloc | apply Kd.R_drewN | apply Kd.R_drew)); exact HO130.out), (by (with_reducible repeat (first | refine blk_drewN ?_ _ | refine blk_drew ?_ | refine blk_alloc ?_ _)); exact BK123.out), (by (with_reducible repeat (first | refine blk_drewN ?_ _ | refine blk_drew ?_ | refine blk_alloc ?_ _)); exact BK124.out), (by (with_reducible repeat (first | refine blk_drewN ?_ _ | refine blk_drew ?_ | refine blk_alloc ?_ _)); exact BK131.out), GW131.out, GE131.out, NB123_131.out, NB131_123.out, NB124_131.out, NB131_124.out, (by repeat (first | (with_reducible first | exact HB.out | apply below_alloc | apply pw_below_drewN | apply below_drew1 | refine below_set ?_ GE123.out | refine below_set ?_ GE124.out | refine below_set ?_ GE131.out) | exact HB.out))⟩)
        · skip
          refine box_step ?hg (N := 3) ?hd (cs := #[.int .i64 0, .int .i64 0, .string (⟨#[]⟩ : ByteArray), .slice none 0 0, .slice none 0 0]) (t := 26) ?hr ?_; (case hd => rfl); (case hg => rfl); (case hr => first | (go_simp; done) | (go_simp; rfl))
          intro gb131 hg w8 hbox hb
          have n0_ := Aside0.mk (Kd.R_below (by (with_reducible repeat (first | apply Kd.R_alloc | apply Kd.R_drewN | apply Kd.R_drew)); exact HO127.out) hb)
          have n1_ := Aside0.mk (blk_below (g := gb123) (o := .cells #[.int .i64 a0_0, .int .i64 a0_1, .string a0_2, .slice A0_3 l0_3.length c0_3, .slice A0_4 l0_4.length c0_4] 34 (0, 0)) (by (with_reducible repeat (first | refine blk_drewN ?_ _ | refine blk_drew ?_ | refine blk_alloc ?_ _)); exact BK123.out) hb)
          have n2_ := Aside0.mk (blk_below (g := gb124) (o := .cells #[.int .i64 0, .int .i64 0, .string (⟨#[]⟩ : ByteArray), .slice none 0 0, .slice none 0 0] 26 (0, 0)) (by (with_reducible repeat (first | refine blk_drewN ?_ _ | refine blk_drew ?_ | refine blk_alloc ?_ _)); exact BK124.out) hb)
          have n3_ := Aside0.mk (below_step (by repeat (first | (with_reducible first | exact HB.out | apply below_alloc | apply pw_below_drewN | apply below_drew1 | refine below_set ?_ GE123.out | refine below_set ?_ GE124.out) | exact HB.out)) hb)
          have n4_ := Aside0.mk (hbox)
          have n5_ := Aside0.mk ((by rw [hg]; exact (below_size (by repeat (first | (with_reducible first | exact HB.out | apply below_alloc | apply pw_below_drewN | apply below_drew1 | refine below_set ?_ GE123.out | refine below_set ?_ GE124.out) | exact HB.out))) : w.heap.size ≤ gb131))
          have n6_ := Aside0.mk ((by rw [hg]; exact (below_size (by repeat (first | (with_reducible first | exact HB.out | apply below_alloc | apply pw_below_drewN | apply below_drew1 | refine below_set ?_ GE123.out | refine below_set ?_ GE124.out) | exact HB.out))) : w.heap.size ≤ gb131))
          have n7_ := Aside0.mk ((by rw [hg]; exact Nat.ne_of_lt (blk_lt (g := gb123) (o := .cells #[.int .i64 a0_0, .int .i64 a0_1, .string a0_2, .slice A0_3 l0_3.length c0_3, .slice A0_4 l0_4.length c0_4] 34 (0, 0)) (by (with_reducible repeat (first | refine blk_drewN ?_ _ | refine blk_drew ?_ | refine blk_alloc ?_ _)); exact BK123.out)) : gb123 ≠ gb131))
          have n8_ := Aside0.mk ((by rw [hg]; exact Nat.ne_of_gt (blk_lt (g := gb123) (o := .cells #[.int .i64 a0_0, .int .i64 a0_1, .string a0_2, .slice A0_3 l0_3.length c0_3, .slice A0_4 l0_4.length c0_4] 34 (0, 0)) (by (with_reducible repeat (first | refine blk_drewN ?_ _ | refine blk_drew ?_ | refine blk_alloc ?_ _)); exact BK123.out)) : gb131 ≠ gb123))
          have n9_ := Aside0.mk ((by rw [hg]; exact Nat.ne_of_lt (blk_lt (g := gb124) (o := .cells #[.int .i64 0, .int .i64 0, .string (⟨#[]⟩ : ByteArray), .slice none 0 0, .slice none 0 0] 26 (0, 0)) (by (with_reducible repeat (first | refine blk_drewN ?_ _ | refine blk_drew ?_ | refine blk_alloc ?_ _)); exact BK124.out)) : gb124 ≠ gb131))
          have n10_ := Aside0.mk ((by rw [hg]; exact Nat.ne_of_gt (blk_lt (g := gb124) (o := .cells #[.int .i64 0, .int .i64 0, .string (⟨#[]⟩ : ByteArray), .slice none 0 0, .slice none 0 0] 26 (0, 0)) (by (with_reducible repeat (first | refine blk_drewN ?_ _ | refine blk_drew ?_ | refine blk_alloc ?_ _)); exact BK124.out)) : gb131 ≠ gb124))
          clear HO127
          clear BK123
          clear BK124
          clear HB
          have HO127 := n0_
          have BK123 := n1_
          have BK124 := n2_
          have HB := n3_
          have BK131 := n4_
          have GW131 := n5_
          have GE131 := n6_
          have NB123_131 := n7_
          have NB131_123 := n8_
          have NB124_131 := n9_
          have NB131_124 := n10_
          clear n0_ n1_ n2_ n3_ n4_ n5_ n6_ n7_ n8_ n9_ n10_
          clear hb hbox hg
          refine hK.out _ _ ⟨(blk_cell BK123.out 0).trans rfl, (blk_cell BK123.out 1).trans rfl, (blk_cell BK123.out 2).trans rfl, (blk_cell BK123.out 3).trans rfl, (blk_cell BK123.out 4).trans rfl⟩ (fun hHeld => ?_)
          clear hK K
          refine norm_ (a' := ?_) ?_ ?_
          rotate_left
          · show Act.put _ (some 3) _ = _
            simp only [Act.put, List.setIfInBounds_toArray, List.set_cons_zero, List.set_cons_succ, i64_w, i32_w]
            rfl
          refine one_ (i := 9) (N := some 14) #[true, true, true, true, true, true, true, true, true, true, false, true, false] rfl rfl (one_of HT_.out (by kernel_rfl)) (by decide) (fun K hK => ?_)
          refine Kd.R_append_rows_step Kd.string (w0 := w) w.heap.size (by rfl) (.tmp 11) (.tmp 13) 22 9 (.string ⟨#[]⟩) 16 rfl Tryz.underlying22 info9 rfl (by decide) (by omega) v126 y125 l0_3 _ _ _ (fun _ => True) (fun _ => False) rfl rfl ?aO ?aR (fun _ _ h => h) (fun _ h => h.elim) ?aF ?aB ?aS ?aL ?_
          (case aR => repeat (first | exact (Kd.C_below HR0_3.out HB.out) | (with_reducible refine Kd.C_alloc ?_ _) | (with_reducible refine Kd.C_drewN ?_ _) | (with_reducible refine Kd.C_drew ?_)))
          (case aB => exact (by repeat (first | (with_reducible first | exact HB.out | apply below_alloc | apply pw_below_drewN | apply below_drew1 | refine below_set ?_ GE123.out | refine below_set ?_ GE124.out | refine below_set ?_ GE131.out) | exact HB.out)))
          (case aF => exact (fun _ _ => trivial))
          (case aO => exact (by (with_reducible repeat (first | apply Kd.R_alloc | apply Kd.R_drewN | apply Kd.R_drew)); exact HO127.out))
          (case aS => exact (below_size (by repeat (first | (with_reducible first | exact HB.out | apply below_alloc | apply pw_below_drewN | apply below_drew1 | refine below_set ?_ GE123.out | refine below_set ?_ GE124.out | refine below_set ?_ GE131.out) | exact HB.out))))
          (case aL => have := LMc2.out; omega)
          intro v129 w9 ho hb hg hat
          rw [← Ny128.out] at ho
          have n0_ := Aside0.mk (blk_grown (g := gb123) (o := .cells #[.int .i64 a0_0, .int .i64 a0_1, .string a0_2, .slice A0_3 l0_3.length c0_3, .slice A0_4 l0_4.length c0_4] 34 (0, 0)) (by (with_reducible repeat (first | refine blk_drewN ?_ _ | refine blk_drew ?_ | refine blk_alloc ?_ _)); exact BK123.out) hg (Kd.R_ne HO127.out BK123.out (by decide)))
          have n1_ := Aside0.mk (blk_grown (g := gb124) (o := .cells #[.int .i64 0, .int .i64 0, .string (⟨#[]⟩ : ByteArray), .slice none 0 0, .slice none 0 0] 26 (0, 0)) (by (with_reducible repeat (first | refine blk_drewN ?_ _ | refine blk_drew ?_ | refine blk_alloc ?_ _)); exact BK124.out) hg (Kd.R_ne HO127.out BK124.out (by decide)))
          have n2_ := Aside0.mk (blk_grown (g := gb131) (o := .cells #[.int .i64 0, .int .i64 0, .string (⟨#[]⟩ : ByteArray), .slice none 0 0, .slice none 0 0] 26 (0, 0)) (by (with_reducible repeat (first | refine blk_drewN ?_ _ | refine blk_drew ?_ | refine blk_alloc ?_ _)); exact BK131.out) hg (Kd.R_ne HO127.out BK131.out (by decide)))
          have n3_ := Aside0.mk (hb)
          have n4_ := Aside0.mk (ho)
          clear BK123
          clear BK124
          clear BK131
          clear HB
          clear HO127
          have BK123 := n0_
          have BK124 := n1_
          have BK131 := n2_
          have HB := n3_
          have HO130 := n4_
          clear n0_ n1_ n2_ n3_ n4_
          clear ho hb hg hat
          obtain ⟨Ao10, co10, eo10⟩ := Kd.R_slice HO130.out
          (first | subst eo10 | (injection eo10 with f1_ f2_ f3_; have f4_ := f1_.symm; have f5_ := f3_.symm; clear f1_ f2_ f3_; subst f4_; subst f5_))
          refine hK.out _ _ ⟨(blk_cell BK123.out 0).trans rfl, (blk_cell BK123.out 1).trans rfl, (blk_cell BK123.out 2).trans rfl, (blk_cell BK123.out 3).trans rfl, (blk_cell BK123.out 4).trans rfl⟩ (fun hHeld => ?_)
          clear hK K
          refine norm_ (a' := ?_) ?_ ?_
          rotate_left
          · show Act.put _ (some 14) _ = _
            simp only [Act.put, List.setIfInBounds_toArray, List.set_cons_zero, List.set_cons_succ, i64_w, i32_w]
            rfl
          refine pure_ (i := 10) (N := some 15) (v := ?_) (a' := ?_) #[true, true, true, true, true, true, true, true, true, true, true, true, false] rfl rfl (any_of HT_.out (by kernel_rfl)) (fun _ _ _ h => h) (Or.inl ⟨by rfl, ?_⟩) ?_ ?_
          rotate_left
          · intro w'
            go_simp
            with_reducible rfl
          rotate_left
          · simp only [Act.put, List.setIfInBounds_toArray, List.set_cons_zero, List.set_cons_succ, i64_w, i32_w]
            rfl
          exact norm_ (by simp only [putAll, Act.put, List.setIfInBounds_toArray, List.set_cons_zero, List.set_cons_succ]) (hCont (v126, .slice Ao10 y128.length co10, gb131) _ ⟨hHeld, (by (with_reducible repeat (first | apply Kd.R_alloc | apply Kd.R_drewN | apply Kd.R_drew)); exact HO130.out), (by (with_reducible repeat (first | refine blk_drewN ?_ _ | refine blk_drew ?_ | refine blk_alloc ?_ _)); exact BK123.out), (by (with_reducible repeat (first | refine blk_drewN ?_ _ | refine blk_drew ?_ | refine blk_alloc ?_ _)); exact BK124.out), (by (with_reducible repeat (first | refine blk_drewN ?_ _ | refine blk_drew ?_ | refine blk_alloc ?_ _)); exact BK131.out), GW131.out, GE131.out, NB123_131.out, NB131_123.out, NB124_131.out, NB131_124.out, (by repeat (first | (with_reducible first | exact HB.out | apply below_alloc | apply pw_below_drewN | apply below_drew1 | refine below_set ?_ GE123.out | refine below_set ?_ GE124.out | refine below_set ?_ GE131.out) | exact HB.out))⟩)
      · skip
        refine box_step ?hg (N := 3) ?hd (cs := #[.int .i64 0, .int .i64 0, .string (⟨#[]⟩ : ByteArray), .slice none 0 0, .slice none 0 0]) (t := 26) ?hr ?_; (case hd => rfl); (case hg => rfl); (case hr => first | (go_simp; done) | (go_simp; rfl))
        intro gb131 hg w6 hbox hb
        have n0_ := Aside0.mk (blk_below (g := gb123) (o := .cells #[.int .i64 a0_0, .int .i64 a0_1, .string a0_2, .slice A0_3 l0_3.length c0_3, .slice A0_4 l0_4.length c0_4] 34 (0, 0)) (by (with_reducible repeat (first | refine blk_drewN ?_ _ | refine blk_drew ?_ | refine blk_alloc ?_ _)); exact BK123.out) hb)
        have n1_ := Aside0.mk (blk_below (g := gb124) (o := .cells #[.int .i64 0, .int .i64 0, .string (⟨#[]⟩ : ByteArray), .slice none 0 0, .slice none 0 0] 26 (0, 0)) (by (with_reducible repeat (first | refine blk_drewN ?_ _ | refine blk_drew ?_ | refine blk_alloc ?_ _)); exact BK124.out) hb)
        have n2_ := Aside0.mk (below_step (by repeat (first | (with_reducible first | exact HB.out | apply below_alloc | apply pw_below_drewN | apply below_drew1 | refine below_set ?_ GE123.out | refine below_set ?_ GE124.out) | exact HB.out)) hb)
        have n3_ := Aside0.mk (hbox)
        have n4_ := Aside0.mk ((by rw [hg]; exact (below_size (by repeat (first | (with_reducible first | exact HB.out | apply below_alloc | apply pw_below_drewN | apply below_drew1 | refine below_set ?_ GE123.out | refine below_set ?_ GE124.out) | exact HB.out))) : w.heap.size ≤ gb131))
        have n5_ := Aside0.mk ((by rw [hg]; exact (below_size (by repeat (first | (with_reducible first | exact HB.out | apply below_alloc | apply pw_below_drewN | apply below_drew1 | refine below_set ?_ GE123.out | refine below_set ?_ GE124.out) | exact HB.out))) : w.heap.size ≤ gb131))
        have n6_ := Aside0.mk ((by rw [hg]; exact Nat.ne_of_lt (blk_lt (g := gb123) (o := .cells #[.int .i64 a0_0, .int .i64 a0_1, .string a0_2, .slice A0_3 l0_3.length c0_3, .slice A0_4 l0_4.length c0_4] 34 (0, 0)) (by (with_reducible repeat (first | refine blk_drewN ?_ _ | refine blk_drew ?_ | refine blk_alloc ?_ _)); exact BK123.out)) : gb123 ≠ gb131))
        have n7_ := Aside0.mk ((by rw [hg]; exact Nat.ne_of_gt (blk_lt (g := gb123) (o := .cells #[.int .i64 a0_0, .int .i64 a0_1, .string a0_2, .slice A0_3 l0_3.length c0_3, .slice A0_4 l0_4.length c0_4] 34 (0, 0)) (by (with_reducible repeat (first | refine blk_drewN ?_ _ | refine blk_drew ?_ | refine blk_alloc ?_ _)); exact BK123.out)) : gb131 ≠ gb123))
        have n8_ := Aside0.mk ((by rw [hg]; exact Nat.ne_of_lt (blk_lt (g := gb124) (o := .cells #[.int .i64 0, .int .i64 0, .string (⟨#[]⟩ : ByteArray), .slice none 0 0, .slice none 0 0] 26 (0, 0)) (by (with_reducible repeat (first | refine blk_drewN ?_ _ | refine blk_drew ?_ | refine blk_alloc ?_ _)); exact BK124.out)) : gb124 ≠ gb131))
        have n9_ := Aside0.mk ((by rw [hg]; exact Nat.ne_of_gt (blk_lt (g := gb124) (o := .cells #[.int .i64 0, .int .i64 0, .string (⟨#[]⟩ : ByteArray), .slice none 0 0, .slice none 0 0] 26 (0, 0)) (by (with_reducible repeat (first | refine blk_drewN ?_ _ | refine blk_drew ?_ | refine blk_alloc ?_ _)); exact BK124.out)) : gb131 ≠ gb124))
        clear BK123
        clear BK124
        clear HB
        have BK123 := n0_
        have BK124 := n1_
        have HB := n2_
        have BK131 := n3_
        have GW131 := n4_
        have GE131 := n5_
        have NB123_131 := n6_
        have NB131_123 := n7_
        have NB124_131 := n8_
        have NB131_124 := n9_
        clear n0_ n1_ n2_ n3_ n4_ n5_ n6_ n7_ n8_ n9_
        clear hb hbox hg
        refine hK.out _ _ ⟨(blk_cell BK123.out 0).trans rfl, (blk_cell BK123.out 1).trans rfl, (blk_cell BK123.out 2).trans rfl, (blk_cell BK123.out 3).trans rfl, (blk_cell BK123.out 4).trans rfl⟩ (fun hHeld => ?_)
        clear hK K
        refine norm_ (a' := ?_) ?_ ?_
        rotate_left
        · show Act.put _ (some 3) _ = _
          simp only [Act.put, List.setIfInBounds_toArray, List.set_cons_zero, List.set_cons_succ, i64_w, i32_w]
          rfl
        refine one_ (i := 6) (N := some 11) #[true, true, true, true, true, true, true, true, true, false, false, true, false] rfl rfl (one_of HT_.out (by kernel_rfl)) (by decide) (fun K hK => ?_)
        refine Kd.R_lit_step Kd.string _ 9 ?hg (N := 11) ?hd (xs := ([] : List ByteArray)) (inner := []) (ok := fun _ => True) (okp := fun _ => True) ?hr ?hp (fun _ hk => hk) trivial (Below.refl _ _) (Nat.le_refl _) (by simp) ?_; (case hd => rfl); (case hg => rfl); (case hr => first | (go_simp; done) | (go_simp; rfl)); (case hp => exact (Reps.none _ _))
        intro v126 w7 ho8 hb hg_ hnew_
        clear hg_ hnew_
        (first | rw [← Ny125.out] at ho8 | (simp only [Int.reduceToNat] at ho8; rw [← Ny125.out] at ho8))
        have n0_ := Aside0.mk (Kd.R_lower ho8 (below_size (by repeat (first | (with_reducible first | exact HB.out | apply below_alloc | apply pw_below_drewN | apply below_drew1 | refine below_set ?_ GE123.out | refine below_set ?_ GE124.out | refine below_set ?_ GE131.out) | exact HB.out))))
        have n1_ := Aside0.mk (blk_below (g := gb123) (o := .cells #[.int .i64 a0_0, .int .i64 a0_1, .string a0_2, .slice A0_3 l0_3.length c0_3, .slice A0_4 l0_4.length c0_4] 34 (0, 0)) (by (with_reducible repeat (first | refine blk_drewN ?_ _ | refine blk_drew ?_ | refine blk_alloc ?_ _)); exact BK123.out) hb)
        have n2_ := Aside0.mk (blk_below (g := gb124) (o := .cells #[.int .i64 0, .int .i64 0, .string (⟨#[]⟩ : ByteArray), .slice none 0 0, .slice none 0 0] 26 (0, 0)) (by (with_reducible repeat (first | refine blk_drewN ?_ _ | refine blk_drew ?_ | refine blk_alloc ?_ _)); exact BK124.out) hb)
        have n3_ := Aside0.mk (blk_below (g := gb131) (o := .cells #[.int .i64 0, .int .i64 0, .string (⟨#[]⟩ : ByteArray), .slice none 0 0, .slice none 0 0] 26 (0, 0)) (by (with_reducible repeat (first | refine blk_drewN ?_ _ | refine blk_drew ?_ | refine blk_alloc ?_ _)); exact BK131.out) hb)
        have n4_ := Aside0.mk (below_step (by repeat (first | (with_reducible first | exact HB.out | apply below_alloc | apply pw_below_drewN | apply below_drew1 | refine below_set ?_ GE123.out | refine below_set ?_ GE124.out | refine below_set ?_ GE131.out) | exact HB.out)) hb)
        clear BK123
        clear BK124
        clear BK131
        clear HB
        have HO127 := n0_
        have BK123 := n1_
        have BK124 := n2_
        have BK131 := n3_
        have HB := n4_
        clear n0_ n1_ n2_ n3_ n4_
        clear hb ho8
        refine hK.out _ _ ⟨(blk_cell BK123.out 0).trans rfl, (blk_cell BK123.out 1).trans rfl, (blk_cell BK123.out 2).trans rfl, (blk_cell BK123.out 3).trans rfl, (blk_cell BK123.out 4).trans rfl⟩ (fun hHeld => ?_)
        clear hK K
        refine norm_ (a' := ?_) ?_ ?_
        rotate_left
        · show Act.put _ (some 11) _ = _
          simp only [Act.put, List.setIfInBounds_toArray, List.set_cons_zero, List.set_cons_succ, i64_w, i32_w]
          rfl
        refine one_ (i := 9) (N := some 14) #[true, true, true, true, true, true, true, true, true, true, false, true, false] rfl rfl (one_of HT_.out (by kernel_rfl)) (by decide) (fun K hK => ?_)
        refine Kd.R_append_rows_step Kd.string (w0 := w) w.heap.size (by rfl) (.tmp 11) (.tmp 13) 22 9 (.string ⟨#[]⟩) 16 rfl Tryz.underlying22 info9 rfl (by decide) (by omega) v126 y125 l0_3 _ _ _ (fun _ => True) (fun _ => False) rfl rfl ?aO ?aR (fun _ _ h => h) (fun _ h => h.elim) ?aF ?aB ?aS ?aL ?_
        (case aR => repeat (first | exact (Kd.C_below HR0_3.out HB.out) | (with_reducible refine Kd.C_alloc ?_ _) | (with_reducible refine Kd.C_drewN ?_ _) | (with_reducible refine Kd.C_drew ?_)))
        (case aB => exact (by repeat (first | (with_reducible first | exact HB.out | apply below_alloc | apply pw_below_drewN | apply below_drew1 | refine below_set ?_ GE123.out | refine below_set ?_ GE124.out | refine below_set ?_ GE131.out) | exact HB.out)))
        (case aF => exact (fun _ _ => trivial))
        (case aO => exact (by (with_reducible repeat (first | apply Kd.R_alloc | apply Kd.R_drewN | apply Kd.R_drew)); exact HO127.out))
        (case aS => exact (below_size (by repeat (first | (with_reducible first | exact HB.out | apply below_alloc | apply pw_below_drewN | apply below_drew1 | refine below_set ?_ GE123.out | refine below_set ?_ GE124.out | refine below_set ?_ GE131.out) | exact HB.out))))
        (case aL => have := LMc2.out; omega)
        intro v129 w9 ho hb hg hat
        rw [← Ny128.out] at ho
        have n0_ := Aside0.mk (blk_grown (g := gb123) (o := .cells #[.int .i64 a0_0, .int .i64 a0_1, .string a0_2, .slice A0_3 l0_3.length c0_3, .slice A0_4 l0_4.length c0_4] 34 (0, 0)) (by (with_reducible repeat (first | refine blk_drewN ?_ _ | refine blk_drew ?_ | refine blk_alloc ?_ _)); exact BK123.out) hg (Kd.R_ne HO127.out BK123.out (by decide)))
        have n1_ := Aside0.mk (blk_grown (g := gb124) (o := .cells #[.int .i64 0, .int .i64 0, .string (⟨#[]⟩ : ByteArray), .slice none 0 0, .slice none 0 0] 26 (0, 0)) (by (with_reducible repeat (first | refine blk_drewN ?_ _ | refine blk_drew ?_ | refine blk_alloc ?_ _)); exact BK124.out) hg (Kd.R_ne HO127.out BK124.out (by decide)))
        have n2_ := Aside0.mk (blk_grown (g := gb131) (o := .cells #[.int .i64 0, .int .i64 0, .string (⟨#[]⟩ : ByteArray), .slice none 0 0, .slice none 0 0] 26 (0, 0)) (by (with_reducible repeat (first | refine blk_drewN ?_ _ | refine blk_drew ?_ | refine blk_alloc ?_ _)); exact BK131.out) hg (Kd.R_ne HO127.out BK131.out (by decide)))
        have n3_ := Aside0.mk (hb)
        have n4_ := Aside0.mk (ho)
        clear BK123
        clear BK124
        clear BK131
        clear HB
        clear HO127
        have BK123 := n0_
        have BK124 := n1_
        have BK131 := n2_
        have HB := n3_
        have HO130 := n4_
        clear n0_ n1_ n2_ n3_ n4_
        clear ho hb hg hat
        obtain ⟨Ao10, co10, eo10⟩ := Kd.R_slice HO130.out
        (first | subst eo10 | (injection eo10 with f1_ f2_ f3_; have f4_ := f1_.symm; have f5_ := f3_.symm; clear f1_ f2_ f3_; subst f4_; subst f5_))
        refine hK.out _ _ ⟨(blk_cell BK123.out 0).trans rfl, (blk_cell BK123.out 1).trans rfl, (blk_cell BK123.out 2).trans rfl, (blk_cell BK123.out 3).trans rfl, (blk_cell BK123.out 4).trans rfl⟩ (fun hHeld => ?_)
        clear hK K
        refine norm_ (a' := ?_) ?_ ?_
        rotate_left
        · show Act.put _ (some 14) _ = _
          simp only [Act.put, List.setIfInBounds_toArray, List.set_cons_zero, List.set_cons_succ, i64_w, i32_w]
          rfl
        refine pure_ (i := 10) (N := some 15) (v := ?_) (a' := ?_) #[true, true, true, true, true, true, true, true, true, true, true, true, false] rfl rfl (any_of HT_.out (by kernel_rfl)) (fun _ _ _ h => h) (Or.inl ⟨by rfl, ?_⟩) ?_ ?_
        rotate_left
        · intro w'
          go_simp
          with_reducible rfl
        rotate_left
        · simp only [Act.put, List.setIfInBounds_toArray, List.set_cons_zero, List.set_cons_succ, i64_w, i32_w]
          rfl
        exact norm_ (by simp only [putAll, Act.put, List.setIfInBounds_toArray, List.set_cons_zero, List.set_cons_succ]) (hCont (v126, .slice Ao10 y128.length co10, gb131) _ ⟨hHeld, (by (with_reducible repeat (first | apply Kd.R_alloc | apply Kd.R_drewN | apply Kd.R_drew)); exact HO130.out), (by (with_reducible repeat (first | refine blk_drewN ?_ _ | refine blk_drew ?_ | refine blk_alloc ?_ _)); exact BK123.out), (by (with_reducible repeat (first | refine blk_drewN ?_ _ | refine blk_drew ?_ | refine blk_alloc ?_ _)); exact BK124.out), (by (with_reducible repeat (first | refine blk_drewN ?_ _ | refine blk_drew ?_ | refine blk_alloc ?_ _)); exact BK131.out), GW131.out, GE131.out, NB123_131.out, NB131_123.out, NB124_131.out, NB131_124.out, (by repeat (first | (with_reducible first | exact HB.out | apply below_alloc | apply pw_below_drewN | apply below_drew1 | refine below_set ?_ GE123.out | refine below_set ?_ GE124.out | refine below_set ?_ GE131.out) | exact HB.out))⟩)
    rintro ⟨v126, v129, gb131⟩ w11 ⟨hS_, h0_, h1_, h2_, h3_, h4_, h5_, h6_, h7_, h8_, h9_, h10_⟩
    have n0_ : Aside0 (Kd.R Kd.string 9 w11 w.heap.size (fun _ => True) v129 y128) := ⟨h0_⟩
    have n1_ : Aside0 (w11.heap[gb123]? = some (.cells #[.int .i64 a0_0, .int .i64 a0_1, .string a0_2, .slice A0_3 l0_3.length c0_3, .slice A0_4 l0_4.length c0_4] 34 (0, 0))) := ⟨h1_⟩
    have n2_ : Aside0 (w11.heap[gb124]? = some (.cells #[.int .i64 0, .int .i64 0, .string (⟨#[]⟩ : ByteArray), .slice none 0 0, .slice none 0 0] 26 (0, 0))) := ⟨h2_⟩
    have n3_ : Aside0 (w11.heap[gb131]? = some (.cells #[.int .i64 0, .int .i64 0, .string (⟨#[]⟩ : ByteArray), .slice none 0 0, .slice none 0 0] 26 (0, 0))) := ⟨h3_⟩
    have n4_ : Aside0 (w.heap.size ≤ gb131) := ⟨h4_⟩
    have n5_ : Aside0 (w.heap.size ≤ gb131) := ⟨h5_⟩
    have n6_ : Aside0 (gb123 ≠ gb131) := ⟨h6_⟩
    have n7_ : Aside0 (gb131 ≠ gb123) := ⟨h7_⟩
    have n8_ : Aside0 (gb124 ≠ gb131) := ⟨h8_⟩
    have n9_ : Aside0 (gb131 ≠ gb124) := ⟨h9_⟩
    have n10_ : Aside0 (Below w.heap.size w w11) := ⟨h10_⟩
    clear BK123
    clear BK124
    clear HB
    clear h0_ h1_ h2_ h3_ h4_ h5_ h6_ h7_ h8_ h9_ h10_
    have HO130 := n0_
    have BK123 := n1_
    have BK124 := n2_
    have BK131 := n3_
    have GW131 := n4_
    have GE131 := n5_
    have NB123_131 := n6_
    have NB131_123 := n7_
    have NB124_131 := n8_
    have NB131_124 := n9_
    have HB := n10_
    clear n0_ n1_ n2_ n3_ n4_ n5_ n6_ n7_ n8_ n9_ n10_
    have hHeld : w11.cell? ⟨gb123, 0, none⟩ = some (.int .i64 a0_0) ∧ w11.cell? ⟨gb123, 1, none⟩ = some (.int .i64 a0_1) ∧ w11.cell? ⟨gb123, 2, none⟩ = some (.string a0_2) ∧ w11.cell? ⟨gb123, 3, none⟩ = some (.slice A0_3 l0_3.length c0_3) ∧ w11.cell? ⟨gb123, 4, none⟩ = some (.slice A0_4 l0_4.length c0_4) := hS_
    obtain ⟨Ao12, co12, eo12⟩ := Kd.R_slice HO130.out
    (first | subst eo12 | (injection eo12 with f1_ f2_ f3_; have f4_ := f1_.symm; have f5_ := f3_.symm; clear f1_ f2_ f3_; subst f4_; subst f5_))
    refine norm_ (a' := ?_) ?_ ?_
    rotate_left
    · simp only [putAll, Act.put, List.setIfInBounds_toArray, List.set_cons_zero, List.set_cons_succ]
      rfl
    refine one_ (i := 12) (N := none) #[true, true, true, true, true, true, true, true, true, true, true, true, true] rfl rfl (one_of HT_.out (by kernel_rfl)) (by decide) (fun K hK => ?_)
    have hs13 : w11.cell? ⟨gb131, 0, none⟩ = some (.int .i64 0) := (blk_cell BK131.out 0).trans rfl
    have hfs13 := blk_frozen BK131.out 0
    have hns13_0 := NB123_131.out
    have hns13_1 := NB124_131.out
    have hms13_0 := NB131_123.out
    have hms13_1 := NB131_124.out
    have hs14 : w11.cell? ⟨gb131, 1, none⟩ = some (.int .i64 0) := (blk_cell BK131.out 1).trans rfl
    have hfs14 := blk_frozen BK131.out 1
    have hns14_0 := NB123_131.out
    have hns14_1 := NB124_131.out
    have hms14_0 := NB131_123.out
    have hms14_1 := NB131_124.out
    have hs15 : w11.cell? ⟨gb131, 2, none⟩ = some (.string (⟨#[]⟩ : ByteArray)) := (blk_cell BK131.out 2).trans rfl
    have hfs15 := blk_frozen BK131.out 2
    have hns15_0 := NB123_131.out
    have hns15_1 := NB124_131.out
    have hms15_0 := NB131_123.out
    have hms15_1 := NB131_124.out
    have hs16 : w11.cell? ⟨gb131, 3, none⟩ = some (.slice none 0 0) := (blk_cell BK131.out 3).trans rfl
    have hfs16 := blk_frozen BK131.out 3
    have hns16_0 := NB123_131.out
    have hns16_1 := NB124_131.out
    have hms16_0 := NB131_123.out
    have hms16_1 := NB131_124.out
    have hs17 : w11.cell? ⟨gb131, 4, none⟩ = some (.slice none 0 0) := (blk_cell BK131.out 4).trans rfl
    have hfs17 := blk_frozen BK131.out 4
    have hns17_0 := NB123_131.out
    have hns17_1 := NB124_131.out
    have hms17_0 := NB131_123.out
    have hms17_1 := NB131_124.out
    refine skip_ (w1 := ?_) (by rfl) rfl ?_ ?_
    rotate_left
    · go_simp
      rfl
    refine hK.out _ _ ⟨((cell_far (p := ⟨gb131, _, none⟩) NB123_131.out _).trans (((cell_far (p := ⟨gb131, _, none⟩) NB123_131.out _).trans (((cell_far (p := ⟨gb131, _, none⟩) NB123_131.out _).trans (((cell_far (p := ⟨gb131, _, none⟩) NB123_131.out _).trans (((cell_far (p := ⟨gb131, _, none⟩) NB123_131.out _).trans (hHeld.1)))))))))), ((cell_far (p := ⟨gb131, _, none⟩) NB123_131.out _).trans (((cell_far (p := ⟨gb131, _, none⟩) NB123_131.out _).trans (((cell_far (p := ⟨gb131, _, none⟩) NB123_131.out _).trans (((cell_far (p := ⟨gb131, _, none⟩) NB123_131.out _).trans (((cell_far (p := ⟨gb131, _, none⟩) NB123_131.out _).trans (hHeld.2.1)))))))))), ((cell_far (p := ⟨gb131, _, none⟩) NB123_131.out _).trans (((cell_far (p := ⟨gb131, _, none⟩) NB123_131.out _).trans (((cell_far (p := ⟨gb131, _, none⟩) NB123_131.out _).trans (((cell_far (p := ⟨gb131, _, none⟩) NB123_131.out _).trans (((cell_far (p := ⟨gb131, _, none⟩) NB123_131.out _).trans (hHeld.2.2.1)))))))))), ((cell_far (p := ⟨gb131, _, none⟩) NB123_131.out _).trans (((cell_far (p := ⟨gb131, _, none⟩) NB123_131.out _).trans (((cell_far (p := ⟨gb131, _, none⟩) NB123_131.out _).trans (((cell_far (p := ⟨gb131, _, none⟩) NB123_131.out _).trans (((cell_far (p := ⟨gb131, _, none⟩) NB123_131.out _).trans (hHeld.2.2.2.1)))))))))), ((cell_far (p := ⟨gb131, _, none⟩) NB123_131.out _).trans (((cell_far (p := ⟨gb131, _, none⟩) NB123_131.out _).trans (((cell_far (p := ⟨gb131, _, none⟩) NB123_131.out _).trans (((cell_far (p := ⟨gb131, _, none⟩) NB123_131.out _).trans (((cell_far (p := ⟨gb131, _, none⟩) NB123_131.out _).trans (hHeld.2.2.2.2))))))))))⟩ (fun hHeld => ?_)
    clear hK K
    refine done_ (done_of HT_.out (by kernel_rfl)) ?_
    try go_wp2
    go_loopg [4] k (fun kq v4 w' => ∃ (x4_1 : Int) (x132004_1 : List (S26)) (u132004 : Value), v4 = .int .i64 x4_1 ∧ Aside0 (laws_from.l0 kq x4_1 a0_0 a0_1 a0_2 l0_3 l0_4 a0_0 a0_1 a0_2 y128 x132004_1 = some (r1, r2, r3, r4, r5)) ∧ Aside0 (kq ≤ k) ∧ Aside0 (Kd.R Kd.string 9 w' w.heap.size (fun _ => True) (.slice Ao12 y128.length co12) y128) ∧ Aside0 (Kd.R k26 26 w' w.heap.size (fun k_ => some k_ ≠ ((.slice Ao12 y128.length co12) : Value).ownBlock ∧ k_ ≠ gb124 ∧ k_ ≠ gb131) u132004 x132004_1) ∧ Aside0 (w'.heap[gb123]? = some (.cells #[.int .i64 a0_0, .int .i64 a0_1, .string a0_2, (.slice A0_3 l0_3.length c0_3), (.slice A0_4 l0_4.length c0_4)] 34 (0, 0))) ∧ Aside0 (w'.heap[gb124]? = some (.cells #[.int .i64 0, .int .i64 0, .string (⟨#[]⟩ : ByteArray), (.slice none 0 0), (.slice none 0 0)] 26 (0, 0))) ∧ Aside0 (w'.heap[gb131]? = some (.cells #[.int .i64 a0_0, .int .i64 a0_1, .string a0_2, (.slice Ao12 y128.length co12), u132004] 26 (0, 0))) ∧ Aside0 (Below w.heap.size w w'))
    case atStart => exact ⟨(0), (([] : List (S26))), (.slice none 0 0), (by first | rfl | (simp; done) | (simp [*]; done)), H', ⟨Nat.le_refl _⟩, ⟨by (with_reducible repeat (first | apply Kd.R_alloc | apply Kd.R_drewN | apply Kd.R_drew)); exact Kd.R_mono (Kd.R_far (p := ⟨gb131, 4, none⟩) (Kd.R_far (p := ⟨gb131, 3, none⟩) (Kd.R_far (p := ⟨gb131, 2, none⟩) (Kd.R_far (p := ⟨gb131, 1, none⟩) (Kd.R_far (p := ⟨gb131, 0, none⟩) (Kd.R_types HO130.out BK131.out (by decide)) (fun _ hk => hk.2) (.int .i64 a0_0)) (fun _ hk => hk.2) (.int .i64 a0_1)) (fun _ hk => hk.2) (.string a0_2)) (fun _ hk => hk.2) (.slice Ao12 y128.length co12)) (fun _ hk => hk.2) (.slice none 0 0)) (fun _ hk => trivial)⟩, ⟨by first | exact Kd.R_nil _ _ _ _ _ | exact Kd.N_nil _ _ _ _ _ | exact Kd.V_nil _ _ _ _ _ | exact Kd.Q_nil _ _ _ _ _ | exact Kd.S_nil _ _ _ _ _⟩, ⟨by (with_reducible repeat (first | refine blk_drewN ?_ _ | refine blk_drew ?_ | refine blk_alloc ?_ _)); refine blk_far ?_ NB123_131.out _; (with_reducible repeat (first | refine blk_drewN ?_ _ | refine blk_drew ?_ | refine blk_alloc ?_ _)); refine blk_far ?_ NB123_131.out _; (with_reducible repeat (first | refine blk_drewN ?_ _ | refine blk_drew ?_ | refine blk_alloc ?_ _)); refine blk_far ?_ NB123_131.out _; (with_reducible repeat (first | refine blk_drewN ?_ _ | refine blk_drew ?_ | refine blk_alloc ?_ _)); refine blk_far ?_ NB123_131.out _; (with_reducible repeat (first | refine blk_drewN ?_ _ | refine blk_drew ?_ | refine blk_alloc ?_ _)); refine blk_far ?_ NB123_131.out _; (with_reducible repeat (first | refine blk_drewN ?_ _ | refine blk_drew ?_ | refine blk_alloc ?_ _)); exact BK123.out⟩, ⟨by (with_reducible repeat (first | refine blk_drewN ?_ _ | refine blk_drew ?_ | refine blk_alloc ?_ _)); refine blk_far ?_ NB124_131.out _; (with_reducible repeat (first | refine blk_drewN ?_ _ | refine blk_drew ?_ | refine blk_alloc ?_ _)); refine blk_far ?_ NB124_131.out _; (with_reducible repeat (first | refine blk_drewN ?_ _ | refine blk_drew ?_ | refine blk_alloc ?_ _)); refine blk_far ?_ NB124_131.out _; (with_reducible repeat (first | refine blk_drewN ?_ _ | refine blk_drew ?_ | refine blk_alloc ?_ _)); refine blk_far ?_ NB124_131.out _; (with_reducible repeat (first | refine blk_drewN ?_ _ | refine blk_drew ?_ | refine blk_alloc ?_ _)); refine blk_far ?_ NB124_131.out _; (with_reducible repeat (first | refine blk_drewN ?_ _ | refine blk_drew ?_ | refine blk_alloc ?_ _)); exact BK124.out⟩, ⟨by (with_reducible repeat (first | refine blk_drewN ?_ _ | refine blk_drew ?_ | refine blk_alloc ?_ _)); refine blk_put (cs := #[.int .i64 a0_0, .int .i64 a0_1, .string a0_2, .slice Ao12 y128.length co12, .slice none 0 0]) ?_ 4 _ rfl; (with_reducible repeat (first | refine blk_drewN ?_ _ | refine blk_drew ?_ | refine blk_alloc ?_ _)); refine blk_put (cs := #[.int .i64 a0_0, .int .i64 a0_1, .string a0_2, .slice none 0 0, .slice none 0 0]) ?_ 3 _ rfl; (with_reducible repeat (first | refine blk_drewN ?_ _ | refine blk_drew ?_ | refine blk_alloc ?_ _)); refine blk_put (cs := #[.int .i64 a0_0, .int .i64 a0_1, .string (⟨#[]⟩ : ByteArray), .slice none 0 0, .slice none 0 0]) ?_ 2 _ rfl; (with_reducible repeat (first | refine blk_drewN ?_ _ | refine blk_drew ?_ | refine blk_alloc ?_ _)); refine blk_put (cs := #[.int .i64 a0_0, .int .i64 0, .string (⟨#[]⟩ : ByteArray), .slice none 0 0, .slice none 0 0]) ?_ 1 _ rfl; (with_reducible repeat (first | refine blk_drewN ?_ _ | refine blk_drew ?_ | refine blk_alloc ?_ _)); refine blk_put (cs := #[.int .i64 0, .int .i64 0, .string (⟨#[]⟩ : ByteArray), .slice none 0 0, .slice none 0 0]) ?_ 0 _ rfl; (with_reducible repeat (first | refine blk_drewN ?_ _ | refine blk_drew ?_ | refine blk_alloc ?_ _)); exact BK131.out⟩, ⟨by repeat (first | (with_reducible first | exact HB.out | apply below_alloc | apply pw_below_drewN | apply below_drew1 | refine below_set ?_ GE123.out | refine below_set ?_ GE124.out | refine below_set ?_ GE131.out) | exact HB.out)⟩⟩
    case round =>
      clear H'
      try clear c1
      try clear c2
      try clear p2
      try clear c16
      obtain ⟨x4_1, x132004_1, u132004, rfl, HA, HK1, HO_132003, HO_132004, BK123, BK124, BK131, HB⟩ := hrel
      cases gk with
      | zero => exact absurd HA.out (by simp [laws_from.l0])
      | succ k1 =>
        have H := HA.out
        clear HA
        simp only [laws_from.l0] at H
        by_cases c18 : x4_1 < (l0_4.length : Int)
        · rw [if_pos c18] at H
          have c18b0 : decide (x4_1 < (l0_4.length : Int)) = true := decide_eq_true c18
          clear c18
          by_cases c19 : 0 ≤ x4_1
          · rw [if_pos c19] at H
            have c19b0 : decide (0 ≤ x4_1) = true := decide_eq_true c19
            clear c19
            replace H := Option.bind_eq_some_iff.mp H
            obtain ⟨⟨t133, t134, t135, t136, t139⟩, A200, H⟩ := H
            replace H : (if x132004_1.length < 1759218604441 then (laws_from.l0 k1 (wrap64 (x4_1 + 1)) a0_0 a0_1 a0_2 l0_3 l0_4 a0_0 a0_1 a0_2 y128 (x132004_1 ++ [(⟨t133, t134, t135, t136, t139⟩ : S26)])) else (none)) = some (r1, r2, r3, r4, r5) := H
            have A20 := Aside0.mk A200
            clear A200
            by_cases c21 : x132004_1.length < 1759218604441
            · rw [if_pos c21] at H
              have LMc21 := Aside0.mk c21
              clear c21
              obtain ⟨y142, hy142⟩ : ∃ y_ : List (S26), y_ = (x132004_1 ++ [(⟨t133, t134, t135, t136, t139⟩ : S26)]) := ⟨_, rfl⟩
              replace H : (laws_from.l0 k1 (wrap64 (x4_1 + 1)) a0_0 a0_1 a0_2 l0_3 l0_4 a0_0 a0_1 a0_2 y128 y142) = some (r1, r2, r3, r4, r5) := by first | (rw [hy142]; with_reducible exact H) | (have H2_ := (Option.bind_some _ _).symm.trans H; rw [hy142]; with_reducible exact H2_) | (have H2_ := (Option.bind_some _ _).symm.trans H; with_reducible exact H2_) | with_reducible exact H | (rw [hy142]; exact H) | exact H
              have Ny142 := Aside0.mk hy142
              clear hy142
              have H' := Aside0.mk H
              clear H
              have hnb22 := NB123_124.out
              have hnc22 := NB124_123.out
              have hnb23 := NB123_131.out
              have hnc23 := NB131_123.out
              have hcz24_0 : wr.cell? ⟨gb123, 0, none⟩ = some (.int .i64 a0_0) := (blk_cell BK123.out 0).trans rfl
              have hcz24_1 : wr.cell? ⟨gb123, 1, none⟩ = some (.int .i64 a0_1) := (blk_cell BK123.out 1).trans rfl
              have hcz24_2 : wr.cell? ⟨gb123, 2, none⟩ = some (.string a0_2) := (blk_cell BK123.out 2).trans rfl
              have hcz24_3 : wr.cell? ⟨gb123, 3, none⟩ = some (.slice A0_3 l0_3.length c0_3) := (blk_cell BK123.out 3).trans rfl
              have hcz24_4 : wr.cell? ⟨gb123, 4, none⟩ = some (.slice A0_4 l0_4.length c0_4) := (blk_cell BK123.out 4).trans rfl
              have hfz24_0 := blk_frozen BK123.out 0
              have hfz24_1 := blk_frozen BK123.out 1
              have hfz24_2 := blk_frozen BK123.out 2
              have hfz24_3 := blk_frozen BK123.out 3
              have hfz24_4 := blk_frozen BK123.out 4
              try go_wp2
              have n0_ := Aside0.mk (Kd.R_drew HO_132003.out)
              have n1_ := Aside0.mk (Kd.R_drew HO_132004.out)
              have n2_ := Aside0.mk (blk_drew BK123.out)
              have n3_ := Aside0.mk (blk_drew BK124.out)
              have n4_ := Aside0.mk (blk_drew BK131.out)
              have n5_ := Aside0.mk (below_drew1 HB.out)
              clear HO_132003
              clear HO_132004
              clear BK123
              clear BK124
              clear BK131
              clear HB
              have HO_132003 := n0_
              have HO_132004 := n1_
              have BK123 := n2_
              have BK124 := n3_
              have BK131 := n4_
              have HB := n5_
              clear n0_ n1_ n2_ n3_ n4_ n5_
              have p132 : 0 ≤ (x4_1 : Int) := of_decide_eq_true (by first | (with_reducible assumption) | assumption)
              have q132 : x4_1 < (l0_4.length : Int) := of_decide_eq_true (by first | (with_reducible assumption) | assumption)
              obtain ⟨ad132, A132_3, c132_3, A132_4, c132_4, e132, hx132_0, hx132_1, hx132_2, hx132_3, hx132_4, hl132_3, hi132_3, hl132_4, hi132_4⟩ := at_T34 HR0_4.out x4_1 p132 q132
              have hw132_4 := hx132_4
              have hw132_3 := hx132_3
              have hw132_2 := hx132_2
              have hw132_1 := hx132_1
              have hw132_0 := hx132_0
              cases e132
              replace hx132_0 := (HB.out.cell (World.block_lt_of_cell? w _ hx132_0)).trans hx132_0
              replace hx132_1 := (HB.out.cell (World.block_lt_of_cell? w _ hx132_1)).trans hx132_1
              replace hx132_2 := (HB.out.cell (World.block_lt_of_cell? w _ hx132_2)).trans hx132_2
              replace hx132_3 := (HB.out.cell (World.block_lt_of_cell? w _ hx132_3)).trans hx132_3
              replace hx132_4 := (HB.out.cell (World.block_lt_of_cell? w _ hx132_4)).trans hx132_4
              have HR132_3 := Aside0.mk hi132_3
              have HC132_3 := Aside0.mk hl132_3
              clear hi132_3 hl132_3
              have HR132_4 := Aside0.mk hi132_4
              have HC132_4 := Aside0.mk hl132_4
              clear hi132_4 hl132_4
              replace p132 := eq_true p132
              replace q132 := eq_true q132
              refine start_ (n := 12) (S := fun w' => w'.cell? ⟨gb131, 0, none⟩ = some (.int .i64 a0_0) ∧ w'.cell? ⟨gb131, 1, none⟩ = some (.int .i64 a0_1) ∧ w'.cell? ⟨gb131, 2, none⟩ = some (.string a0_2) ∧ w'.cell? ⟨gb131, 3, none⟩ = some (.slice Ao12 y128.length co12) ∧ w'.cell? ⟨gb131, 4, none⟩ = some (u132004) ∧ w'.cell? ⟨gb123, 0, none⟩ = some (.int .i64 a0_0) ∧ w'.cell? ⟨gb123, 1, none⟩ = some (.int .i64 a0_1) ∧ w'.cell? ⟨gb123, 2, none⟩ = some (.string a0_2) ∧ w'.cell? ⟨gb123, 3, none⟩ = some (.slice A0_3 l0_3.length c0_3) ∧ w'.cell? ⟨gb123, 4, none⟩ = some (.slice (some ad132) l0_4.length c0_4) ∧ w'.cell? (ad132.add ((x4_1).toNat * 5)) = some (.int .i64 ((rd_T34 l0_4 x4_1).f0)) ∧ w'.cell? ⟨(ad132.add ((x4_1).toNat * 5)).block, (ad132.add ((x4_1).toNat * 5)).off + 1, none⟩ = some (.int .i64 ((rd_T34 l0_4 x4_1).f1)) ∧ w'.cell? ⟨(ad132.add ((x4_1).toNat * 5)).block, (ad132.add ((x4_1).toNat * 5)).off + 2, none⟩ = some (.string ((rd_T34 l0_4 x4_1).f2)) ∧ w'.cell? ⟨(ad132.add ((x4_1).toNat * 5)).block, (ad132.add ((x4_1).toNat * 5)).off + 3, none⟩ = some (.slice A132_3 ((rd_T34 l0_4 x4_1).f3).length c132_3) ∧ w'.cell? ⟨(ad132.add ((x4_1).toNat * 5)).block, (ad132.add ((x4_1).toNat * 5)).off + 4, none⟩ = some (.slice A132_4 ((rd_T34 l0_4 x4_1).f4).length c132_4)) (ds := [11]) #[false, false, false, false, false, false, false, false, false, false, false, false] (by kernel_rfl) rfl rfl ⟨(blk_cell BK131.out 0).trans rfl, (blk_cell BK131.out 1).trans rfl, (blk_cell BK131.out 2).trans rfl, (blk_cell BK131.out 3).trans rfl, (blk_cell BK131.out 4).trans rfl, (blk_cell BK123.out 0).trans rfl, (blk_cell BK123.out 1).trans rfl, (blk_cell BK123.out 2).trans rfl, (blk_cell BK123.out 3).trans rfl, (blk_cell BK123.out 4).trans rfl, ((HB.out.cell (World.block_lt_of_cell? w _ hw132_0)).trans hw132_0), ((HB.out.cell (World.block_lt_of_cell? w _ hw132_1)).trans hw132_1), ((HB.out.cell (World.block_lt_of_cell? w _ hw132_2)).trans hw132_2), ((HB.out.cell (World.block_lt_of_cell? w _ hw132_3)).trans hw132_3), ((HB.out.cell (World.block_lt_of_cell? w _ hw132_4)).trans hw132_4)⟩ (fun hHeld => ?_); refine with_tabW laws_from.tab5 laws_from.bits5 (fun HT_ HW_ => ?_)
              generalize wr.drew = w25 at HO_132003 HO_132004 BK123 BK124 BK131 HB HR132_3 HR132_4 hx132_0 hx132_1 hx132_2 hx132_3 hx132_4 hHeld ⊢
              refine pure_ (i := 0) (N := some 23) (v := ?_) (a' := ?_) #[true, false, false, false, false, false, false, false, false, false, false, false] rfl rfl (any_of HT_.out (by kernel_rfl)) (fun _ _ _ h => h) (Or.inl ⟨by rfl, ?_⟩) ?_ ?_
              rotate_left
              · intro w'
                go_simp
                with_reducible rfl
              rotate_left
              · simp only [Act.put, List.setIfInBounds_toArray, List.set_cons_zero, List.set_cons_succ, i64_w, i32_w]
                rfl
              refine pure_ (i := 2) (N := some 25) (v := ?_) (a' := ?_) #[true, false, true, false, false, false, false, false, false, false, false, false] rfl rfl (any_of HT_.out (by kernel_rfl)) (fun _ _ _ h => h) (Or.inl ⟨by rfl, ?_⟩) ?_ ?_
              rotate_left
              · intro w'
                go_simp
                with_reducible rfl
              rotate_left
              · simp only [Act.put, List.setIfInBounds_toArray, List.set_cons_zero, List.set_cons_succ, i64_w, i32_w]
                rfl
              refine pure_ (i := 4) (N := some 27) (v := ?_) (a' := ?_) #[true, false, true, false, true, false, false, false, false, false, false, false] rfl rfl (any_of HT_.out (by kernel_rfl)) (fun _ _ _ h => h) (Or.inl ⟨by rfl, ?_⟩) ?_ ?_
              rotate_left
              · intro w'
                go_simp
                with_reducible rfl
              rotate_left
              · simp only [Act.put, List.setIfInBounds_toArray, List.set_cons_zero, List.set_cons_succ, i64_w, i32_w]
                rfl
              refine take_ (i := 1) (N := some 24) (v := ?_) (a' := ?_) #[true, true, true, false, true, false, false, false, false, false, false, false] rfl rfl (take_ofW HT_.out HW_.out (by kernel_rfl)) (fun _ _ _ h => h) (Or.inl ⟨by rfl, ?_⟩) hHeld ?_ ?_
              rotate_left
              · rintro w' ⟨s0, s1, s2, s3, s4, s5, s6, s7, s8, s9, s10, s11, s12, s13, s14⟩
                go_simp
                with_reducible rfl
              rotate_left
              · simp only [Act.put, List.setIfInBounds_toArray, List.set_cons_zero, List.set_cons_succ, i64_w, i32_w]
                rfl
              refine take_ (i := 3) (N := some 26) (v := ?_) (a' := ?_) #[true, true, true, true, true, false, false, false, false, false, false, false] rfl rfl (take_ofW HT_.out HW_.out (by kernel_rfl)) (fun _ _ _ h => h) (Or.inl ⟨by rfl, ?_⟩) hHeld ?_ ?_
              rotate_left
              · rintro w' ⟨s0, s1, s2, s3, s4, s5, s6, s7, s8, s9, s10, s11, s12, s13, s14⟩
                go_simp
                with_reducible rfl
              rotate_left
              · simp only [Act.put, List.setIfInBounds_toArray, List.set_cons_zero, List.set_cons_succ, i64_w, i32_w]
                rfl
              refine pure_ (i := 5) (N := some 28) (v := ?_) (a' := ?_) #[true, true, true, true, true, true, false, false, false, false, false, false] rfl rfl (any_of HT_.out (by kernel_rfl)) (fun _ _ _ h => h) (Or.inl ⟨by rfl, ?_⟩) ?_ ?_
              rotate_left
              · intro w'
                go_simp
                with_reducible rfl
              rotate_left
              · simp only [Act.put, List.setIfInBounds_toArray, List.set_cons_zero, List.set_cons_succ, i64_w, i32_w]
                rfl
              refine take_ (i := 6) (N := some 29) (v := ?_) (a' := ?_) #[true, true, true, true, true, true, true, false, false, false, false, false] rfl rfl (take_ofW HT_.out HW_.out (by kernel_rfl)) (fun _ _ _ h => h) (Or.inl ⟨by rfl, ?_⟩) hHeld ?_ ?_
              rotate_left
              · rintro w' ⟨s0, s1, s2, s3, s4, s5, s6, s7, s8, s9, s10, s11, s12, s13, s14⟩
                go_simp
                with_reducible rfl
              rotate_left
              · simp only [Act.put, List.setIfInBounds_toArray, List.set_cons_zero, List.set_cons_succ, i64_w, i32_w]
                rfl
              refine one_ (i := 7) (N := some 30) #[true, true, true, true, true, true, true, true, false, false, false, false] rfl rfl (one_of HT_.out (by kernel_rfl)) (by decide) (fun K hK => ?_)
              refine goes_ Tryz.func16 (by kernel_rfl) rfl #[.agg #[.int .i64 ((rd_T34 l0_4 x4_1).f0), .int .i64 ((rd_T34 l0_4 x4_1).f1), .string ((rd_T34 l0_4 x4_1).f2), .slice A132_3 ((rd_T34 l0_4 x4_1).f3).length c132_3, .slice A132_4 ((rd_T34 l0_4 x4_1).f4).length c132_4]] (by rfl) rfl rfl (by (try simp only [List.map_toArray, List.map_cons, List.map_nil]); first | done | rfl | (simp only [List.length_drop, List.length_take]; rfl)) ?_
              with_reducible refine (ih k1 (by have := HK1.out; omega) ((rd_T34 l0_4 x4_1).f0) ((rd_T34 l0_4 x4_1).f1) ((rd_T34 l0_4 x4_1).f2) _ _ ((rd_T34 l0_4 x4_1).f3) _ _ ((rd_T34 l0_4 x4_1).f4) t133 t134 t135 t136 t139 _ ?side1 ?side2 ?side3 ?side4 A20.out).mono ?_
              (case side1 => repeat (first | exact (Kd.C_below HR132_3.out HB.out) | (with_reducible refine Kd.C_alloc ?_ _) | (with_reducible refine Kd.C_drewN ?_ _) | (with_reducible refine Kd.C_drew ?_)))
              (case side2 => exact HC132_3.out)
              (case side3 => repeat (first | exact (Kd.C_below HR132_4.out HB.out) | (with_reducible refine Kd.C_alloc ?_ _) | (with_reducible refine Kd.C_drewN ?_ _) | (with_reducible refine Kd.C_drew ?_)))
              (case side4 => exact HC132_4.out)
              rintro e w26 ⟨v137, v140, rfl, ho0, ho1, hb⟩
              refine ⟨_, rfl, ?_⟩
              have n0_ := Aside0.mk (Kd.R_elder' (by (with_reducible repeat (first | apply Kd.R_alloc | apply Kd.R_drewN | apply Kd.R_drew)); exact HO_132003.out) (Kd.R_base ho0) hb)
              have n1_ := Aside0.mk (Kd.R_mono (Kd.R_told (Kd.R_told (Kd.R_old (by (with_reducible repeat (first | apply Kd.R_alloc | apply Kd.R_drewN | apply Kd.R_drew)); exact HO_132004.out) hb) (Kd.R_base ho0)) (Kd.R_base ho1)) (fun _ h_ => h_.1))
              have n2_ := Aside0.mk (Kd.R_lower (Kd.R_new' ho0 (Kd.R_lt (by (with_reducible repeat (first | apply Kd.R_alloc | apply Kd.R_drewN | apply Kd.R_drew)); exact HO_132003.out))) (below_size (by repeat (first | (with_reducible first | exact HB.out | apply below_alloc | apply pw_below_drewN | apply below_drew1 | refine below_set ?_ GE123.out | refine below_set ?_ GE124.out | refine below_set ?_ GE131.out) | exact HB.out))))
              have n3_ := Aside0.mk (Kd.R_lower (Kd.R_newB (Kd.R_newB (Kd.R_new' (Kd.R_new' ho1 (Kd.R_lt (by (with_reducible repeat (first | apply Kd.R_alloc | apply Kd.R_drewN | apply Kd.R_drew)); exact HO_132003.out))) (Kd.R_lt (by (with_reducible repeat (first | apply Kd.R_alloc | apply Kd.R_drewN | apply Kd.R_drew)); exact HO_132004.out))) (g := gb124) (o := .cells #[.int .i64 0, .int .i64 0, .string (⟨#[]⟩ : ByteArray), .slice none 0 0, .slice none 0 0] 26 (0, 0)) (by (with_reducible repeat (first | refine blk_drewN ?_ _ | refine blk_drew ?_ | refine blk_alloc ?_ _)); exact BK124.out)) (g := gb131) (o := .cells #[.int .i64 a0_0, .int .i64 a0_1, .string a0_2, .slice Ao12 y128.length co12, u132004] 26 (0, 0)) (by (with_reducible repeat (first | refine blk_drewN ?_ _ | refine blk_drew ?_ | refine blk_alloc ?_ _)); exact BK131.out)) (below_size (by repeat (first | (with_reducible first | exact HB.out | apply below_alloc | apply pw_below_drewN | apply below_drew1 | refine below_set ?_ GE123.out | refine below_set ?_ GE124.out | refine below_set ?_ GE131.out) | exact HB.out))))
              have n4_ := Aside0.mk (blk_below (g := gb123) (o := .cells #[.int .i64 a0_0, .int .i64 a0_1, .string a0_2, .slice A0_3 l0_3.length c0_3, .slice (some ad132) l0_4.length c0_4] 34 (0, 0)) (by (with_reducible repeat (first | refine blk_drewN ?_ _ | refine blk_drew ?_ | refine blk_alloc ?_ _)); exact BK123.out) hb)
              have n5_ := Aside0.mk (blk_below (g := gb124) (o := .cells #[.int .i64 0, .int .i64 0, .string (⟨#[]⟩ : ByteArray), .slice none 0 0, .slice none 0 0] 26 (0, 0)) (by (with_reducible repeat (first | refine blk_drewN ?_ _ | refine blk_drew ?_ | refine blk_alloc ?_ _)); exact BK124.out) hb)
              have n6_ := Aside0.mk (blk_below (g := gb131) (o := .cells #[.int .i64 a0_0, .int .i64 a0_1, .string a0_2, .slice Ao12 y128.length co12, u132004] 26 (0, 0)) (by (with_reducible repeat (first | refine blk_drewN ?_ _ | refine blk_drew ?_ | refine blk_alloc ?_ _)); exact BK131.out) hb)
              have n7_ := Aside0.mk (below_step (by repeat (first | (with_reducible first | exact HB.out | apply below_alloc | apply pw_below_drewN | apply below_drew1 | refine below_set ?_ GE123.out | refine below_set ?_ GE124.out | refine below_set ?_ GE131.out) | exact HB.out)) hb)
              clear HO_132003
              clear HO_132004
              clear BK123
              clear BK124
              clear BK131
              clear HB
              have HO_132003 := n0_
              have HO_132004 := n1_
              have HO138 := n2_
              have HO141 := n3_
              have BK123 := n4_
              have BK124 := n5_
              have BK131 := n6_
              have HB := n7_
              clear n0_ n1_ n2_ n3_ n4_ n5_ n6_ n7_
              (try clear hb)
              (try clear hb2)
              (try clear hk)
              (try clear hi)
              (try clear ho0)
              (try clear ho1)
              obtain ⟨Ao28, co28, eo28⟩ := Kd.R_slice HO138.out
              (first | subst eo28 | (injection eo28 with f1_ f2_ f3_; have f4_ := f1_.symm; have f5_ := f3_.symm; clear f1_ f2_ f3_; subst f4_; subst f5_))
              obtain ⟨Ao29, co29, eo29⟩ := Kd.R_slice HO141.out
              (first | subst eo29 | (injection eo29 with f1_ f2_ f3_; have f4_ := f1_.symm; have f5_ := f3_.symm; clear f1_ f2_ f3_; subst f4_; subst f5_))
              refine hK.out _ _ ⟨(blk_cell BK131.out 0).trans rfl, (blk_cell BK131.out 1).trans rfl, (blk_cell BK131.out 2).trans rfl, (blk_cell BK131.out 3).trans rfl, (blk_cell BK131.out 4).trans rfl, (blk_cell BK123.out 0).trans rfl, (blk_cell BK123.out 1).trans rfl, (blk_cell BK123.out 2).trans rfl, (blk_cell BK123.out 3).trans rfl, (blk_cell BK123.out 4).trans rfl, ((HB.out.cell (World.block_lt_of_cell? w _ hw132_0)).trans hw132_0), ((HB.out.cell (World.block_lt_of_cell? w _ hw132_1)).trans hw132_1), ((HB.out.cell (World.block_lt_of_cell? w _ hw132_2)).trans hw132_2), ((HB.out.cell (World.block_lt_of_cell? w _ hw132_3)).trans hw132_3), ((HB.out.cell (World.block_lt_of_cell? w _ hw132_4)).trans hw132_4)⟩ (fun hHeld => ?_)
              clear hK K
              refine norm_ (a' := ?_) ?_ ?_
              rotate_left
              · show Act.put _ (some 30) _ = _
                simp only [Act.put, List.setIfInBounds_toArray, List.set_cons_zero, List.set_cons_succ, i64_w, i32_w]
                rfl
              refine one_ (i := 8) (N := some 31) #[true, true, true, true, true, true, true, true, true, false, false, false] rfl rfl (one_of HT_.out (by kernel_rfl)) (by decide) (fun K hK => ?_)
              refine value_ (w1 := ?_) (v := ?_) (by rfl) rfl ?_ ?_
              rotate_left 2
              · go_simp
                constructor
                · rfl
                · rfl
              refine hK.out _ _ ⟨(blk_cell (blk_alloc BK131.out _) 0).trans rfl, (blk_cell (blk_alloc BK131.out _) 1).trans rfl, (blk_cell (blk_alloc BK131.out _) 2).trans rfl, (blk_cell (blk_alloc BK131.out _) 3).trans rfl, (blk_cell (blk_alloc BK131.out _) 4).trans rfl, (blk_cell (blk_alloc BK123.out _) 0).trans rfl, (blk_cell (blk_alloc BK123.out _) 1).trans rfl, (blk_cell (blk_alloc BK123.out _) 2).trans rfl, (blk_cell (blk_alloc BK123.out _) 3).trans rfl, (blk_cell (blk_alloc BK123.out _) 4).trans rfl, (World.cell?_alloc_lt _ _ _ (World.block_lt_of_cell? _ _ (((HB.out.cell (World.block_lt_of_cell? w _ hw132_0)).trans hw132_0)))).trans (((HB.out.cell (World.block_lt_of_cell? w _ hw132_0)).trans hw132_0)), (World.cell?_alloc_lt _ _ _ (World.block_lt_of_cell? _ _ (((HB.out.cell (World.block_lt_of_cell? w _ hw132_1)).trans hw132_1)))).trans (((HB.out.cell (World.block_lt_of_cell? w _ hw132_1)).trans hw132_1)), (World.cell?_alloc_lt _ _ _ (World.block_lt_of_cell? _ _ (((HB.out.cell (World.block_lt_of_cell? w _ hw132_2)).trans hw132_2)))).trans (((HB.out.cell (World.block_lt_of_cell? w _ hw132_2)).trans hw132_2)), (World.cell?_alloc_lt _ _ _ (World.block_lt_of_cell? _ _ (((HB.out.cell (World.block_lt_of_cell? w _ hw132_3)).trans hw132_3)))).trans (((HB.out.cell (World.block_lt_of_cell? w _ hw132_3)).trans hw132_3)), (World.cell?_alloc_lt _ _ _ (World.block_lt_of_cell? _ _ (((HB.out.cell (World.block_lt_of_cell? w _ hw132_4)).trans hw132_4)))).trans (((HB.out.cell (World.block_lt_of_cell? w _ hw132_4)).trans hw132_4))⟩ (fun hHeld => ?_)
              clear hK K
              refine norm_ (a' := ?_) ?_ ?_
              rotate_left
              · show Act.put _ (some 31) _ = _
                simp only [Act.put, List.setIfInBounds_toArray, List.set_cons_zero, List.set_cons_succ, i64_w, i32_w]
                rfl
              refine one_ (i := 9) (N := some 32) #[true, true, true, true, true, true, true, true, true, true, false, false] rfl rfl (one_of HT_.out (by kernel_rfl)) (by decide) (fun K hK => ?_)
              refine Kd.R_append_step k26 (w0 := w) w.heap.size (by rfl) (.tmp 24) (.tmp 31) 24 26 (.agg #[(.int .i64 0), (.int .i64 0), (.string ⟨#[]⟩), (.slice none 0 0), (.slice none 0 0)]) 80 rfl Tryz.underlying24 info26 rfl (by decide) (by omega) u132004 x132004_1 (⟨t133, t134, t135, t136, t139⟩ : S26) [.int .i64 t133, .int .i64 t134, .string t135, .slice Ao28 t136.length co28, .slice Ao29 t139.length co29] (fun k_ => some k_ ≠ (.slice Ao12 y128.length co12 : Value).ownBlock ∧ k_ ≠ gb124 ∧ k_ ≠ gb131) (fun k_ => ((fun k_ => some k_ ≠ (.slice Ao12 y128.length co12 : Value).ownBlock ∧ k_ ≠ gb124 ∧ k_ ≠ gb131)) k_ ∧ some k_ ≠ (u132004 : Value).ownBlock) rfl rfl ?aP (fun _ hk => hk) ?aF ?aO ?aB ?aS ?aL ?_
              (case aP => exact k26_mkM _ _ _ (⟨t133, t134, t135, t136, t139⟩ : S26) (Kd.R_mono (Kd.R_types (Kd.R_types (Kd.R_apart' (HO138.out) (Kd.R_typed HO_132004.out) (by decide)) BK124.out (by decide)) BK131.out (by decide)) (fun k_ hk => ⟨⟨hk.1.1.1.2, ⟨hk.1.2, hk.2⟩⟩, hk.1.1.2⟩)) (Kd.R_mono (HO141.out) (fun k_ hk => ⟨⟨hk.1.1.1.2, ⟨hk.1.2, hk.2⟩⟩, hk.1.1.2⟩)))
              (case aB => exact (by repeat (first | (with_reducible first | exact HB.out | apply below_alloc | apply pw_below_drewN | apply below_drew1 | refine below_set ?_ GE123.out | refine below_set ?_ GE124.out | refine below_set ?_ GE131.out) | exact HB.out)))
              (case aF => exact (fun k_ hk => ⟨Kd.fresh' (Kd.R_lt (by (with_reducible repeat (first | apply Kd.R_alloc | apply Kd.R_drewN | apply Kd.R_drew)); exact HO_132003.out)) k_ hk, Kd.freshB (g := gb124) (o := .cells #[.int .i64 0, .int .i64 0, .string (⟨#[]⟩ : ByteArray), .slice none 0 0, .slice none 0 0] 26 (0, 0)) (by (with_reducible repeat (first | refine blk_drewN ?_ _ | refine blk_drew ?_ | refine blk_alloc ?_ _)); exact BK124.out) k_ hk, Kd.freshB (g := gb131) (o := .cells #[.int .i64 a0_0, .int .i64 a0_1, .string a0_2, .slice Ao12 y128.length co12, u132004] 26 (0, 0)) (by (with_reducible repeat (first | refine blk_drewN ?_ _ | refine blk_drew ?_ | refine blk_alloc ?_ _)); exact BK131.out) k_ hk⟩))
              (case aO => exact (by (with_reducible repeat (first | apply Kd.R_alloc | apply Kd.R_drewN | apply Kd.R_drew)); exact Kd.R_mono HO_132004.out (fun _ hk => ⟨hk.1.1.1, ⟨hk.1.1.2.1, hk.1.1.2.2⟩⟩)))
              (case aS => exact (below_size (by repeat (first | (with_reducible first | exact HB.out | apply below_alloc | apply pw_below_drewN | apply below_drew1 | refine below_set ?_ GE123.out | refine below_set ?_ GE124.out | refine below_set ?_ GE131.out) | exact HB.out))))
              (case aL => have := LMc21.out; omega)
              intro v143 w27 ho hb hg hat
              rw [← Ny142.out] at ho
              have n0_ := Aside0.mk (Kd.R_over' (by (with_reducible repeat (first | apply Kd.R_alloc | apply Kd.R_drewN | apply Kd.R_drew)); exact HO_132003.out) (Kd.R_typed (by (with_reducible repeat (first | apply Kd.R_alloc | apply Kd.R_drewN | apply Kd.R_drew)); exact HO_132004.out)) (by decide) hg)
              have n1_ := Aside0.mk (blk_grown (g := gb123) (o := .cells #[.int .i64 a0_0, .int .i64 a0_1, .string a0_2, .slice A0_3 l0_3.length c0_3, .slice (some ad132) l0_4.length c0_4] 34 (0, 0)) (by (with_reducible repeat (first | refine blk_drewN ?_ _ | refine blk_drew ?_ | refine blk_alloc ?_ _)); exact BK123.out) hg (Kd.R_ne HO_132004.out BK123.out (by decide)))
              have n2_ := Aside0.mk (blk_grown (g := gb124) (o := .cells #[.int .i64 0, .int .i64 0, .string (⟨#[]⟩ : ByteArray), .slice none 0 0, .slice none 0 0] 26 (0, 0)) (by (with_reducible repeat (first | refine blk_drewN ?_ _ | refine blk_drew ?_ | refine blk_alloc ?_ _)); exact BK124.out) hg (Kd.R_away HO_132004.out (fun _ hk => hk.1.1.2.1)))
              have n3_ := Aside0.mk (blk_grown (g := gb131) (o := .cells #[.int .i64 a0_0, .int .i64 a0_1, .string a0_2, .slice Ao12 y128.length co12, u132004] 26 (0, 0)) (by (with_reducible repeat (first | refine blk_drewN ?_ _ | refine blk_drew ?_ | refine blk_alloc ?_ _)); exact BK131.out) hg (Kd.R_away HO_132004.out (fun _ hk => hk.1.1.2.2)))
              have n4_ := Aside0.mk (hb)
              have n5_ := Aside0.mk (ho)
              clear HO_132003
              clear BK123
              clear BK124
              clear BK131
              clear HB
              clear HO_132004
              clear HO138
              clear HO141
              have HO_132003 := n0_
              have BK123 := n1_
              have BK124 := n2_
              have BK131 := n3_
              have HB := n4_
              have HO144 := n5_
              clear n0_ n1_ n2_ n3_ n4_ n5_
              clear ho hb hg hat
              obtain ⟨Ao30, co30, eo30⟩ := Kd.R_slice HO144.out
              (first | subst eo30 | (injection eo30 with f1_ f2_ f3_; have f4_ := f1_.symm; have f5_ := f3_.symm; clear f1_ f2_ f3_; subst f4_; subst f5_))
              refine hK.out _ _ ⟨(blk_cell BK131.out 0).trans rfl, (blk_cell BK131.out 1).trans rfl, (blk_cell BK131.out 2).trans rfl, (blk_cell BK131.out 3).trans rfl, (blk_cell BK131.out 4).trans rfl, (blk_cell BK123.out 0).trans rfl, (blk_cell BK123.out 1).trans rfl, (blk_cell BK123.out 2).trans rfl, (blk_cell BK123.out 3).trans rfl, (blk_cell BK123.out 4).trans rfl, ((HB.out.cell (World.block_lt_of_cell? w _ hw132_0)).trans hw132_0), ((HB.out.cell (World.block_lt_of_cell? w _ hw132_1)).trans hw132_1), ((HB.out.cell (World.block_lt_of_cell? w _ hw132_2)).trans hw132_2), ((HB.out.cell (World.block_lt_of_cell? w _ hw132_3)).trans hw132_3), ((HB.out.cell (World.block_lt_of_cell? w _ hw132_4)).trans hw132_4)⟩ (fun hHeld => ?_)
              clear hK K
              refine norm_ (a' := ?_) ?_ ?_
              rotate_left
              · show Act.put _ (some 32) _ = _
                simp only [Act.put, List.setIfInBounds_toArray, List.set_cons_zero, List.set_cons_succ, i64_w, i32_w]
                rfl
              refine pure_ (i := 10) (N := some 33) (v := ?_) (a' := ?_) #[true, true, true, true, true, true, true, true, true, true, true, false] rfl rfl (any_of HT_.out (by kernel_rfl)) (fun _ _ _ h => h) (Or.inl ⟨by rfl, ?_⟩) ?_ ?_
              rotate_left
              · intro w'
                go_simp
                with_reducible rfl
              rotate_left
              · simp only [Act.put, List.setIfInBounds_toArray, List.set_cons_zero, List.set_cons_succ, i64_w, i32_w]
                rfl
              refine last_ (i := 11) (N := none) #[true, true, true, true, true, true, true, true, true, true, true, true] rfl rfl (one_of HT_.out (by kernel_rfl)) (by decide) (fun K hK => ?_)
              have hs31 : w27.cell? ⟨gb131, 4, none⟩ = some (u132004) := (blk_cell BK131.out 4).trans rfl
              have hfs31 := blk_frozen BK131.out 4
              have hns31_0 := NB123_131.out
              have hns31_1 := NB124_131.out
              have hms31_0 := NB131_123.out
              have hms31_1 := NB131_124.out
              refine skip_ (w1 := ?_) (by rfl) rfl ?_ ?_
              rotate_left
              · go_simp
                rfl
              refine hK.out _ _ ?_
              clear hK K
              refine done_ (done_of HT_.out (by kernel_rfl)) ?_
              try go_wp2
              go_roundg k1
              case measure => have := HK1.out; omega
              case rel => exact ⟨(wrap64 (x4_1 + 1)), (y142), (.slice Ao30 y142.length co30), (by first | rfl | (simp; done) | (simp [*]; done)), H', ⟨by have := HK1.out; omega⟩, ⟨by (with_reducible repeat (first | apply Kd.R_alloc | apply Kd.R_drewN | apply Kd.R_drew)); exact Kd.R_mono (Kd.R_far (p := ⟨gb131, 4, none⟩) (Kd.R_types HO_132003.out BK131.out (by decide)) (fun _ hk => hk.2) (.slice Ao30 y142.length co30)) (fun _ hk => trivial)⟩, ⟨by (with_reducible repeat (first | apply Kd.R_alloc | apply Kd.R_drewN | apply Kd.R_drew)); exact Kd.R_mono (Kd.R_far (p := ⟨gb131, 4, none⟩) (Kd.R_mono HO144.out (fun k_ hk => (⟨hk, hk.2.2⟩ : _ ∧ k_ ≠ gb131))) (fun _ hk => hk.2) (.slice Ao30 y142.length co30)) (fun _ hk => ⟨hk.1.1, ⟨hk.1.2.1, hk.1.2.2⟩⟩)⟩, ⟨by (with_reducible repeat (first | refine blk_drewN ?_ _ | refine blk_drew ?_ | refine blk_alloc ?_ _)); refine blk_far ?_ NB123_131.out _; (with_reducible repeat (first | refine blk_drewN ?_ _ | refine blk_drew ?_ | refine blk_alloc ?_ _)); exact BK123.out⟩, ⟨by (with_reducible repeat (first | refine blk_drewN ?_ _ | refine blk_drew ?_ | refine blk_alloc ?_ _)); refine blk_far ?_ NB124_131.out _; (with_reducible repeat (first | refine blk_drewN ?_ _ | refine blk_drew ?_ | refine blk_alloc ?_ _)); exact BK124.out⟩, ⟨by (with_reducible repeat (first | refine blk_drewN ?_ _ | refine blk_drew ?_ | refine blk_alloc ?_ _)); refine blk_put (cs := #[.int .i64 a0_0, .int .i64 a0_1, .string a0_2, .slice Ao12 y128.length co12, u132004]) ?_ 4 _ rfl; (with_reducible repeat (first | refine blk_drewN ?_ _ | refine blk_drew ?_ | refine blk_alloc ?_ _)); exact BK131.out⟩, ⟨by repeat (first | (with_reducible first | exact HB.out | apply below_alloc | apply pw_below_drewN | apply below_drew1 | refine below_set ?_ GE123.out | refine below_set ?_ GE124.out | refine below_set ?_ GE131.out) | exact HB.out)⟩⟩
            · rw [if_neg c21] at H
              exact absurd H (by simp)
          · rw [if_neg c19] at H
            exact absurd H (by simp)
        · rw [if_neg c18] at H
          have c18b0 : decide (x4_1 < (l0_4.length : Int)) = false := decide_eq_false c18
          clear c18
          simp only [Option.some.injEq, Prod.mk.injEq] at H
          obtain ⟨rfl, rfl, rfl, rfl, rfl⟩ := H
          have hnb32 := NB123_124.out
          have hnc32 := NB124_123.out
          have hnb33 := NB123_131.out
          have hnc33 := NB131_123.out
          have hcz34_0 : wr.cell? ⟨gb123, 0, none⟩ = some (.int .i64 a0_0) := (blk_cell BK123.out 0).trans rfl
          have hcz34_1 : wr.cell? ⟨gb123, 1, none⟩ = some (.int .i64 a0_1) := (blk_cell BK123.out 1).trans rfl
          have hcz34_2 : wr.cell? ⟨gb123, 2, none⟩ = some (.string a0_2) := (blk_cell BK123.out 2).trans rfl
          have hcz34_3 : wr.cell? ⟨gb123, 3, none⟩ = some (.slice A0_3 l0_3.length c0_3) := (blk_cell BK123.out 3).trans rfl
          have hcz34_4 : wr.cell? ⟨gb123, 4, none⟩ = some (.slice A0_4 l0_4.length c0_4) := (blk_cell BK123.out 4).trans rfl
          have hfz34_0 := blk_frozen BK123.out 0
          have hfz34_1 := blk_frozen BK123.out 1
          have hfz34_2 := blk_frozen BK123.out 2
          have hfz34_3 := blk_frozen BK123.out 3
          have hfz34_4 := blk_frozen BK123.out 4
          have hnb35 := NB131_124.out
          have hnc35 := NB124_131.out
          have hcz36_0 : wr.cell? ⟨gb131, 0, none⟩ = some (.int .i64 a0_0) := (blk_cell BK131.out 0).trans rfl
          have hcz36_1 : wr.cell? ⟨gb131, 1, none⟩ = some (.int .i64 a0_1) := (blk_cell BK131.out 1).trans rfl
          have hcz36_2 : wr.cell? ⟨gb131, 2, none⟩ = some (.string a0_2) := (blk_cell BK131.out 2).trans rfl
          have hcz36_3 : wr.cell? ⟨gb131, 3, none⟩ = some (.slice Ao12 y128.length co12) := (blk_cell BK131.out 3).trans rfl
          have hcz36_4 : wr.cell? ⟨gb131, 4, none⟩ = some (u132004) := (blk_cell BK131.out 4).trans rfl
          have hfz36_0 := blk_frozen BK131.out 0
          have hfz36_1 := blk_frozen BK131.out 1
          have hfz36_2 := blk_frozen BK131.out 2
          have hfz36_3 := blk_frozen BK131.out 3
          have hfz36_4 := blk_frozen BK131.out 4
          have hcz37_0 : wr.cell? ⟨gb124, 0, none⟩ = some (.int .i64 0) := (blk_cell BK124.out 0).trans rfl
          have hcz37_1 : wr.cell? ⟨gb124, 1, none⟩ = some (.int .i64 0) := (blk_cell BK124.out 1).trans rfl
          have hcz37_2 : wr.cell? ⟨gb124, 2, none⟩ = some (.string (⟨#[]⟩ : ByteArray)) := (blk_cell BK124.out 2).trans rfl
          have hcz37_3 : wr.cell? ⟨gb124, 3, none⟩ = some (.slice none 0 0) := (blk_cell BK124.out 3).trans rfl
          have hcz37_4 : wr.cell? ⟨gb124, 4, none⟩ = some (.slice none 0 0) := (blk_cell BK124.out 4).trans rfl
          have hfz37_0 := blk_frozen BK124.out 0
          have hfz37_1 := blk_frozen BK124.out 1
          have hfz37_2 := blk_frozen BK124.out 2
          have hfz37_3 := blk_frozen BK124.out 3
          have hfz37_4 := blk_frozen BK124.out 4
          obtain ⟨Ao38, co38, eo38⟩ := Kd.R_slice HO_132004.out
          subst eo38
          go_wp2
          refine bodyPost_ret (results_cell_row rfl _ _ gb124 26 #[.int .i64 a0_0, .int .i64 a0_1, .string a0_2, .slice Ao12 y128.length co12, .slice Ao38 x132004_1.length co38] (0, 0) _ rfl (by (with_reducible repeat (first | refine blk_drewN ?_ _ | refine blk_drew ?_ | refine blk_alloc ?_ _)); refine blk_put (cs := #[.int .i64 a0_0, .int .i64 a0_1, .string a0_2, .slice Ao12 y128.length co12, .slice none 0 0]) ?_ 4 _ rfl; (with_reducible repeat (first | refine blk_drewN ?_ _ | refine blk_drew ?_ | refine blk_alloc ?_ _)); refine blk_put (cs := #[.int .i64 a0_0, .int .i64 a0_1, .string a0_2, .slice none 0 0, .slice none 0 0]) ?_ 3 _ rfl; (with_reducible repeat (first | refine blk_drewN ?_ _ | refine blk_drew ?_ | refine blk_alloc ?_ _)); refine blk_put (cs := #[.int .i64 a0_0, .int .i64 a0_1, .string (⟨#[]⟩ : ByteArray), .slice none 0 0, .slice none 0 0]) ?_ 2 _ rfl; (with_reducible repeat (first | refine blk_drewN ?_ _ | refine blk_drew ?_ | refine blk_alloc ?_ _)); refine blk_put (cs := #[.int .i64 a0_0, .int .i64 0, .string (⟨#[]⟩ : ByteArray), .slice none 0 0, .slice none 0 0]) ?_ 1 _ rfl; (with_reducible repeat (first | refine blk_drewN ?_ _ | refine blk_drew ?_ | refine blk_alloc ?_ _)); refine blk_put (cs := #[.int .i64 0, .int .i64 0, .string (⟨#[]⟩ : ByteArray), .slice none 0 0, .slice none 0 0]) ?_ 0 _ rfl; (with_reducible repeat (first | refine blk_drewN ?_ _ | refine blk_drew ?_ | refine blk_alloc ?_ _)); exact BK124.out) Tryz.underlying26 rfl (by kernel_rfl)) rfl ?_
          exact ⟨_, _, by first | rfl | (simp [errW_none, errW_some] <;> rfl) | (simp [*, errW_none, errW_some] <;> rfl), by (with_reducible repeat (first | apply Kd.R_alloc | apply Kd.R_drewN | apply Kd.R_drew)); exact Kd.R_mono (Kd.R_far (p := ⟨gb124, 4, none⟩) (Kd.R_far (p := ⟨gb124, 3, none⟩) (Kd.R_far (p := ⟨gb124, 2, none⟩) (Kd.R_far (p := ⟨gb124, 1, none⟩) (Kd.R_far (p := ⟨gb124, 0, none⟩) (Kd.R_types HO_132003.out BK124.out (by decide)) (fun _ hk => hk.2) (.int .i64 a0_0)) (fun _ hk => hk.2) (.int .i64 a0_1)) (fun _ hk => hk.2) (.string a0_2)) (fun _ hk => hk.2) (.slice Ao12 y128.length co12)) (fun _ hk => hk.2) (.slice Ao38 x132004_1.length co38)) (fun _ hk => trivial), by (with_reducible repeat (first | apply Kd.R_alloc | apply Kd.R_drewN | apply Kd.R_drew)); exact Kd.R_mono (Kd.R_far (p := ⟨gb124, 4, none⟩) (Kd.R_far (p := ⟨gb124, 3, none⟩) (Kd.R_far (p := ⟨gb124, 2, none⟩) (Kd.R_far (p := ⟨gb124, 1, none⟩) (Kd.R_far (p := ⟨gb124, 0, none⟩) (Kd.R_mono HO_132004.out (fun k_ hk => (⟨hk, hk.2.1⟩ : _ ∧ k_ ≠ gb124))) (fun _ hk => hk.2) (.int .i64 a0_0)) (fun _ hk => hk.2) (.int .i64 a0_1)) (fun _ hk => hk.2) (.string a0_2)) (fun _ hk => hk.2) (.slice Ao12 y128.length co12)) (fun _ hk => hk.2) (.slice Ao38 x132004_1.length co38)) (fun _ hk => hk.1.1), by repeat (first | (with_reducible first | exact HB.out | apply below_alloc | apply pw_below_drewN | apply below_drew1 | refine below_set ?_ GE123.out | refine below_set ?_ GE124.out | refine below_set ?_ GE131.out) | exact HB.out)⟩
  · rw [if_neg c2] at H
    exact absurd H (by simp)

end Go.Proofs.YtiamiagjkfioiaaGreatDoor.PT
