/- Joined texts. -/
import Derived.Test.YtgeamhmenmomhaaDoorPTx0
-- Written by a program over the translation (xprint.py). Lean checks it.
namespace Go.Proofs.YtgeamhmenmomhaaDoor.PT
open Go.RowKit Go.Proofs.YtgeamhmenmomhaaDoorW.PrintWords Go.Proofs.YtgeamhmenmomhaaDoorW.PrintLast Go.Proofs.YtgeamhmenmomhaaDoorW.PrintMore
attribute [local go_sem] max2_int min2_int max_two min_two max_three min_three max_four min_four   -- for this text's walks alone
set_option linter.unusedVariables false
set_option linter.unusedSimpArgs false

/-! ### spec_Same: function 14 -/
mutual
def spec_Same.j0 : Nat → Bool → Int → Int → ByteArray → List ByteArray → List (S25) → Int → Int → ByteArray → List ByteArray → List (S25) → Option (Bool)
  | 0, _, _, _, _, _, _, _, _, _, _, _ => none
  | k + 1, x43, x146000, x146001, x146002, x146003, x146004, x147000, x147001, x147002, x147003, x147004 => if x43 = true then (some false) else (spec_Same.l0 k 0 x146000 x146001 x146002 x146003 x146004 x147000 x147001 x147002 x147003 x147004)
def spec_Same.l0 : Nat → Int → Int → Int → ByteArray → List ByteArray → List (S25) → Int → Int → ByteArray → List ByteArray → List (S25) → Option (Bool)
  | 0, _, _, _, _, _, _, _, _, _, _, _ => none
  | k + 1, x5, x146000, x146001, x146002, x146003, x146004, x147000, x147001, x147002, x147003, x147004 => if x5 < (x146003.length : Int) then (if 0 ≤ x5 then (if x5 < (x147003.length : Int) then (if (rdOf ByteArray.empty x146003 x5).toList = (rdOf ByteArray.empty x147003 x5).toList then (spec_Same.l0 k (wrap64 (x5 + 1)) x146000 x146001 x146002 x146003 x146004 x147000 x147001 x147002 x147003 x147004) else (some false)) else (none)) else (none)) else (spec_Same.l1 k 0 x146000 x146001 x146002 x146003 x146004 x147000 x147001 x147002 x147003 x147004)
def spec_Same.l1 : Nat → Int → Int → Int → ByteArray → List ByteArray → List (S25) → Int → Int → ByteArray → List ByteArray → List (S25) → Option (Bool)
  | 0, _, _, _, _, _, _, _, _, _, _, _ => none
  | k + 1, x6, x146000, x146001, x146002, x146003, x146004, x147000, x147001, x147002, x147003, x147004 => if x6 < (x146004.length : Int) then (if 0 ≤ x6 then (if x6 < (x147004.length : Int) then ((spec_Same.f k ((rd_T25 x146004 x6).f0) ((rd_T25 x146004 x6).f1) ((rd_T25 x146004 x6).f2) ((rd_T25 x146004 x6).f3) ((rd_T25 x146004 x6).f4) ((rd_T25 x147004 x6).f0) ((rd_T25 x147004 x6).f1) ((rd_T25 x147004 x6).f2) ((rd_T25 x147004 x6).f3) ((rd_T25 x147004 x6).f4)).bind fun t151 => (if t151 = true then (spec_Same.l1 k (wrap64 (x6 + 1)) x146000 x146001 x146002 x146003 x146004 x147000 x147001 x147002 x147003 x147004) else (some false))) else (none)) else (none)) else (some true)
def spec_Same.f : Nat → Int → Int → ByteArray → List ByteArray → List (S25) → Int → Int → ByteArray → List ByteArray → List (S25) → Option (Bool)
  | 0, _, _, _, _, _, _, _, _, _, _ => none
  | k + 1, a0_0, a0_1, a0_2, l0_3, l0_4, a1_0, a1_1, a1_2, l1_3, l1_4 => if a0_0 = a1_0 then (if a0_1 = a1_1 then (if a0_2.toList = a1_2.toList then (if (l0_3.length : Int) = (l1_3.length : Int) then (spec_Same.j0 k ((l0_4.length : Int) != (l1_4.length : Int)) a0_0 a0_1 a0_2 l0_3 l0_4 a1_0 a1_1 a1_2 l1_3 l1_4) else (spec_Same.j0 k true a0_0 a0_1 a0_2 l0_3 l0_4 a1_0 a1_1 a1_2 l1_3 l1_4)) else (spec_Same.j0 k true a0_0 a0_1 a0_2 l0_3 l0_4 a1_0 a1_1 a1_2 l1_3 l1_4)) else (spec_Same.j0 k true a0_0 a0_1 a0_2 l0_3 l0_4 a1_0 a1_1 a1_2 l1_3 l1_4)) else (spec_Same.j0 k true a0_0 a0_1 a0_2 l0_3 l0_4 a1_0 a1_1 a1_2 l1_3 l1_4)
end
def spec_Same.T6 : Bool × List (List Nat × List Nat) := (true, [([], []), ([0], [0]), ([], []), ([1, 2], [1, 2]), ([3], [3]), ([], []), ([5], [5]), ([], []), ([6, 7], [6, 7]), ([8], [8]), ([4, 9], [4, 9])])
def spec_Same.B6 : List Nat := [0, 1, 0, 7, 15, 0, 32, 0, 224, 480, 1023]
theorem spec_Same.tab6 : rtab .any (opsOf Tryd.f14 6) = spec_Same.T6 := by kernel_rfl
theorem spec_Same.bits6 : waitsOk spec_Same.T6.2 spec_Same.B6 = true := by kernel_rfl
def spec_Same.T11 : Bool × List (List Nat × List Nat) := (true, [([], []), ([0], [0]), ([], []), ([1, 2], [1, 2]), ([3], [3]), ([], []), ([5], [5]), ([], []), ([6, 7], [6, 7]), ([8], [8]), ([4, 9], [4, 9]), ([10], [10])])
def spec_Same.B11 : List Nat := [0, 1, 0, 7, 15, 0, 32, 0, 224, 480, 1023, 2047]
theorem spec_Same.tab11 : rtab .any (opsOf Tryd.f14 11) = spec_Same.T11 := by kernel_rfl
theorem spec_Same.bits11 : waitsOk spec_Same.T11.2 spec_Same.B11 = true := by kernel_rfl
set_option maxHeartbeats 8000000 in
set_option maxRecDepth 100000 in
theorem spec_Same.calls (k : Nat) : ∀ (a0_0 : Int) (a0_1 : Int) (a0_2 : ByteArray) (A0_3 : Option Addr) (c0_3 : Nat) (l0_3 : List ByteArray) (A0_4 : Option Addr) (c0_4 : Nat) (l0_4 : List (S25)) (a1_0 : Int) (a1_1 : Int) (a1_2 : ByteArray) (A1_3 : Option Addr) (c1_3 : Nat) (l1_3 : List ByteArray) (A1_4 : Option Addr) (c1_4 : Nat) (l1_4 : List (S25)) (r : Bool) (w : World) (hr0_3 : Kd.C Kd.string w A0_3 l0_3.length l0_3) (hc0_3 : l0_3.length ≤ c0_3) (hr0_4 : Kd.C k25 w A0_4 l0_4.length l0_4) (hc0_4 : l0_4.length ≤ c0_4) (hr1_3 : Kd.C Kd.string w A1_3 l1_3.length l1_3) (hc1_3 : l1_3.length ≤ c1_3) (hr1_4 : Kd.C k25 w A1_4 l1_4.length l1_4) (hc1_4 : l1_4.length ≤ c1_4) (h : spec_Same.f k a0_0 a0_1 a0_2 l0_3 l0_4 a1_0 a1_1 a1_2 l1_3 l1_4 = some r),
    Calls Tryd.prog 14 #[.agg #[.int .i64 a0_0, .int .i64 a0_1, .string a0_2, .slice A0_3 l0_3.length c0_3, .slice A0_4 l0_4.length c0_4], .agg #[.int .i64 a1_0, .int .i64 a1_1, .string a1_2, .slice A1_3 l1_3.length c1_3, .slice A1_4 l1_4.length c1_4]] w fun e w' => e = .returned (.bool r) ∧ Below w.heap.size w w' := by
  induction k using Nat.strongRecOn with
  | _ k ih =>
  intro a0_0 a0_1 a0_2 A0_3 c0_3 l0_3 A0_4 c0_4 l0_4 a1_0 a1_1 a1_2 A1_3 c1_3 l1_3 A1_4 c1_4 l1_4 r w hr0_3 hc0_3 hr0_4 hc0_4 hr1_3 hc1_3 hr1_4 hc1_4 h
  cases k with
  | zero => exact absurd h (by simp [spec_Same.f])
  | succ k =>
  simp only [spec_Same.f] at h
  have hu25 := Tryd.underlying25
  have HR0_3 := Aside0.mk hr0_3
  have HC0_3 := Aside0.mk hc0_3
  clear hr0_3 hc0_3
  have HR0_4 := Aside0.mk hr0_4
  have HC0_4 := Aside0.mk hc0_4
  clear hr0_4 hc0_4
  have HR1_3 := Aside0.mk hr1_3
  have HC1_3 := Aside0.mk hc1_3
  clear hr1_3 hc1_3
  have HR1_4 := Aside0.mk hr1_4
  have HC1_4 := Aside0.mk hc1_4
  clear hr1_4 hc1_4
  have HB := Aside0.mk (Below.refl w.heap.size w)
  have H : (if a0_0 = a1_0 then (if a0_1 = a1_1 then (if a0_2.toList = a1_2.toList then (if (l0_3.length : Int) = (l1_3.length : Int) then (spec_Same.j0 k ((l0_4.length : Int) != (l1_4.length : Int)) a0_0 a0_1 a0_2 l0_3 l0_4 a1_0 a1_1 a1_2 l1_3 l1_4) else (spec_Same.j0 k true a0_0 a0_1 a0_2 l0_3 l0_4 a1_0 a1_1 a1_2 l1_3 l1_4)) else (spec_Same.j0 k true a0_0 a0_1 a0_2 l0_3 l0_4 a1_0 a1_1 a1_2 l1_3 l1_4)) else (spec_Same.j0 k true a0_0 a0_1 a0_2 l0_3 l0_4 a1_0 a1_1 a1_2 l1_3 l1_4)) else (spec_Same.j0 k true a0_0 a0_1 a0_2 l0_3 l0_4 a1_0 a1_1 a1_2 l1_3 l1_4)) = some r := h
  clear h
  have HC3 := Aside0.mk H
  clear H
  go_enter Tryd.func14, Tryd.ntmps14
  go_upto_region 1 with (first | ((with_reducible refine gate_dst (N := 2) rfl ?_); (try (refine gate_guard (by rfl) ?_; dsimp only)); refine box_event ?hg (N := 2) ?hd (cs := #[.int .i64 a0_0, .int .i64 a0_1, .string a0_2, .slice A0_3 l0_3.length c0_3, .slice A0_4 l0_4.length c0_4]) (t := 25) ?hr ?_; (case hd => rfl); (case hg => rfl); (case hr => first | (go_simp; done) | (go_simp; rfl)); intro gb145 hg w4 hbox hb; have n0_ := Aside0.mk (below_step (by repeat (first | (with_reducible first | exact HB.out | apply below_alloc | apply pw_below_drewN | apply below_drew1) | exact HB.out)) hb); have n1_ := Aside0.mk (hbox); have n2_ := Aside0.mk ((by rw [hg]; exact (below_size (by repeat (first | (with_reducible first | exact HB.out | apply below_alloc | apply pw_below_drewN | apply below_drew1) | exact HB.out))) : w.heap.size ≤ gb145)); have n3_ := Aside0.mk ((by rw [hg]; exact (below_size (by repeat (first | (with_reducible first | exact HB.out | apply below_alloc | apply pw_below_drewN | apply below_drew1) | exact HB.out))) : w.heap.size ≤ gb145)); clear HB; have HB := n0_; have BK145 := n1_; have GW145 := n2_; have GE145 := n3_; clear n0_ n1_ n2_ n3_; clear hb hbox hg) | ((with_reducible refine gate_dst (N := 3) rfl ?_); (try (refine gate_guard (by rfl) ?_; dsimp only)); refine box_event ?hg (N := 3) ?hd (cs := #[.int .i64 a1_0, .int .i64 a1_1, .string a1_2, .slice A1_3 l1_3.length c1_3, .slice A1_4 l1_4.length c1_4]) (t := 25) ?hr ?_; (case hd => rfl); (case hg => rfl); (case hr => first | (go_simp; done) | (go_simp; rfl)); intro gb146 hg w5 hbox hb; have n0_ := Aside0.mk (blk_below (g := gb145) (o := .cells #[.int .i64 a0_0, .int .i64 a0_1, .string a0_2, .slice A0_3 l0_3.length c0_3, .slice A0_4 l0_4.length c0_4] 25 (0, 0)) (by (with_reducible repeat (first | refine blk_drewN ?_ _ | refine blk_drew ?_ | refine blk_alloc ?_ _)); exact BK145.out) hb); have n1_ := Aside0.mk (below_step (by repeat (first | (with_reducible first | exact HB.out | apply below_alloc | apply pw_below_drewN | apply below_drew1 | refine below_set ?_ GE145.out) | exact HB.out)) hb); have n2_ := Aside0.mk (hbox); have n3_ := Aside0.mk ((by rw [hg]; exact (below_size (by repeat (first | (with_reducible first | exact HB.out | apply below_alloc | apply pw_below_drewN | apply below_drew1 | refine below_set ?_ GE145.out) | exact HB.out))) : w.heap.size ≤ gb146)); have n4_ := Aside0.mk ((by rw [hg]; exact (below_size (by repeat (first | (with_reducible first | exact HB.out | apply below_alloc | apply pw_below_drewN | apply below_drew1 | refine below_set ?_ GE145.out) | exact HB.out))) : w.heap.size ≤ gb146)); have n5_ := Aside0.mk ((by rw [hg]; exact Nat.ne_of_lt (blk_lt (g := gb145) (o := .cells #[.int .i64 a0_0, .int .i64 a0_1, .string a0_2, .slice A0_3 l0_3.length c0_3, .slice A0_4 l0_4.length c0_4] 25 (0, 0)) (by (with_reducible repeat (first | refine blk_drewN ?_ _ | refine blk_drew ?_ | refine blk_alloc ?_ _)); exact BK145.out)) : gb145 ≠ gb146)); have n6_ := Aside0.mk ((by rw [hg]; exact Nat.ne_of_gt (blk_lt (g := gb145) (o := .cells #[.int .i64 a0_0, .int .i64 a0_1, .string a0_2, .slice A0_3 l0_3.length c0_3, .slice A0_4 l0_4.length c0_4] 25 (0, 0)) (by (with_reducible repeat (first | refine blk_drewN ?_ _ | refine blk_drew ?_ | refine blk_alloc ?_ _)); exact BK145.out)) : gb146 ≠ gb145)); clear BK145; clear HB; have BK145 := n0_; have HB := n1_; have BK146 := n2_; have GW146 := n3_; have GE146 := n4_; have NB145_146 := n5_; have NB146_145 := n6_; clear n0_ n1_ n2_ n3_ n4_ n5_ n6_; clear hb hbox hg))
  (try simp only [Act.put, List.setIfInBounds_toArray, List.set_cons_zero, List.set_cons_succ])
  go_cut [43] (fun v43 wc => ∃ (kq : Nat) (x43_2 : Bool), v43 = .bool x43_2 ∧ Aside0 (spec_Same.j0 kq x43_2 a0_0 a0_1 a0_2 l0_3 l0_4 a1_0 a1_1 a1_2 l1_3 l1_4 = some r) ∧ Aside0 (kq ≤ k) ∧ Aside0 (wc.heap[gb145]? = some (.cells #[.int .i64 a0_0, .int .i64 a0_1, .string a0_2, (.slice A0_3 l0_3.length c0_3), (.slice A0_4 l0_4.length c0_4)] 25 (0, 0))) ∧ Aside0 (wc.heap[gb146]? = some (.cells #[.int .i64 a1_0, .int .i64 a1_1, .string a1_2, (.slice A1_3 l1_3.length c1_3), (.slice A1_4 l1_4.length c1_4)] 25 (0, 0))) ∧ Aside0 (Below w.heap.size w wc))
  case first =>
    have H := HC3.out
    clear HC3
    by_cases c6 : a0_0 = a1_0
    · rw [if_pos c6] at H
      have c6b0 : (a0_0 == a1_0) = true := beq_iff_eq.mpr c6
      have c6b1 : (a0_0 != a1_0) = false := bne_eq_false_iff_eq.mpr c6
      clear c6
      (first | rw [c6b0] | (simp only [i64_w, i32_w]; rw [c6b0]) | skip)
      by_cases c7 : a0_1 = a1_1
      · rw [if_pos c7] at H
        have c7b0 : (a0_1 == a1_1) = true := beq_iff_eq.mpr c7
        have c7b1 : (a0_1 != a1_1) = false := bne_eq_false_iff_eq.mpr c7
        clear c7
        by_cases c8 : a0_2.toList = a1_2.toList
        · rw [if_pos c8] at H
          have c8b0 : (a0_2.toList == a1_2.toList) = true := beq_iff_eq.mpr c8
          have c8b1 : (a0_2.toList != a1_2.toList) = false := bne_eq_false_iff_eq.mpr c8
          clear c8
          by_cases c9 : (l0_3.length : Int) = (l1_3.length : Int)
          · rw [if_pos c9] at H
            have c9b0 : ((l0_3.length : Int) == (l1_3.length : Int)) = true := beq_iff_eq.mpr c9
            have c9b1 : ((l0_3.length : Int) != (l1_3.length : Int)) = false := bne_eq_false_iff_eq.mpr c9
            have c9b2 : (l0_3.length == l1_3.length) = true := by first | simpa using c9 | (simp at c9 ⊢; omega)
            clear c9
            have H' := Aside0.mk H
            clear H
            have hnb10 := NB145_146.out
            have hnc10 := NB146_145.out
            have hcz11_0 : w5.cell? ⟨gb145, 0, none⟩ = some (.int .i64 a0_0) := (blk_cell BK145.out 0).trans rfl
            have hcz11_1 : w5.cell? ⟨gb145, 1, none⟩ = some (.int .i64 a0_1) := (blk_cell BK145.out 1).trans rfl
            have hcz11_2 : w5.cell? ⟨gb145, 2, none⟩ = some (.string a0_2) := (blk_cell BK145.out 2).trans rfl
            have hcz11_3 : w5.cell? ⟨gb145, 3, none⟩ = some (.slice A0_3 l0_3.length c0_3) := (blk_cell BK145.out 3).trans rfl
            have hcz11_4 : w5.cell? ⟨gb145, 4, none⟩ = some (.slice A0_4 l0_4.length c0_4) := (blk_cell BK145.out 4).trans rfl
            have hfz11_0 := blk_frozen BK145.out 0
            have hfz11_1 := blk_frozen BK145.out 1
            have hfz11_2 := blk_frozen BK145.out 2
            have hfz11_3 := blk_frozen BK145.out 3
            have hfz11_4 := blk_frozen BK145.out 4
            have hcz12_0 : w5.cell? ⟨gb146, 0, none⟩ = some (.int .i64 a1_0) := (blk_cell BK146.out 0).trans rfl
            have hcz12_1 : w5.cell? ⟨gb146, 1, none⟩ = some (.int .i64 a1_1) := (blk_cell BK146.out 1).trans rfl
            have hcz12_2 : w5.cell? ⟨gb146, 2, none⟩ = some (.string a1_2) := (blk_cell BK146.out 2).trans rfl
            have hcz12_3 : w5.cell? ⟨gb146, 3, none⟩ = some (.slice A1_3 l1_3.length c1_3) := (blk_cell BK146.out 3).trans rfl
            have hcz12_4 : w5.cell? ⟨gb146, 4, none⟩ = some (.slice A1_4 l1_4.length c1_4) := (blk_cell BK146.out 4).trans rfl
            have hfz12_0 := blk_frozen BK146.out 0
            have hfz12_1 := blk_frozen BK146.out 1
            have hfz12_2 := blk_frozen BK146.out 2
            have hfz12_3 := blk_frozen BK146.out 3
            have hfz12_4 := blk_frozen BK146.out 4
            go_wp2
            go_meet
            case rel => exact ⟨_, (((l0_4.length : Int) != (l1_4.length : Int))), (by first | rfl | (simp; done) | (simp [*]; done)), H', ⟨by first | omega | exact Nat.le_refl _⟩, ⟨by (with_reducible repeat (first | refine blk_drewN ?_ _ | refine blk_drew ?_ | refine blk_alloc ?_ _)); exact BK145.out⟩, ⟨by (with_reducible repeat (first | refine blk_drewN ?_ _ | refine blk_drew ?_ | refine blk_alloc ?_ _)); exact BK146.out⟩, ⟨by repeat (first | (with_reducible first | exact HB.out | apply below_alloc | apply pw_below_drewN | apply below_drew1 | refine below_set ?_ GE145.out | refine below_set ?_ GE146.out) | exact HB.out)⟩⟩
          · rw [if_neg c9] at H
            have c9b0 : ((l0_3.length : Int) == (l1_3.length : Int)) = false := beq_eq_false_iff_ne.mpr c9
            have c9b1 : ((l0_3.length : Int) != (l1_3.length : Int)) = true := bne_iff_ne.mpr c9
            have c9b2 : (l0_3.length == l1_3.length) = false := by first | simpa using c9 | (simp at c9 ⊢; omega)
            have H' := Aside0.mk H
            clear H
            have hnb13 := NB145_146.out
            have hnc13 := NB146_145.out
            have hcz14_0 : w5.cell? ⟨gb145, 0, none⟩ = some (.int .i64 a0_0) := (blk_cell BK145.out 0).trans rfl
            have hcz14_1 : w5.cell? ⟨gb145, 1, none⟩ = some (.int .i64 a0_1) := (blk_cell BK145.out 1).trans rfl
            have hcz14_2 : w5.cell? ⟨gb145, 2, none⟩ = some (.string a0_2) := (blk_cell BK145.out 2).trans rfl
            have hcz14_3 : w5.cell? ⟨gb145, 3, none⟩ = some (.slice A0_3 l0_3.length c0_3) := (blk_cell BK145.out 3).trans rfl
            have hcz14_4 : w5.cell? ⟨gb145, 4, none⟩ = some (.slice A0_4 l0_4.length c0_4) := (blk_cell BK145.out 4).trans rfl
            have hfz14_0 := blk_frozen BK145.out 0
            have hfz14_1 := blk_frozen BK145.out 1
            have hfz14_2 := blk_frozen BK145.out 2
            have hfz14_3 := blk_frozen BK145.out 3
            have hfz14_4 := blk_frozen BK145.out 4
            have hcz15_0 : w5.cell? ⟨gb146, 0, none⟩ = some (.int .i64 a1_0) := (blk_cell BK146.out 0).trans rfl
            have hcz15_1 : w5.cell? ⟨gb146, 1, none⟩ = some (.int .i64 a1_1) := (blk_cell BK146.out 1).trans rfl
            have hcz15_2 : w5.cell? ⟨gb146, 2, none⟩ = some (.string a1_2) := (blk_cell BK146.out 2).trans rfl
            have hcz15_3 : w5.cell? ⟨gb146, 3, none⟩ = some (.slice A1_3 l1_3.length c1_3) := (blk_cell BK146.out 3).trans rfl
            have hcz15_4 : w5.cell? ⟨gb146, 4, none⟩ = some (.slice A1_4 l1_4.length c1_4) := (blk_cell BK146.out 4).trans rfl
            have hfz15_0 := blk_frozen BK146.out 0
            have hfz15_1 := blk_frozen BK146.out 1
            have hfz15_2 := blk_frozen BK146.out 2
            have hfz15_3 := blk_frozen BK146.out 3
            have hfz15_4 := blk_frozen BK146.out 4
            go_wp2
            go_meet
            case rel => exact ⟨_, (true), (by first | rfl | (simp; done) | (simp [*]; done)), H', ⟨by first | omega | exact Nat.le_refl _⟩, ⟨by (with_reducible repeat (first | refine blk_drewN ?_ _ | refine blk_drew ?_ | refine blk_alloc ?_ _)); exact BK145.out⟩, ⟨by (with_reducible repeat (first | refine blk_drewN ?_ _ | refine blk_drew ?_ | refine blk_alloc ?_ _)); exact BK146.out⟩, ⟨by repeat (first | (with_reducible first | exact HB.out | apply below_alloc | apply pw_below_drewN | apply below_drew1 | refine below_set ?_ GE145.out | refine below_set ?_ GE146.out) | exact HB.out)⟩⟩
        · rw [if_neg c8] at H
          have c8b0 : (a0_2.toList == a1_2.toList) = false := beq_eq_false_iff_ne.mpr c8
          have c8b1 : (a0_2.toList != a1_2.toList) = true := bne_iff_ne.mpr c8
          have H' := Aside0.mk H
          clear H
          have hnb16 := NB145_146.out
          have hnc16 := NB146_145.out
          have hcz17_0 : w5.cell? ⟨gb145, 0, none⟩ = some (.int .i64 a0_0) := (blk_cell BK145.out 0).trans rfl
          have hcz17_1 : w5.cell? ⟨gb145, 1, none⟩ = some (.int .i64 a0_1) := (blk_cell BK145.out 1).trans rfl
          have hcz17_2 : w5.cell? ⟨gb145, 2, none⟩ = some (.string a0_2) := (blk_cell BK145.out 2).trans rfl
          have hcz17_3 : w5.cell? ⟨gb145, 3, none⟩ = some (.slice A0_3 l0_3.length c0_3) := (blk_cell BK145.out 3).trans rfl
          have hcz17_4 : w5.cell? ⟨gb145, 4, none⟩ = some (.slice A0_4 l0_4.length c0_4) := (blk_cell BK145.out 4).trans rfl
          have hfz17_0 := blk_frozen BK145.out 0
          have hfz17_1 := blk_frozen BK145.out 1
          have hfz17_2 := blk_frozen BK145.out 2
          have hfz17_3 := blk_frozen BK145.out 3
          have hfz17_4 := blk_frozen BK145.out 4
          have hcz18_0 : w5.cell? ⟨gb146, 0, none⟩ = some (.int .i64 a1_0) := (blk_cell BK146.out 0).trans rfl
          have hcz18_1 : w5.cell? ⟨gb146, 1, none⟩ = some (.int .i64 a1_1) := (blk_cell BK146.out 1).trans rfl
          have hcz18_2 : w5.cell? ⟨gb146, 2, none⟩ = some (.string a1_2) := (blk_cell BK146.out 2).trans rfl
          have hcz18_3 : w5.cell? ⟨gb146, 3, none⟩ = some (.slice A1_3 l1_3.length c1_3) := (blk_cell BK146.out 3).trans rfl
          have hcz18_4 : w5.cell? ⟨gb146, 4, none⟩ = some (.slice A1_4 l1_4.length c1_4) := (blk_cell BK146.out 4).trans rfl
          have hfz18_0 := blk_frozen BK146.out 0
          have hfz18_1 := blk_frozen BK146.out 1
          have hfz18_2 := blk_frozen BK146.out 2
          have hfz18_3 := blk_frozen BK146.out 3
          have hfz18_4 := blk_frozen BK146.out 4
          go_wp2
          go_meet
          case rel => exact ⟨_, (true), (by first | rfl | (simp; done) | (simp [*]; done)), H', ⟨by first | omega | exact Nat.le_refl _⟩, ⟨by (with_reducible repeat (first | refine blk_drewN ?_ _ | refine blk_drew ?_ | refine blk_alloc ?_ _)); exact BK145.out⟩, ⟨by (with_reducible repeat (first | refine blk_drewN ?_ _ | refine blk_drew ?_ | refine blk_alloc ?_ _)); exact BK146.out⟩, ⟨by repeat (first | (with_reducible first | exact HB.out | apply below_alloc | apply pw_below_drewN | apply below_drew1 | refine below_set ?_ GE145.out | refine below_set ?_ GE146.out) | exact HB.out)⟩⟩
      · rw [if_neg c7] at H
        have c7b0 : (a0_1 == a1_1) = false := beq_eq_false_iff_ne.mpr c7
        have c7b1 : (a0_1 != a1_1) = true := bne_iff_ne.mpr c7
        have H' := Aside0.mk H
        clear H
        have hnb19 := NB145_146.out
        have hnc19 := NB146_145.out
        have hcz20_0 : w5.cell? ⟨gb145, 0, none⟩ = some (.int .i64 a0_0) := (blk_cell BK145.out 0).trans rfl
        have hcz20_1 : w5.cell? ⟨gb145, 1, none⟩ = some (.int .i64 a0_1) := (blk_cell BK145.out 1).trans rfl
        have hcz20_2 : w5.cell? ⟨gb145, 2, none⟩ = some (.string a0_2) := (blk_cell BK145.out 2).trans rfl
        have hcz20_3 : w5.cell? ⟨gb145, 3, none⟩ = some (.slice A0_3 l0_3.length c0_3) := (blk_cell BK145.out 3).trans rfl
        have hcz20_4 : w5.cell? ⟨gb145, 4, none⟩ = some (.slice A0_4 l0_4.length c0_4) := (blk_cell BK145.out 4).trans rfl
        have hfz20_0 := blk_frozen BK145.out 0
        have hfz20_1 := blk_frozen BK145.out 1
        have hfz20_2 := blk_frozen BK145.out 2
        have hfz20_3 := blk_frozen BK145.out 3
        have hfz20_4 := blk_frozen BK145.out 4
        have hcz21_0 : w5.cell? ⟨gb146, 0, none⟩ = some (.int .i64 a1_0) := (blk_cell BK146.out 0).trans rfl
        have hcz21_1 : w5.cell? ⟨gb146, 1, none⟩ = some (.int .i64 a1_1) := (blk_cell BK146.out 1).trans rfl
        have hcz21_2 : w5.cell? ⟨gb146, 2, none⟩ = some (.string a1_2) := (blk_cell BK146.out 2).trans rfl
        have hcz21_3 : w5.cell? ⟨gb146, 3, none⟩ = some (.slice A1_3 l1_3.length c1_3) := (blk_cell BK146.out 3).trans rfl
        have hcz21_4 : w5.cell? ⟨gb146, 4, none⟩ = some (.slice A1_4 l1_4.length c1_4) := (blk_cell BK146.out 4).trans rfl
        have hfz21_0 := blk_frozen BK146.out 0
        have hfz21_1 := blk_frozen BK146.out 1
        have hfz21_2 := blk_frozen BK146.out 2
        have hfz21_3 := blk_frozen BK146.out 3
        have hfz21_4 := blk_frozen BK146.out 4
        go_wp2
        go_meet
        case rel => exact ⟨_, (true), (by first | rfl | (simp; done) | (simp [*]; done)), H', ⟨by first | omega | exact Nat.le_refl _⟩, ⟨by (with_reducible repeat (first | refine blk_drewN ?_ _ | refine blk_drew ?_ | refine blk_alloc ?_ _)); exact BK145.out⟩, ⟨by (with_reducible repeat (first | refine blk_drewN ?_ _ | refine blk_drew ?_ | refine blk_alloc ?_ _)); exact BK146.out⟩, ⟨by repeat (first | (with_reducible first | exact HB.out | apply below_alloc | apply pw_below_drewN | apply below_drew1 | refine below_set ?_ GE145.out | refine below_set ?_ GE146.out) | exact HB.out)⟩⟩
    · rw [if_neg c6] at H
      have c6b0 : (a0_0 == a1_0) = false := beq_eq_false_iff_ne.mpr c6
      have c6b1 : (a0_0 != a1_0) = true := bne_iff_ne.mpr c6
      (first | rw [c6b0] | (simp only [i64_w, i32_w]; rw [c6b0]) | skip)
      have H' := Aside0.mk H
      clear H
      have hnb22 := NB145_146.out
      have hnc22 := NB146_145.out
      have hcz23_0 : w5.cell? ⟨gb145, 0, none⟩ = some (.int .i64 a0_0) := (blk_cell BK145.out 0).trans rfl
      have hcz23_1 : w5.cell? ⟨gb145, 1, none⟩ = some (.int .i64 a0_1) := (blk_cell BK145.out 1).trans rfl
      have hcz23_2 : w5.cell? ⟨gb145, 2, none⟩ = some (.string a0_2) := (blk_cell BK145.out 2).trans rfl
      have hcz23_3 : w5.cell? ⟨gb145, 3, none⟩ = some (.slice A0_3 l0_3.length c0_3) := (blk_cell BK145.out 3).trans rfl
      have hcz23_4 : w5.cell? ⟨gb145, 4, none⟩ = some (.slice A0_4 l0_4.length c0_4) := (blk_cell BK145.out 4).trans rfl
      have hfz23_0 := blk_frozen BK145.out 0
      have hfz23_1 := blk_frozen BK145.out 1
      have hfz23_2 := blk_frozen BK145.out 2
      have hfz23_3 := blk_frozen BK145.out 3
      have hfz23_4 := blk_frozen BK145.out 4
      have hcz24_0 : w5.cell? ⟨gb146, 0, none⟩ = some (.int .i64 a1_0) := (blk_cell BK146.out 0).trans rfl
      have hcz24_1 : w5.cell? ⟨gb146, 1, none⟩ = some (.int .i64 a1_1) := (blk_cell BK146.out 1).trans rfl
      have hcz24_2 : w5.cell? ⟨gb146, 2, none⟩ = some (.string a1_2) := (blk_cell BK146.out 2).trans rfl
      have hcz24_3 : w5.cell? ⟨gb146, 3, none⟩ = some (.slice A1_3 l1_3.length c1_3) := (blk_cell BK146.out 3).trans rfl
      have hcz24_4 : w5.cell? ⟨gb146, 4, none⟩ = some (.slice A1_4 l1_4.length c1_4) := (blk_cell BK146.out 4).trans rfl
      have hfz24_0 := blk_frozen BK146.out 0
      have hfz24_1 := blk_frozen BK146.out 1
      have hfz24_2 := blk_frozen BK146.out 2
      have hfz24_3 := blk_frozen BK146.out 3
      have hfz24_4 := blk_frozen BK146.out 4
      go_wp2
      go_meet
      case rel => exact ⟨_, (true), (by first | rfl | (simp; done) | (simp [*]; done)), H', ⟨by first | omega | exact Nat.le_refl _⟩, ⟨by (with_reducible repeat (first | refine blk_drewN ?_ _ | refine blk_drew ?_ | refine blk_alloc ?_ _)); exact BK145.out⟩, ⟨by (with_reducible repeat (first | refine blk_drewN ?_ _ | refine blk_drew ?_ | refine blk_alloc ?_ _)); exact BK146.out⟩, ⟨by repeat (first | (with_reducible first | exact HB.out | apply below_alloc | apply pw_below_drewN | apply below_drew1 | refine below_set ?_ GE145.out | refine below_set ?_ GE146.out) | exact HB.out)⟩⟩
  case rest =>
    clear HC3
    try clear c1
    try clear c2
    try clear p2
    try clear c6
    try clear c6b0
    try clear c6b1
    try clear c7
    try clear c7b0
    try clear c7b1
    try clear c8
    try clear c8b0
    try clear c8b1
    try clear c9
    try clear c9b0
    try clear c9b1
    try clear c9b2
    try clear c10
    try clear c13
    try clear c14
    try clear c16
    try clear c19
    try clear c22
    try clear hcz11_0
    try clear hcz11_1
    try clear hcz11_2
    try clear hcz11_3
    try clear hcz11_4
    try clear hcz12_0
    try clear hcz12_1
    try clear hcz12_2
    try clear hcz12_3
    try clear hcz12_4
    try clear hcz14_0
    try clear hcz14_1
    try clear hcz14_2
    try clear hcz14_3
    try clear hcz14_4
    try clear hcz15_0
    try clear hcz15_1
    try clear hcz15_2
    try clear hcz15_3
    try clear hcz15_4
    try clear hcz17_0
    try clear hcz17_1
    try clear hcz17_2
    try clear hcz17_3
    try clear hcz17_4
    try clear hcz18_0
    try clear hcz18_1
    try clear hcz18_2
    try clear hcz18_3
    try clear hcz18_4
    try clear hcz20_0
    try clear hcz20_1
    try clear hcz20_2
    try clear hcz20_3
    try clear hcz20_4
    try clear hcz21_0
    try clear hcz21_1
    try clear hcz21_2
    try clear hcz21_3
    try clear hcz21_4
    try clear hcz23_0
    try clear hcz23_1
    try clear hcz23_2
    try clear hcz23_3
    try clear hcz23_4
    try clear hcz24_0
    try clear hcz24_1
    try clear hcz24_2
    try clear hcz24_3
    try clear hcz24_4
    try clear hfz11_0
    try clear hfz11_1
    try clear hfz11_2
    try clear hfz11_3
    try clear hfz11_4
    try clear hfz12_0
    try clear hfz12_1
    try clear hfz12_2
    try clear hfz12_3
    try clear hfz12_4
    try clear hfz14_0
    try clear hfz14_1
    try clear hfz14_2
    try clear hfz14_3
    try clear hfz14_4
    try clear hfz15_0
    try clear hfz15_1
    try clear hfz15_2
    try clear hfz15_3
    try clear hfz15_4
    try clear hfz17_0
    try clear hfz17_1
    try clear hfz17_2
    try clear hfz17_3
    try clear hfz17_4
    try clear hfz18_0
    try clear hfz18_1
    try clear hfz18_2
    try clear hfz18_3
    try clear hfz18_4
    try clear hfz20_0
    try clear hfz20_1
    try clear hfz20_2
    try clear hfz20_3
    try clear hfz20_4
    try clear hfz21_0
    try clear hfz21_1
    try clear hfz21_2
    try clear hfz21_3
    try clear hfz21_4
    try clear hfz23_0
    try clear hfz23_1
    try clear hfz23_2
    try clear hfz23_3
    try clear hfz23_4
    try clear hfz24_0
    try clear hfz24_1
    try clear hfz24_2
    try clear hfz24_3
    try clear hfz24_4
    obtain ⟨kq, x43_2, rfl, HA, HJ2, BK145, BK146, HB⟩ := hcut
    cases kq with
    | zero => exact absurd HA.out (by simp [spec_Same.j0])
    | succ kj2 =>
      have H := HA.out
      clear HA
      simp only [spec_Same.j0] at H
      by_cases c25 : x43_2 = true
      · subst c25
        have H1 : (some false) = some r := by rw [if_pos rfl] at H; exact H
        clear H
        have H := H1
        clear H1
        obtain rfl := Option.some.inj H
        go_wp2
        go_ret
        exact ⟨by first | rfl | (simp [errW_none, errW_some] <;> rfl) | (simp [*, errW_none, errW_some] <;> rfl), by repeat (first | (with_reducible first | exact HB.out | apply below_alloc | apply pw_below_drewN | apply below_drew1 | refine below_set ?_ GE145.out | refine below_set ?_ GE146.out) | exact HB.out)⟩
      · replace c25 := Bool.eq_false_iff.mpr c25
        subst c25
        have H1 : (spec_Same.l0 kj2 0 a0_0 a0_1 a0_2 l0_3 l0_4 a1_0 a1_1 a1_2 l1_3 l1_4) = some r := by rw [if_neg (show ¬ (false = true) by decide)] at H; exact H
        clear H
        have H := H1
        clear H1
        have H' := Aside0.mk H
        clear H
        go_wp2
        go_loopg [5] kj2 (fun kq v5 w' => ∃ (x5_2 : Int), v5 = .int .i64 x5_2 ∧ Aside0 (spec_Same.l0 kq x5_2 a0_0 a0_1 a0_2 l0_3 l0_4 a1_0 a1_1 a1_2 l1_3 l1_4 = some r) ∧ Aside0 (kq ≤ kj2) ∧ Aside0 (w'.heap[gb145]? = some (.cells #[.int .i64 a0_0, .int .i64 a0_1, .string a0_2, (.slice A0_3 l0_3.length c0_3), (.slice A0_4 l0_4.length c0_4)] 25 (0, 0))) ∧ Aside0 (w'.heap[gb146]? = some (.cells #[.int .i64 a1_0, .int .i64 a1_1, .string a1_2, (.slice A1_3 l1_3.length c1_3), (.slice A1_4 l1_4.length c1_4)] 25 (0, 0))) ∧ Aside0 (Below w.heap.size w w'))
        case atStart => exact ⟨(0), (by first | rfl | (simp; done) | (simp [*]; done)), H', ⟨Nat.le_refl _⟩, ⟨by (with_reducible repeat (first | refine blk_drewN ?_ _ | refine blk_drew ?_ | refine blk_alloc ?_ _)); exact BK145.out⟩, ⟨by (with_reducible repeat (first | refine blk_drewN ?_ _ | refine blk_drew ?_ | refine blk_alloc ?_ _)); exact BK146.out⟩, ⟨by repeat (first | (with_reducible first | exact HB.out | apply below_alloc | apply pw_below_drewN | apply below_drew1 | refine below_set ?_ GE145.out | refine below_set ?_ GE146.out) | exact HB.out)⟩⟩
        case round =>
          clear H'
          try clear c1
          try clear c2
          try clear p2
          try clear c6
          try clear c6b0
          try clear c6b1
          try clear c7
          try clear c7b0
          try clear c7b1
          try clear c8
          try clear c8b0
          try clear c8b1
          try clear c9
          try clear c9b0
          try clear c9b1
          try clear c9b2
          try clear c10
          try clear c13
          try clear c14
          try clear c16
          try clear c19
          try clear c22
          try clear c25
          try clear hcz11_0
          try clear hcz11_1
          try clear hcz11_2
          try clear hcz11_3
          try clear hcz11_4
          try clear hcz12_0
          try clear hcz12_1
          try clear hcz12_2
          try clear hcz12_3
          try clear hcz12_4
          try clear hcz14_0
          try clear hcz14_1
          try clear hcz14_2
          try clear hcz14_3
          try clear hcz14_4
          try clear hcz15_0
          try clear hcz15_1
          try clear hcz15_2
          try clear hcz15_3
          try clear hcz15_4
          try clear hcz17_0
          try clear hcz17_1
          try clear hcz17_2
          try clear hcz17_3
          try clear hcz17_4
          try clear hcz18_0
          try clear hcz18_1
          try clear hcz18_2
          try clear hcz18_3
          try clear hcz18_4
          try clear hcz20_0
          try clear hcz20_1
          try clear hcz20_2
          try clear hcz20_3
          try clear hcz20_4
          try clear hcz21_0
          try clear hcz21_1
          try clear hcz21_2
          try clear hcz21_3
          try clear hcz21_4
          try clear hcz23_0
          try clear hcz23_1
          try clear hcz23_2
          try clear hcz23_3
          try clear hcz23_4
          try clear hcz24_0
          try clear hcz24_1
          try clear hcz24_2
          try clear hcz24_3
          try clear hcz24_4
          try clear hfz11_0
          try clear hfz11_1
          try clear hfz11_2
          try clear hfz11_3
          try clear hfz11_4
          try clear hfz12_0
          try clear hfz12_1
          try clear hfz12_2
          try clear hfz12_3
          try clear hfz12_4
          try clear hfz14_0
          try clear hfz14_1
          try clear hfz14_2
          try clear hfz14_3
          try clear hfz14_4
          try clear hfz15_0
          try clear hfz15_1
          try clear hfz15_2
          try clear hfz15_3
          try clear hfz15_4
          try clear hfz17_0
          try clear hfz17_1
          try clear hfz17_2
          try clear hfz17_3
          try clear hfz17_4
          try clear hfz18_0
          try clear hfz18_1
          try clear hfz18_2
          try clear hfz18_3
          try clear hfz18_4
          try clear hfz20_0
          try clear hfz20_1
          try clear hfz20_2
          try clear hfz20_3
          try clear hfz20_4
          try clear hfz21_0
          try clear hfz21_1
          try clear hfz21_2
          try clear hfz21_3
          try clear hfz21_4
          try clear hfz23_0
          try clear hfz23_1
          try clear hfz23_2
          try clear hfz23_3
          try clear hfz23_4
          try clear hfz24_0
          try clear hfz24_1
          try clear hfz24_2
          try clear hfz24_3
          try clear hfz24_4
          try clear p2
          obtain ⟨x5_2, rfl, HA, HK2, BK145, BK146, HB⟩ := hrel
          cases gk with
          | zero => exact absurd HA.out (by simp [spec_Same.l0])
          | succ k2 =>
            have H := HA.out
            clear HA
            simp only [spec_Same.l0] at H
            by_cases c26 : x5_2 < (l0_3.length : Int)
            · rw [if_pos c26] at H
              have c26b0 : decide (x5_2 < (l0_3.length : Int)) = true := decide_eq_true c26
              clear c26
              by_cases c27 : 0 ≤ x5_2
              · rw [if_pos c27] at H
                have c27b0 : decide (0 ≤ x5_2) = true := decide_eq_true c27
                clear c27
                by_cases c28 : x5_2 < (l1_3.length : Int)
                · rw [if_pos c28] at H
                  have c28b0 : decide (x5_2 < (l1_3.length : Int)) = true := decide_eq_true c28
                  clear c28
                  by_cases c29 : (rdOf ByteArray.empty l0_3 x5_2).toList = (rdOf ByteArray.empty l1_3 x5_2).toList
                  · rw [if_pos c29] at H
                    have c29b0 : ((rdOf ByteArray.empty l0_3 x5_2).toList == (rdOf ByteArray.empty l1_3 x5_2).toList) = true := beq_iff_eq.mpr c29
                    have c29b1 : ((rdOf ByteArray.empty l0_3 x5_2).toList != (rdOf ByteArray.empty l1_3 x5_2).toList) = false := bne_eq_false_iff_eq.mpr c29
                    clear c29
                    have H' := Aside0.mk H
                    clear H
                    have hnb30 := NB145_146.out
                    have hnc30 := NB146_145.out
                    have hcz31_0 : wr.cell? ⟨gb145, 0, none⟩ = some (.int .i64 a0_0) := (blk_cell BK145.out 0).trans rfl
                    have hcz31_1 : wr.cell? ⟨gb145, 1, none⟩ = some (.int .i64 a0_1) := (blk_cell BK145.out 1).trans rfl
                    have hcz31_2 : wr.cell? ⟨gb145, 2, none⟩ = some (.string a0_2) := (blk_cell BK145.out 2).trans rfl
                    have hcz31_3 : wr.cell? ⟨gb145, 3, none⟩ = some (.slice A0_3 l0_3.length c0_3) := (blk_cell BK145.out 3).trans rfl
                    have hcz31_4 : wr.cell? ⟨gb145, 4, none⟩ = some (.slice A0_4 l0_4.length c0_4) := (blk_cell BK145.out 4).trans rfl
                    have hfz31_0 := blk_frozen BK145.out 0
                    have hfz31_1 := blk_frozen BK145.out 1
                    have hfz31_2 := blk_frozen BK145.out 2
                    have hfz31_3 := blk_frozen BK145.out 3
                    have hfz31_4 := blk_frozen BK145.out 4
                    try go_wp2
                    have n0_ := Aside0.mk (blk_drew BK145.out)
                    have n1_ := Aside0.mk (blk_drew BK146.out)
                    have n2_ := Aside0.mk (below_drew1 HB.out)
                    clear BK145
                    clear BK146
                    clear HB
                    have BK145 := n0_
                    have BK146 := n1_
                    have HB := n2_
                    clear n0_ n1_ n2_
                    have p147 : 0 ≤ (x5_2 : Int) := of_decide_eq_true (by first | (with_reducible assumption) | assumption)
                    have q147 : x5_2 < (l0_3.length : Int) := of_decide_eq_true (by first | (with_reducible assumption) | assumption)
                    obtain ⟨ad147, e147, hx147_0⟩ := Kd.at_string HR0_3.out x5_2 p147 q147
                    have hw147_0 := hx147_0
                    cases e147
                    replace hx147_0 := (HB.out.cell (World.block_lt_of_cell? w _ hx147_0)).trans hx147_0
                    replace p147 := eq_true p147
                    replace q147 := eq_true q147
                    have p148 : 0 ≤ (x5_2 : Int) := of_decide_eq_true (by first | (with_reducible assumption) | assumption)
                    have q148 : x5_2 < (l1_3.length : Int) := of_decide_eq_true (by first | (with_reducible assumption) | assumption)
                    obtain ⟨ad148, e148, hx148_0⟩ := Kd.at_string HR1_3.out x5_2 p148 q148
                    have hw148_0 := hx148_0
                    cases e148
                    replace hx148_0 := (HB.out.cell (World.block_lt_of_cell? w _ hx148_0)).trans hx148_0
                    replace p148 := eq_true p148
                    replace q148 := eq_true q148
                    refine start_ (n := 11) (S := fun w' => w'.cell? ⟨gb145, 0, none⟩ = some (.int .i64 a0_0) ∧ w'.cell? ⟨gb145, 1, none⟩ = some (.int .i64 a0_1) ∧ w'.cell? ⟨gb145, 2, none⟩ = some (.string a0_2) ∧ w'.cell? ⟨gb145, 3, none⟩ = some (.slice (some ad147) l0_3.length c0_3) ∧ w'.cell? ⟨gb145, 4, none⟩ = some (.slice A0_4 l0_4.length c0_4) ∧ w'.cell? ⟨gb146, 0, none⟩ = some (.int .i64 a1_0) ∧ w'.cell? ⟨gb146, 1, none⟩ = some (.int .i64 a1_1) ∧ w'.cell? ⟨gb146, 2, none⟩ = some (.string a1_2) ∧ w'.cell? ⟨gb146, 3, none⟩ = some (.slice (some ad148) l1_3.length c1_3) ∧ w'.cell? ⟨gb146, 4, none⟩ = some (.slice A1_4 l1_4.length c1_4) ∧ w'.cell? (ad147.add (x5_2).toNat) = some (.string (rdOf ByteArray.empty l0_3 x5_2)) ∧ w'.cell? (ad148.add (x5_2).toNat) = some (.string (rdOf ByteArray.empty l1_3 x5_2))) (ds := []) #[false, false, false, false, false, false, false, false, false, false, false] (by kernel_rfl) rfl rfl ⟨(blk_cell BK145.out 0).trans rfl, (blk_cell BK145.out 1).trans rfl, (blk_cell BK145.out 2).trans rfl, (blk_cell BK145.out 3).trans rfl, (blk_cell BK145.out 4).trans rfl, (blk_cell BK146.out 0).trans rfl, (blk_cell BK146.out 1).trans rfl, (blk_cell BK146.out 2).trans rfl, (blk_cell BK146.out 3).trans rfl, (blk_cell BK146.out 4).trans rfl, ((HB.out.cell (World.block_lt_of_cell? w _ hw147_0)).trans hw147_0), ((HB.out.cell (World.block_lt_of_cell? w _ hw148_0)).trans hw148_0)⟩ (fun hHeld => ?_); refine with_tabW spec_Same.tab6 spec_Same.bits6 (fun HT_ HW_ => ?_)
                    generalize wr.drew = w32 at BK145 BK146 HB hx147_0 hx148_0 hHeld ⊢
                    refine pure_ (i := 0) (N := some 51) (v := ?_) (a' := ?_) #[true, false, false, false, false, false, false, false, false, false, false] rfl rfl (any_of HT_.out (by kernel_rfl)) (fun _ _ _ h => h) (Or.inl ⟨by rfl, ?_⟩) ?_ ?_
                    rotate_left
                    · intro w'
                      go_simp
                      with_reducible rfl
                    rotate_left
                    · simp only [Act.put, List.setIfInBounds_toArray, List.set_cons_zero, List.set_cons_succ, i64_w, i32_w]
                      rfl
                    refine pure_ (i := 2) (N := some 53) (v := ?_) (a' := ?_) #[true, false, true, false, false, false, false, false, false, false, false] rfl rfl (any_of HT_.out (by kernel_rfl)) (fun _ _ _ h => h) (Or.inl ⟨by rfl, ?_⟩) ?_ ?_
                    rotate_left
                    · intro w'
                      go_simp
                      with_reducible rfl
                    rotate_left
                    · simp only [Act.put, List.setIfInBounds_toArray, List.set_cons_zero, List.set_cons_succ, i64_w, i32_w]
                      rfl
                    refine pure_ (i := 5) (N := some 56) (v := ?_) (a' := ?_) #[true, false, true, false, false, true, false, false, false, false, false] rfl rfl (any_of HT_.out (by kernel_rfl)) (fun _ _ _ h => h) (Or.inl ⟨by rfl, ?_⟩) ?_ ?_
                    rotate_left
                    · intro w'
                      go_simp
                      with_reducible rfl
                    rotate_left
                    · simp only [Act.put, List.setIfInBounds_toArray, List.set_cons_zero, List.set_cons_succ, i64_w, i32_w]
                      rfl
                    refine pure_ (i := 7) (N := some 58) (v := ?_) (a' := ?_) #[true, false, true, false, false, true, false, true, false, false, false] rfl rfl (any_of HT_.out (by kernel_rfl)) (fun _ _ _ h => h) (Or.inl ⟨by rfl, ?_⟩) ?_ ?_
                    rotate_left
                    · intro w'
                      go_simp
                      with_reducible rfl
                    rotate_left
                    · simp only [Act.put, List.setIfInBounds_toArray, List.set_cons_zero, List.set_cons_succ, i64_w, i32_w]
                      rfl
                    refine take_ (i := 1) (N := some 52) (v := ?_) (a' := ?_) #[true, true, true, false, false, true, false, true, false, false, false] rfl rfl (take_ofW HT_.out HW_.out (by kernel_rfl)) (fun _ _ _ h => h) (Or.inl ⟨by rfl, ?_⟩) hHeld ?_ ?_
                    rotate_left
                    · rintro w' ⟨s0, s1, s2, s3, s4, s5, s6, s7, s8, s9, s10, s11⟩
                      go_simp
                      with_reducible rfl
                    rotate_left
                    · simp only [Act.put, List.setIfInBounds_toArray, List.set_cons_zero, List.set_cons_succ, i64_w, i32_w]
                      rfl
                    refine pure_ (i := 3) (N := some 54) (v := ?_) (a' := ?_) #[true, true, true, true, false, true, false, true, false, false, false] rfl rfl (any_of HT_.out (by kernel_rfl)) (fun _ _ _ h => h) (Or.inl ⟨by rfl, ?_⟩) ?_ ?_
                    rotate_left
                    · intro w'
                      go_simp
                      with_reducible rfl
                    rotate_left
                    · simp only [Act.put, List.setIfInBounds_toArray, List.set_cons_zero, List.set_cons_succ, i64_w, i32_w]
                      rfl
                    refine take_ (i := 4) (N := some 55) (v := ?_) (a' := ?_) #[true, true, true, true, true, true, false, true, false, false, false] rfl rfl (take_ofW HT_.out HW_.out (by kernel_rfl)) (fun _ _ _ h => h) (Or.inl ⟨by rfl, ?_⟩) hHeld ?_ ?_
                    rotate_left
                    · rintro w' ⟨s0, s1, s2, s3, s4, s5, s6, s7, s8, s9, s10, s11⟩
                      go_simp
                      with_reducible rfl
                    rotate_left
                    · simp only [Act.put, List.setIfInBounds_toArray, List.set_cons_zero, List.set_cons_succ, i64_w, i32_w]
                      rfl
                    refine take_ (i := 6) (N := some 57) (v := ?_) (a' := ?_) #[true, true, true, true, true, true, true, true, false, false, false] rfl rfl (take_ofW HT_.out HW_.out (by kernel_rfl)) (fun _ _ _ h => h) (Or.inl ⟨by rfl, ?_⟩) hHeld ?_ ?_
                    rotate_left
                    · rintro w' ⟨s0, s1, s2, s3, s4, s5, s6, s7, s8, s9, s10, s11⟩
                      go_simp
                      with_reducible rfl
                    rotate_left
                    · simp only [Act.put, List.setIfInBounds_toArray, List.set_cons_zero, List.set_cons_succ, i64_w, i32_w]
                      rfl
                    refine pure_ (i := 8) (N := some 59) (v := ?_) (a' := ?_) #[true, true, true, true, true, true, true, true, true, false, false] rfl rfl (any_of HT_.out (by kernel_rfl)) (fun _ _ _ h => h) (Or.inl ⟨by rfl, ?_⟩) ?_ ?_
                    rotate_left
                    · intro w'
                      go_simp
                      with_reducible rfl
                    rotate_left
                    · simp only [Act.put, List.setIfInBounds_toArray, List.set_cons_zero, List.set_cons_succ, i64_w, i32_w]
                      rfl
                    refine take_ (i := 9) (N := some 60) (v := ?_) (a' := ?_) #[true, true, true, true, true, true, true, true, true, true, false] rfl rfl (take_ofW HT_.out HW_.out (by kernel_rfl)) (fun _ _ _ h => h) (Or.inl ⟨by rfl, ?_⟩) hHeld ?_ ?_
                    rotate_left
                    · rintro w' ⟨s0, s1, s2, s3, s4, s5, s6, s7, s8, s9, s10, s11⟩
                      go_simp
                      with_reducible rfl
                    rotate_left
                    · simp only [Act.put, List.setIfInBounds_toArray, List.set_cons_zero, List.set_cons_succ, i64_w, i32_w]
                      rfl
                    refine pure_ (i := 10) (N := some 61) (v := ?_) (a' := ?_) #[true, true, true, true, true, true, true, true, true, true, true] rfl rfl (any_of HT_.out (by kernel_rfl)) (fun _ _ _ h => h) (Or.inl ⟨by rfl, ?_⟩) ?_ ?_
                    rotate_left
                    · intro w'
                      go_simp
                      with_reducible rfl
                    rotate_left
                    · simp only [Act.put, List.setIfInBounds_toArray, List.set_cons_zero, List.set_cons_succ, i64_w, i32_w]
                      rfl
                    refine done_ (done_of HT_.out (by kernel_rfl)) ?_
                    try go_wp2
                    go_roundg k2
                    case measure => have := HJ2.out; have := HK2.out; omega
                    case rel => exact ⟨(wrap64 (x5_2 + 1)), (by first | rfl | (simp; done) | (simp [*]; done)), H', ⟨by have := HJ2.out; have := HK2.out; omega⟩, ⟨by (with_reducible repeat (first | refine blk_drewN ?_ _ | refine blk_drew ?_ | refine blk_alloc ?_ _)); exact BK145.out⟩, ⟨by (with_reducible repeat (first | refine blk_drewN ?_ _ | refine blk_drew ?_ | refine blk_alloc ?_ _)); exact BK146.out⟩, ⟨by repeat (first | (with_reducible first | exact HB.out | apply below_alloc | apply pw_below_drewN | apply below_drew1 | refine below_set ?_ GE145.out | refine below_set ?_ GE146.out) | exact HB.out)⟩⟩
                  · rw [if_neg c29] at H
                    have c29b0 : ((rdOf ByteArray.empty l0_3 x5_2).toList == (rdOf ByteArray.empty l1_3 x5_2).toList) = false := beq_eq_false_iff_ne.mpr c29
                    have c29b1 : ((rdOf ByteArray.empty l0_3 x5_2).toList != (rdOf ByteArray.empty l1_3 x5_2).toList) = true := bne_iff_ne.mpr c29
                    obtain rfl := Option.some.inj H
                    have hnb33 := NB145_146.out
                    have hnc33 := NB146_145.out
                    have hcz34_0 : wr.cell? ⟨gb145, 0, none⟩ = some (.int .i64 a0_0) := (blk_cell BK145.out 0).trans rfl
                    have hcz34_1 : wr.cell? ⟨gb145, 1, none⟩ = some (.int .i64 a0_1) := (blk_cell BK145.out 1).trans rfl
                    have hcz34_2 : wr.cell? ⟨gb145, 2, none⟩ = some (.string a0_2) := (blk_cell BK145.out 2).trans rfl
                    have hcz34_3 : wr.cell? ⟨gb145, 3, none⟩ = some (.slice A0_3 l0_3.length c0_3) := (blk_cell BK145.out 3).trans rfl
                    have hcz34_4 : wr.cell? ⟨gb145, 4, none⟩ = some (.slice A0_4 l0_4.length c0_4) := (blk_cell BK145.out 4).trans rfl
                    have hfz34_0 := blk_frozen BK145.out 0
                    have hfz34_1 := blk_frozen BK145.out 1
                    have hfz34_2 := blk_frozen BK145.out 2
                    have hfz34_3 := blk_frozen BK145.out 3
                    have hfz34_4 := blk_frozen BK145.out 4
                    try go_wp2
                    have n0_ := Aside0.mk (blk_drew BK145.out)
                    have n1_ := Aside0.mk (blk_drew BK146.out)
                    have n2_ := Aside0.mk (below_drew1 HB.out)
                    clear BK145
                    clear BK146
                    clear HB
                    have BK145 := n0_
                    have BK146 := n1_
                    have HB := n2_
                    clear n0_ n1_ n2_
                    have p147 : 0 ≤ (x5_2 : Int) := of_decide_eq_true (by first | (with_reducible assumption) | assumption)
                    have q147 : x5_2 < (l0_3.length : Int) := of_decide_eq_true (by first | (with_reducible assumption) | assumption)
                    obtain ⟨ad147, e147, hx147_0⟩ := Kd.at_string HR0_3.out x5_2 p147 q147
                    have hw147_0 := hx147_0
                    cases e147
                    replace hx147_0 := (HB.out.cell (World.block_lt_of_cell? w _ hx147_0)).trans hx147_0
                    replace p147 := eq_true p147
                    replace q147 := eq_true q147
                    have p148 : 0 ≤ (x5_2 : Int) := of_decide_eq_true (by first | (with_reducible assumption) | assumption)
                    have q148 : x5_2 < (l1_3.length : Int) := of_decide_eq_true (by first | (with_reducible assumption) | assumption)
                    obtain ⟨ad148, e148, hx148_0⟩ := Kd.at_string HR1_3.out x5_2 p148 q148
                    have hw148_0 := hx148_0
                    cases e148
                    replace hx148_0 := (HB.out.cell (World.block_lt_of_cell? w _ hx148_0)).trans hx148_0
                    replace p148 := eq_true p148
                    replace q148 := eq_true q148
                    refine start_ (n := 11) (S := fun w' => w'.cell? ⟨gb145, 0, none⟩ = some (.int .i64 a0_0) ∧ w'.cell? ⟨gb145, 1, none⟩ = some (.int .i64 a0_1) ∧ w'.cell? ⟨gb145, 2, none⟩ = some (.string a0_2) ∧ w'.cell? ⟨gb145, 3, none⟩ = some (.slice (some ad147) l0_3.length c0_3) ∧ w'.cell? ⟨gb145, 4, none⟩ = some (.slice A0_4 l0_4.length c0_4) ∧ w'.cell? ⟨gb146, 0, none⟩ = some (.int .i64 a1_0) ∧ w'.cell? ⟨gb146, 1, none⟩ = some (.int .i64 a1_1) ∧ w'.cell? ⟨gb146, 2, none⟩ = some (.string a1_2) ∧ w'.cell? ⟨gb146, 3, none⟩ = some (.slice (some ad148) l1_3.length c1_3) ∧ w'.cell? ⟨gb146, 4, none⟩ = some (.slice A1_4 l1_4.length c1_4) ∧ w'.cell? (ad147.add (x5_2).toNat) = some (.string (rdOf ByteArray.empty l0_3 x5_2)) ∧ w'.cell? (ad148.add (x5_2).toNat) = some (.string (rdOf ByteArray.empty l1_3 x5_2))) (ds := []) #[false, false, false, false, false, false, false, false, false, false, false] (by kernel_rfl) rfl rfl ⟨(blk_cell BK145.out 0).trans rfl, (blk_cell BK145.out 1).trans rfl, (blk_cell BK145.out 2).trans rfl, (blk_cell BK145.out 3).trans rfl, (blk_cell BK145.out 4).trans rfl, (blk_cell BK146.out 0).trans rfl, (blk_cell BK146.out 1).trans rfl, (blk_cell BK146.out 2).trans rfl, (blk_cell BK146.out 3).trans rfl, (blk_cell BK146.out 4).trans rfl, ((HB.out.cell (World.block_lt_of_cell? w _ hw147_0)).trans hw147_0), ((HB.out.cell (World.block_lt_of_cell? w _ hw148_0)).trans hw148_0)⟩ (fun hHeld => ?_); refine with_tabW spec_Same.tab6 spec_Same.bits6 (fun HT_ HW_ => ?_)
                    generalize wr.drew = w35 at BK145 BK146 HB hx147_0 hx148_0 hHeld ⊢
                    refine pure_ (i := 0) (N := some 51) (v := ?_) (a' := ?_) #[true, false, false, false, false, false, false, false, false, false, false] rfl rfl (any_of HT_.out (by kernel_rfl)) (fun _ _ _ h => h) (Or.inl ⟨by rfl, ?_⟩) ?_ ?_
                    rotate_left
                    · intro w'
                      go_simp
                      with_reducible rfl
                    rotate_left
                    · simp only [Act.put, List.setIfInBounds_toArray, List.set_cons_zero, List.set_cons_succ, i64_w, i32_w]
                      rfl
                    refine pure_ (i := 2) (N := some 53) (v := ?_) (a' := ?_) #[true, false, true, false, false, false, false, false, false, false, false] rfl rfl (any_of HT_.out (by kernel_rfl)) (fun _ _ _ h => h) (Or.inl ⟨by rfl, ?_⟩) ?_ ?_
                    rotate_left
                    · intro w'
                      go_simp
                      with_reducible rfl
                    rotate_left
                    · simp only [Act.put, List.setIfInBounds_toArray, List.set_cons_zero, List.set_cons_succ, i64_w, i32_w]
                      rfl
                    refine pure_ (i := 5) (N := some 56) (v := ?_) (a' := ?_) #[true, false, true, false, false, true, false, false, false, false, false] rfl rfl (any_of HT_.out (by kernel_rfl)) (fun _ _ _ h => h) (Or.inl ⟨by rfl, ?_⟩) ?_ ?_
                    rotate_left
                    · intro w'
                      go_simp
                      with_reducible rfl
                    rotate_left
                    · simp only [Act.put, List.setIfInBounds_toArray, List.set_cons_zero, List.set_cons_succ, i64_w, i32_w]
                      rfl
                    refine pure_ (i := 7) (N := some 58) (v := ?_) (a' := ?_) #[true, false, true, false, false, true, false, true, false, false, false] rfl rfl (any_of HT_.out (by kernel_rfl)) (fun _ _ _ h => h) (Or.inl ⟨by rfl, ?_⟩) ?_ ?_
                    rotate_left
                    · intro w'
                      go_simp
                      with_reducible rfl
                    rotate_left
                    · simp only [Act.put, List.setIfInBounds_toArray, List.set_cons_zero, List.set_cons_succ, i64_w, i32_w]
                      rfl
                    refine take_ (i := 1) (N := some 52) (v := ?_) (a' := ?_) #[true, true, true, false, false, true, false, true, false, false, false] rfl rfl (take_ofW HT_.out HW_.out (by kernel_rfl)) (fun _ _ _ h => h) (Or.inl ⟨by rfl, ?_⟩) hHeld ?_ ?_
                    rotate_left
                    · rintro w' ⟨s0, s1, s2, s3, s4, s5, s6, s7, s8, s9, s10, s11⟩
                      go_simp
                      with_reducible rfl
                    rotate_left
                    · simp only [Act.put, List.setIfInBounds_toArray, List.set_cons_zero, List.set_cons_succ, i64_w, i32_w]
                      rfl
                    refine pure_ (i := 3) (N := some 54) (v := ?_) (a' := ?_) #[true, true, true, true, false, true, false, true, false, false, false] rfl rfl (any_of HT_.out (by kernel_rfl)) (fun _ _ _ h => h) (Or.inl ⟨by rfl, ?_⟩) ?_ ?_
                    rotate_left
                    · intro w'
                      go_simp
                      with_reducible rfl
                    rotate_left
                    · simp only [Act.put, List.setIfInBounds_toArray, List.set_cons_zero, List.set_cons_succ, i64_w, i32_w]
                      rfl
                    refine take_ (i := 4) (N := some 55) (v := ?_) (a' := ?_) #[true, true, true, true, true, true, false, true, false, false, false] rfl rfl (take_ofW HT_.out HW_.out (by kernel_rfl)) (fun _ _ _ h => h) (Or.inl ⟨by rfl, ?_⟩) hHeld ?_ ?_
                    rotate_left
                    · rintro w' ⟨s0, s1, s2, s3, s4, s5, s6, s7, s8, s9, s10, s11⟩
                      go_simp
                      with_reducible rfl
                    rotate_left
                    · simp only [Act.put, List.setIfInBounds_toArray, List.set_cons_zero, List.set_cons_succ, i64_w, i32_w]
                      rfl
                    refine take_ (i := 6) (N := some 57) (v := ?_) (a' := ?_) #[true, true, true, true, true, true, true, true, false, false, false] rfl rfl (take_ofW HT_.out HW_.out (by kernel_rfl)) (fun _ _ _ h => h) (Or.inl ⟨by rfl, ?_⟩) hHeld ?_ ?_
                    rotate_left
                    · rintro w' ⟨s0, s1, s2, s3, s4, s5, s6, s7, s8, s9, s10, s11⟩
                      go_simp
                      with_reducible rfl
                    rotate_left
                    · simp only [Act.put, List.setIfInBounds_toArray, List.set_cons_zero, List.set_cons_succ, i64_w, i32_w]
                      rfl
                    refine pure_ (i := 8) (N := some 59) (v := ?_) (a' := ?_) #[true, true, true, true, true, true, true, true, true, false, false] rfl rfl (any_of HT_.out (by kernel_rfl)) (fun _ _ _ h => h) (Or.inl ⟨by rfl, ?_⟩) ?_ ?_
                    rotate_left
                    · intro w'
                      go_simp
                      with_reducible rfl
                    rotate_left
                    · simp only [Act.put, List.setIfInBounds_toArray, List.set_cons_zero, List.set_cons_succ, i64_w, i32_w]
                      rfl
                    refine take_ (i := 9) (N := some 60) (v := ?_) (a' := ?_) #[true, true, true, true, true, true, true, true, true, true, false] rfl rfl (take_ofW HT_.out HW_.out (by kernel_rfl)) (fun _ _ _ h => h) (Or.inl ⟨by rfl, ?_⟩) hHeld ?_ ?_
                    rotate_left
                    · rintro w' ⟨s0, s1, s2, s3, s4, s5, s6, s7, s8, s9, s10, s11⟩
                      go_simp
                      with_reducible rfl
                    rotate_left
                    · simp only [Act.put, List.setIfInBounds_toArray, List.set_cons_zero, List.set_cons_succ, i64_w, i32_w]
                      rfl
                    refine pure_ (i := 10) (N := some 61) (v := ?_) (a' := ?_) #[true, true, true, true, true, true, true, true, true, true, true] rfl rfl (any_of HT_.out (by kernel_rfl)) (fun _ _ _ h => h) (Or.inl ⟨by rfl, ?_⟩) ?_ ?_
                    rotate_left
                    · intro w'
                      go_simp
                      with_reducible rfl
                    rotate_left
                    · simp only [Act.put, List.setIfInBounds_toArray, List.set_cons_zero, List.set_cons_succ, i64_w, i32_w]
                      rfl
                    refine done_ (done_of HT_.out (by kernel_rfl)) ?_
                    try go_wp2
                    go_ret
                    exact ⟨by first | rfl | (simp [errW_none, errW_some] <;> rfl) | (simp [*, errW_none, errW_some] <;> rfl), by repeat (first | (with_reducible first | exact HB.out | apply below_alloc | apply pw_below_drewN | apply below_drew1 | refine below_set ?_ GE145.out | refine below_set ?_ GE146.out) | exact HB.out)⟩
                · rw [if_neg c28] at H
                  exact absurd H (by simp)
              · rw [if_neg c27] at H
                exact absurd H (by simp)
            · rw [if_neg c26] at H
              have c26b0 : decide (x5_2 < (l0_3.length : Int)) = false := decide_eq_false c26
              clear c26
              have H' := Aside0.mk H
              clear H
              have hnb36 := NB145_146.out
              have hnc36 := NB146_145.out
              have hcz37_0 : wr.cell? ⟨gb145, 0, none⟩ = some (.int .i64 a0_0) := (blk_cell BK145.out 0).trans rfl
              have hcz37_1 : wr.cell? ⟨gb145, 1, none⟩ = some (.int .i64 a0_1) := (blk_cell BK145.out 1).trans rfl
              have hcz37_2 : wr.cell? ⟨gb145, 2, none⟩ = some (.string a0_2) := (blk_cell BK145.out 2).trans rfl
              have hcz37_3 : wr.cell? ⟨gb145, 3, none⟩ = some (.slice A0_3 l0_3.length c0_3) := (blk_cell BK145.out 3).trans rfl
              have hcz37_4 : wr.cell? ⟨gb145, 4, none⟩ = some (.slice A0_4 l0_4.length c0_4) := (blk_cell BK145.out 4).trans rfl
              have hfz37_0 := blk_frozen BK145.out 0
              have hfz37_1 := blk_frozen BK145.out 1
              have hfz37_2 := blk_frozen BK145.out 2
              have hfz37_3 := blk_frozen BK145.out 3
              have hfz37_4 := blk_frozen BK145.out 4
              go_wp2
              go_loopg [6] k2 (fun kq v6 w' => ∃ (x6_3 : Int), v6 = .int .i64 x6_3 ∧ Aside0 (spec_Same.l1 kq x6_3 a0_0 a0_1 a0_2 l0_3 l0_4 a1_0 a1_1 a1_2 l1_3 l1_4 = some r) ∧ Aside0 (kq ≤ k2) ∧ Aside0 (w'.heap[gb145]? = some (.cells #[.int .i64 a0_0, .int .i64 a0_1, .string a0_2, (.slice A0_3 l0_3.length c0_3), (.slice A0_4 l0_4.length c0_4)] 25 (0, 0))) ∧ Aside0 (w'.heap[gb146]? = some (.cells #[.int .i64 a1_0, .int .i64 a1_1, .string a1_2, (.slice A1_3 l1_3.length c1_3), (.slice A1_4 l1_4.length c1_4)] 25 (0, 0))) ∧ Aside0 (Below w.heap.size w w'))
              case atStart => exact ⟨(0), (by first | rfl | (simp; done) | (simp [*]; done)), H', ⟨Nat.le_refl _⟩, ⟨by (with_reducible repeat (first | refine blk_drewN ?_ _ | refine blk_drew ?_ | refine blk_alloc ?_ _)); exact BK145.out⟩, ⟨by (with_reducible repeat (first | refine blk_drewN ?_ _ | refine blk_drew ?_ | refine blk_alloc ?_ _)); exact BK146.out⟩, ⟨by repeat (first | (with_reducible first | exact HB.out | apply below_alloc | apply pw_below_drewN | apply below_drew1 | refine below_set ?_ GE145.out | refine below_set ?_ GE146.out) | exact HB.out)⟩⟩
              case round =>
                clear H'
                try clear c1
                try clear p1
                try clear q1
                try clear hx1
                try clear c2
                try clear p2
                try clear c3
                try clear c6
                try clear c6b0
                try clear c6b1
                try clear p6
                try clear c7
                try clear c7b0
                try clear c7b1
                try clear c8
                try clear c8b0
                try clear c8b1
                try clear c9
                try clear c9b0
                try clear c9b1
                try clear c9b2
                try clear c10
                try clear c13
                try clear c14
                try clear p14
                try clear q14
                try clear hx14
                try clear c16
                try clear c19
                try clear c22
                try clear c25
                try clear c26
                try clear c26b0
                try clear c27
                try clear c27b0
                try clear c28
                try clear c28b0
                try clear c29
                try clear c29b0
                try clear c29b1
                try clear c30
                try clear c33
                try clear c36
                try clear hcz11_0
                try clear hcz11_1
                try clear hcz11_2
                try clear hcz11_3
                try clear hcz11_4
                try clear hcz12_0
                try clear hcz12_1
                try clear hcz12_2
                try clear hcz12_3
                try clear hcz12_4
                try clear hcz14_0
                try clear hcz14_1
                try clear hcz14_2
                try clear hcz14_3
                try clear hcz14_4
                try clear hcz15_0
                try clear hcz15_1
                try clear hcz15_2
                try clear hcz15_3
                try clear hcz15_4
                try clear hcz17_0
                try clear hcz17_1
                try clear hcz17_2
                try clear hcz17_3
                try clear hcz17_4
                try clear hcz18_0
                try clear hcz18_1
                try clear hcz18_2
                try clear hcz18_3
                try clear hcz18_4
                try clear hcz20_0
                try clear hcz20_1
                try clear hcz20_2
                try clear hcz20_3
                try clear hcz20_4
                try clear hcz21_0
                try clear hcz21_1
                try clear hcz21_2
                try clear hcz21_3
                try clear hcz21_4
                try clear hcz23_0
                try clear hcz23_1
                try clear hcz23_2
                try clear hcz23_3
                try clear hcz23_4
                try clear hcz24_0
                try clear hcz24_1
                try clear hcz24_2
                try clear hcz24_3
                try clear hcz24_4
                try clear hcz31_0
                try clear hcz31_1
                try clear hcz31_2
                try clear hcz31_3
                try clear hcz31_4
                try clear hcz34_0
                try clear hcz34_1
                try clear hcz34_2
                try clear hcz34_3
                try clear hcz34_4
                try clear hcz37_0
                try clear hcz37_1
                try clear hcz37_2
                try clear hcz37_3
                try clear hcz37_4
                try clear hfz11_0
                try clear hfz11_1
                try clear hfz11_2
                try clear hfz11_3
                try clear hfz11_4
                try clear hfz12_0
                try clear hfz12_1
                try clear hfz12_2
                try clear hfz12_3
                try clear hfz12_4
                try clear hfz14_0
                try clear hfz14_1
                try clear hfz14_2
                try clear hfz14_3
                try clear hfz14_4
                try clear hfz15_0
                try clear hfz15_1
                try clear hfz15_2
                try clear hfz15_3
                try clear hfz15_4
                try clear hfz17_0
                try clear hfz17_1
                try clear hfz17_2
                try clear hfz17_3
                try clear hfz17_4
                try clear hfz18_0
                try clear hfz18_1
                try clear hfz18_2
                try clear hfz18_3
                try clear hfz18_4
                try clear hfz20_0
                try clear hfz20_1
                try clear hfz20_2
                try clear hfz20_3
                try clear hfz20_4
                try clear hfz21_0
                try clear hfz21_1
                try clear hfz21_2
                try clear hfz21_3
                try clear hfz21_4
                try clear hfz23_0
                try clear hfz23_1
                try clear hfz23_2
                try clear hfz23_3
                try clear hfz23_4
                try clear hfz24_0
                try clear hfz24_1
                try clear hfz24_2
                try clear hfz24_3
                try clear hfz24_4
                try clear hfz31_0
                try clear hfz31_1
                try clear hfz31_2
                try clear hfz31_3
                try clear hfz31_4
                try clear hfz34_0
                try clear hfz34_1
                try clear hfz34_2
                try clear hfz34_3
                try clear hfz34_4
                try clear hfz37_0
                try clear hfz37_1
                try clear hfz37_2
                try clear hfz37_3
                try clear hfz37_4
                try clear hx147_0
                try clear hx148_0
                try clear p147
                try clear p148
                try clear p2
                try clear q147
                try clear q148
                obtain ⟨x6_3, rfl, HA, HK3, BK145, BK146, HB⟩ := hrel
                cases gk with
                | zero => exact absurd HA.out (by simp [spec_Same.l1])
                | succ k3 =>
                  have H := HA.out
                  clear HA
                  simp only [spec_Same.l1] at H
                  by_cases c38 : x6_3 < (l0_4.length : Int)
                  · rw [if_pos c38] at H
                    have c38b0 : decide (x6_3 < (l0_4.length : Int)) = true := decide_eq_true c38
                    clear c38
                    by_cases c39 : 0 ≤ x6_3
                    · rw [if_pos c39] at H
                      have c39b0 : decide (0 ≤ x6_3) = true := decide_eq_true c39
                      clear c39
                      by_cases c40 : x6_3 < (l1_4.length : Int)
                      · rw [if_pos c40] at H
                        have c40b0 : decide (x6_3 < (l1_4.length : Int)) = true := decide_eq_true c40
                        clear c40
                        replace H := Option.bind_eq_some_iff.mp H
                        obtain ⟨t151, A410, H⟩ := H
                        replace H : (if t151 = true then (spec_Same.l1 k3 (wrap64 (x6_3 + 1)) a0_0 a0_1 a0_2 l0_3 l0_4 a1_0 a1_1 a1_2 l1_3 l1_4) else (some false)) = some r := H
                        have A41 := Aside0.mk A410
                        clear A410
                        by_cases c42 : t151 = true
                        · subst c42
                          have H1 : (spec_Same.l1 k3 (wrap64 (x6_3 + 1)) a0_0 a0_1 a0_2 l0_3 l0_4 a1_0 a1_1 a1_2 l1_3 l1_4) = some r := by rw [if_pos rfl] at H; exact H
                          clear H
                          have H := H1
                          clear H1
                          have H' := Aside0.mk H
                          clear H
                          have hnb43 := NB145_146.out
                          have hnc43 := NB146_145.out
                          have hcz44_0 : wr.cell? ⟨gb145, 0, none⟩ = some (.int .i64 a0_0) := (blk_cell BK145.out 0).trans rfl
                          have hcz44_1 : wr.cell? ⟨gb145, 1, none⟩ = some (.int .i64 a0_1) := (blk_cell BK145.out 1).trans rfl
                          have hcz44_2 : wr.cell? ⟨gb145, 2, none⟩ = some (.string a0_2) := (blk_cell BK145.out 2).trans rfl
                          have hcz44_3 : wr.cell? ⟨gb145, 3, none⟩ = some (.slice A0_3 l0_3.length c0_3) := (blk_cell BK145.out 3).trans rfl
                          have hcz44_4 : wr.cell? ⟨gb145, 4, none⟩ = some (.slice A0_4 l0_4.length c0_4) := (blk_cell BK145.out 4).trans rfl
                          have hfz44_0 := blk_frozen BK145.out 0
                          have hfz44_1 := blk_frozen BK145.out 1
                          have hfz44_2 := blk_frozen BK145.out 2
                          have hfz44_3 := blk_frozen BK145.out 3
                          have hfz44_4 := blk_frozen BK145.out 4
                          try go_wp2
                          have n0_ := Aside0.mk (blk_drew BK145.out)
                          have n1_ := Aside0.mk (blk_drew BK146.out)
                          have n2_ := Aside0.mk (below_drew1 HB.out)
                          clear BK145
                          clear BK146
                          clear HB
                          have BK145 := n0_
                          have BK146 := n1_
                          have HB := n2_
                          clear n0_ n1_ n2_
                          have p149 : 0 ≤ (x6_3 : Int) := of_decide_eq_true (by first | (with_reducible assumption) | assumption)
                          have q149 : x6_3 < (l0_4.length : Int) := of_decide_eq_true (by first | (with_reducible assumption) | assumption)
                          obtain ⟨ad149, A149_3, c149_3, A149_4, c149_4, e149, hx149_0, hx149_1, hx149_2, hx149_3, hx149_4, hl149_3, hi149_3, hl149_4, hi149_4⟩ := at_T25 HR0_4.out x6_3 p149 q149
                          have hw149_4 := hx149_4
                          have hw149_3 := hx149_3
                          have hw149_2 := hx149_2
                          have hw149_1 := hx149_1
                          have hw149_0 := hx149_0
                          cases e149
                          replace hx149_0 := (HB.out.cell (World.block_lt_of_cell? w _ hx149_0)).trans hx149_0
                          replace hx149_1 := (HB.out.cell (World.block_lt_of_cell? w _ hx149_1)).trans hx149_1
                          replace hx149_2 := (HB.out.cell (World.block_lt_of_cell? w _ hx149_2)).trans hx149_2
                          replace hx149_3 := (HB.out.cell (World.block_lt_of_cell? w _ hx149_3)).trans hx149_3
                          replace hx149_4 := (HB.out.cell (World.block_lt_of_cell? w _ hx149_4)).trans hx149_4
                          have HR149_3 := Aside0.mk hi149_3
                          have HC149_3 := Aside0.mk hl149_3
                          clear hi149_3 hl149_3
                          have HR149_4 := Aside0.mk hi149_4
                          have HC149_4 := Aside0.mk hl149_4
                          clear hi149_4 hl149_4
                          replace p149 := eq_true p149
                          replace q149 := eq_true q149
                          have p150 : 0 ≤ (x6_3 : Int) := of_decide_eq_true (by first | (with_reducible assumption) | assumption)
                          have q150 : x6_3 < (l1_4.length : Int) := of_decide_eq_true (by first | (with_reducible assumption) | assumption)
                          obtain ⟨ad150, A150_3, c150_3, A150_4, c150_4, e150, hx150_0, hx150_1, hx150_2, hx150_3, hx150_4, hl150_3, hi150_3, hl150_4, hi150_4⟩ := at_T25 HR1_4.out x6_3 p150 q150
                          have hw150_4 := hx150_4
                          have hw150_3 := hx150_3
                          have hw150_2 := hx150_2
                          have hw150_1 := hx150_1
                          have hw150_0 := hx150_0
                          cases e150
                          replace hx150_0 := (HB.out.cell (World.block_lt_of_cell? w _ hx150_0)).trans hx150_0
                          replace hx150_1 := (HB.out.cell (World.block_lt_of_cell? w _ hx150_1)).trans hx150_1
                          replace hx150_2 := (HB.out.cell (World.block_lt_of_cell? w _ hx150_2)).trans hx150_2
                          replace hx150_3 := (HB.out.cell (World.block_lt_of_cell? w _ hx150_3)).trans hx150_3
                          replace hx150_4 := (HB.out.cell (World.block_lt_of_cell? w _ hx150_4)).trans hx150_4
                          have HR150_3 := Aside0.mk hi150_3
                          have HC150_3 := Aside0.mk hl150_3
                          clear hi150_3 hl150_3
                          have HR150_4 := Aside0.mk hi150_4
                          have HC150_4 := Aside0.mk hl150_4
                          clear hi150_4 hl150_4
                          replace p150 := eq_true p150
                          replace q150 := eq_true q150
                          refine start_ (n := 12) (S := fun w' => w'.cell? ⟨gb145, 0, none⟩ = some (.int .i64 a0_0) ∧ w'.cell? ⟨gb145, 1, none⟩ = some (.int .i64 a0_1) ∧ w'.cell? ⟨gb145, 2, none⟩ = some (.string a0_2) ∧ w'.cell? ⟨gb145, 3, none⟩ = some (.slice A0_3 l0_3.length c0_3) ∧ w'.cell? ⟨gb145, 4, none⟩ = some (.slice (some ad149) l0_4.length c0_4) ∧ w'.cell? ⟨gb146, 0, none⟩ = some (.int .i64 a1_0) ∧ w'.cell? ⟨gb146, 1, none⟩ = some (.int .i64 a1_1) ∧ w'.cell? ⟨gb146, 2, none⟩ = some (.string a1_2) ∧ w'.cell? ⟨gb146, 3, none⟩ = some (.slice A1_3 l1_3.length c1_3) ∧ w'.cell? ⟨gb146, 4, none⟩ = some (.slice (some ad150) l1_4.length c1_4) ∧ w'.cell? (ad149.add ((x6_3).toNat * 5)) = some (.int .i64 ((rd_T25 l0_4 x6_3).f0)) ∧ w'.cell? ⟨(ad149.add ((x6_3).toNat * 5)).block, (ad149.add ((x6_3).toNat * 5)).off + 1, none⟩ = some (.int .i64 ((rd_T25 l0_4 x6_3).f1)) ∧ w'.cell? ⟨(ad149.add ((x6_3).toNat * 5)).block, (ad149.add ((x6_3).toNat * 5)).off + 2, none⟩ = some (.string ((rd_T25 l0_4 x6_3).f2)) ∧ w'.cell? ⟨(ad149.add ((x6_3).toNat * 5)).block, (ad149.add ((x6_3).toNat * 5)).off + 3, none⟩ = some (.slice A149_3 ((rd_T25 l0_4 x6_3).f3).length c149_3) ∧ w'.cell? ⟨(ad149.add ((x6_3).toNat * 5)).block, (ad149.add ((x6_3).toNat * 5)).off + 4, none⟩ = some (.slice A149_4 ((rd_T25 l0_4 x6_3).f4).length c149_4) ∧ w'.cell? (ad150.add ((x6_3).toNat * 5)) = some (.int .i64 ((rd_T25 l1_4 x6_3).f0)) ∧ w'.cell? ⟨(ad150.add ((x6_3).toNat * 5)).block, (ad150.add ((x6_3).toNat * 5)).off + 1, none⟩ = some (.int .i64 ((rd_T25 l1_4 x6_3).f1)) ∧ w'.cell? ⟨(ad150.add ((x6_3).toNat * 5)).block, (ad150.add ((x6_3).toNat * 5)).off + 2, none⟩ = some (.string ((rd_T25 l1_4 x6_3).f2)) ∧ w'.cell? ⟨(ad150.add ((x6_3).toNat * 5)).block, (ad150.add ((x6_3).toNat * 5)).off + 3, none⟩ = some (.slice A150_3 ((rd_T25 l1_4 x6_3).f3).length c150_3) ∧ w'.cell? ⟨(ad150.add ((x6_3).toNat * 5)).block, (ad150.add ((x6_3).toNat * 5)).off + 4, none⟩ = some (.slice A150_4 ((rd_T25 l1_4 x6_3).f4).length c150_4)) (ds := []) #[false, false, false, false, false, false, false, false, false, false, false, false] (by kernel_rfl) rfl rfl ⟨(blk_cell BK145.out 0).trans rfl, (blk_cell BK145.out 1).trans rfl, (blk_cell BK145.out 2).trans rfl, (blk_cell BK145.out 3).trans rfl, (blk_cell BK145.out 4).trans rfl, (blk_cell BK146.out 0).trans rfl, (blk_cell BK146.out 1).trans rfl, (blk_cell BK146.out 2).trans rfl, (blk_cell BK146.out 3).trans rfl, (blk_cell BK146.out 4).trans rfl, ((HB.out.cell (World.block_lt_of_cell? w _ hw149_0)).trans hw149_0), ((HB.out.cell (World.block_lt_of_cell? w _ hw149_1)).trans hw149_1), ((HB.out.cell (World.block_lt_of_cell? w _ hw149_2)).trans hw149_2), ((HB.out.cell (World.block_lt_of_cell? w _ hw149_3)).trans hw149_3), ((HB.out.cell (World.block_lt_of_cell? w _ hw149_4)).trans hw149_4), ((HB.out.cell (World.block_lt_of_cell? w _ hw150_0)).trans hw150_0), ((HB.out.cell (World.block_lt_of_cell? w _ hw150_1)).trans hw150_1), ((HB.out.cell (World.block_lt_of_cell? w _ hw150_2)).trans hw150_2), ((HB.out.cell (World.block_lt_of_cell? w _ hw150_3)).trans hw150_3), ((HB.out.cell (World.block_lt_of_cell? w _ hw150_4)).trans hw150_4)⟩ (fun hHeld => ?_); refine with_tabW spec_Same.tab11 spec_Same.bits11 (fun HT_ HW_ => ?_)
                          generalize wr.drew = w45 at BK145 BK146 HB HR149_3 HR149_4 HR150_3 HR150_4 hx149_0 hx149_1 hx149_2 hx149_3 hx149_4 hx150_0 hx150_1 hx150_2 hx150_3 hx150_4 hHeld ⊢
                          refine pure_ (i := 0) (N := some 69) (v := ?_) (a' := ?_) #[true, false, false, false, false, false, false, false, false, false, false, false] rfl rfl (any_of HT_.out (by kernel_rfl)) (fun _ _ _ h => h) (Or.inl ⟨by rfl, ?_⟩) ?_ ?_
                          rotate_left
                          · intro w'
                            go_simp
                            with_reducible rfl
                          rotate_left
                          · simp only [Act.put, List.setIfInBounds_toArray, List.set_cons_zero, List.set_cons_succ, i64_w, i32_w]
                            rfl
                          refine pure_ (i := 2) (N := some 71) (v := ?_) (a' := ?_) #[true, false, true, false, false, false, false, false, false, false, false, false] rfl rfl (any_of HT_.out (by kernel_rfl)) (fun _ _ _ h => h) (Or.inl ⟨by rfl, ?_⟩) ?_ ?_
                          rotate_left
                          · intro w'
                            go_simp
                            with_reducible rfl
                          rotate_left
                          · simp only [Act.put, List.setIfInBounds_toArray, List.set_cons_zero, List.set_cons_succ, i64_w, i32_w]
                            rfl
                          refine pure_ (i := 5) (N := some 74) (v := ?_) (a' := ?_) #[true, false, true, false, false, true, false, false, false, false, false, false] rfl rfl (any_of HT_.out (by kernel_rfl)) (fun _ _ _ h => h) (Or.inl ⟨by rfl, ?_⟩) ?_ ?_
                          rotate_left
                          · intro w'
                            go_simp
                            with_reducible rfl
                          rotate_left
                          · simp only [Act.put, List.setIfInBounds_toArray, List.set_cons_zero, List.set_cons_succ, i64_w, i32_w]
                            rfl
                          refine pure_ (i := 7) (N := some 76) (v := ?_) (a' := ?_) #[true, false, true, false, false, true, false, true, false, false, false, false] rfl rfl (any_of HT_.out (by kernel_rfl)) (fun _ _ _ h => h) (Or.inl ⟨by rfl, ?_⟩) ?_ ?_
                          rotate_left
                          · intro w'
                            go_simp
                            with_reducible rfl
                          rotate_left
                          · simp only [Act.put, List.setIfInBounds_toArray, List.set_cons_zero, List.set_cons_succ, i64_w, i32_w]
                            rfl
                          refine take_ (i := 1) (N := some 70) (v := ?_) (a' := ?_) #[true, true, true, false, false, true, false, true, false, false, false, false] rfl rfl (take_ofW HT_.out HW_.out (by kernel_rfl)) (fun _ _ _ h => h) (Or.inl ⟨by rfl, ?_⟩) hHeld ?_ ?_
                          rotate_left
                          · rintro w' ⟨s0, s1, s2, s3, s4, s5, s6, s7, s8, s9, s10, s11, s12, s13, s14, s15, s16, s17, s18, s19⟩
                            go_simp
                            with_reducible rfl
                          rotate_left
                          · simp only [Act.put, List.setIfInBounds_toArray, List.set_cons_zero, List.set_cons_succ, i64_w, i32_w]
                            rfl
                          refine pure_ (i := 3) (N := some 72) (v := ?_) (a' := ?_) #[true, true, true, true, false, true, false, true, false, false, false, false] rfl rfl (any_of HT_.out (by kernel_rfl)) (fun _ _ _ h => h) (Or.inl ⟨by rfl, ?_⟩) ?_ ?_
                          rotate_left
                          · intro w'
                            go_simp
                            with_reducible rfl
                          rotate_left
                          · simp only [Act.put, List.setIfInBounds_toArray, List.set_cons_zero, List.set_cons_succ, i64_w, i32_w]
                            rfl
                          refine take_ (i := 4) (N := some 73) (v := ?_) (a' := ?_) #[true, true, true, true, true, true, false, true, false, false, false, false] rfl rfl (take_ofW HT_.out HW_.out (by kernel_rfl)) (fun _ _ _ h => h) (Or.inl ⟨by rfl, ?_⟩) hHeld ?_ ?_
                          rotate_left
                          · rintro w' ⟨s0, s1, s2, s3, s4, s5, s6, s7, s8, s9, s10, s11, s12, s13, s14, s15, s16, s17, s18, s19⟩
                            go_simp
                            with_reducible rfl
                          rotate_left
                          · simp only [Act.put, List.setIfInBounds_toArray, List.set_cons_zero, List.set_cons_succ, i64_w, i32_w]
                            rfl
                          refine take_ (i := 6) (N := some 75) (v := ?_) (a' := ?_) #[true, true, true, true, true, true, true, true, false, false, false, false] rfl rfl (take_ofW HT_.out HW_.out (by kernel_rfl)) (fun _ _ _ h => h) (Or.inl ⟨by rfl, ?_⟩) hHeld ?_ ?_
                          rotate_left
                          · rintro w' ⟨s0, s1, s2, s3, s4, s5, s6, s7, s8, s9, s10, s11, s12, s13, s14, s15, s16, s17, s18, s19⟩
                            go_simp
                            with_reducible rfl
                          rotate_left
                          · simp only [Act.put, List.setIfInBounds_toArray, List.set_cons_zero, List.set_cons_succ, i64_w, i32_w]
                            rfl
                          refine pure_ (i := 8) (N := some 77) (v := ?_) (a' := ?_) #[true, true, true, true, true, true, true, true, true, false, false, false] rfl rfl (any_of HT_.out (by kernel_rfl)) (fun _ _ _ h => h) (Or.inl ⟨by rfl, ?_⟩) ?_ ?_
                          rotate_left
                          · intro w'
                            go_simp
                            with_reducible rfl
                          rotate_left
                          · simp only [Act.put, List.setIfInBounds_toArray, List.set_cons_zero, List.set_cons_succ, i64_w, i32_w]
                            rfl
                          refine take_ (i := 9) (N := some 78) (v := ?_) (a' := ?_) #[true, true, true, true, true, true, true, true, true, true, false, false] rfl rfl (take_ofW HT_.out HW_.out (by kernel_rfl)) (fun _ _ _ h => h) (Or.inl ⟨by rfl, ?_⟩) hHeld ?_ ?_
                          rotate_left
                          · rintro w' ⟨s0, s1, s2, s3, s4, s5, s6, s7, s8, s9, s10, s11, s12, s13, s14, s15, s16, s17, s18, s19⟩
                            go_simp
                            with_reducible rfl
                          rotate_left
                          · simp only [Act.put, List.setIfInBounds_toArray, List.set_cons_zero, List.set_cons_succ, i64_w, i32_w]
                            rfl
                          refine one_ (i := 10) (N := some 79) #[true, true, true, true, true, true, true, true, true, true, true, false] rfl rfl (one_of HT_.out (by kernel_rfl)) (by decide) (fun K hK => ?_)
                          refine goes_ Tryd.func14 (by kernel_rfl) rfl #[.agg #[.int .i64 ((rd_T25 l0_4 x6_3).f0), .int .i64 ((rd_T25 l0_4 x6_3).f1), .string ((rd_T25 l0_4 x6_3).f2), .slice A149_3 ((rd_T25 l0_4 x6_3).f3).length c149_3, .slice A149_4 ((rd_T25 l0_4 x6_3).f4).length c149_4], .agg #[.int .i64 ((rd_T25 l1_4 x6_3).f0), .int .i64 ((rd_T25 l1_4 x6_3).f1), .string ((rd_T25 l1_4 x6_3).f2), .slice A150_3 ((rd_T25 l1_4 x6_3).f3).length c150_3, .slice A150_4 ((rd_T25 l1_4 x6_3).f4).length c150_4]] (by rfl) rfl rfl (by (try simp only [List.map_toArray, List.map_cons, List.map_nil]); first | done | rfl | (simp only [List.length_drop, List.length_take]; rfl)) ?_
                          with_reducible refine (ih k3 (by have := HJ2.out; have := HK2.out; have := HK3.out; omega) ((rd_T25 l0_4 x6_3).f0) ((rd_T25 l0_4 x6_3).f1) ((rd_T25 l0_4 x6_3).f2) _ _ ((rd_T25 l0_4 x6_3).f3) _ _ ((rd_T25 l0_4 x6_3).f4) ((rd_T25 l1_4 x6_3).f0) ((rd_T25 l1_4 x6_3).f1) ((rd_T25 l1_4 x6_3).f2) _ _ ((rd_T25 l1_4 x6_3).f3) _ _ ((rd_T25 l1_4 x6_3).f4) true _ ?side1 ?side2 ?side3 ?side4 ?side5 ?side6 ?side7 ?side8 A41.out).mono ?_
                          (case side1 => repeat (first | exact (Kd.C_below HR149_3.out HB.out) | (with_reducible refine Kd.C_alloc ?_ _) | (with_reducible refine Kd.C_drewN ?_ _) | (with_reducible refine Kd.C_drew ?_)))
                          (case side2 => exact HC149_3.out)
                          (case side3 => repeat (first | exact (Kd.C_below HR149_4.out HB.out) | (with_reducible refine Kd.C_alloc ?_ _) | (with_reducible refine Kd.C_drewN ?_ _) | (with_reducible refine Kd.C_drew ?_)))
                          (case side4 => exact HC149_4.out)
                          (case side5 => repeat (first | exact (Kd.C_below HR150_3.out HB.out) | (with_reducible refine Kd.C_alloc ?_ _) | (with_reducible refine Kd.C_drewN ?_ _) | (with_reducible refine Kd.C_drew ?_)))
                          (case side6 => exact HC150_3.out)
                          (case side7 => repeat (first | exact (Kd.C_below HR150_4.out HB.out) | (with_reducible refine Kd.C_alloc ?_ _) | (with_reducible refine Kd.C_drewN ?_ _) | (with_reducible refine Kd.C_drew ?_)))
                          (case side8 => exact HC150_4.out)
                          rintro e w46 ⟨rfl, hb⟩
                          refine ⟨_, rfl, ?_⟩
                          have n0_ := Aside0.mk (blk_below (g := gb145) (o := .cells #[.int .i64 a0_0, .int .i64 a0_1, .string a0_2, .slice A0_3 l0_3.length c0_3, .slice (some ad149) l0_4.length c0_4] 25 (0, 0)) (by (with_reducible repeat (first | refine blk_drewN ?_ _ | refine blk_drew ?_ | refine blk_alloc ?_ _)); exact BK145.out) hb)
                          have n1_ := Aside0.mk (blk_below (g := gb146) (o := .cells #[.int .i64 a1_0, .int .i64 a1_1, .string a1_2, .slice A1_3 l1_3.length c1_3, .slice (some ad150) l1_4.length c1_4] 25 (0, 0)) (by (with_reducible repeat (first | refine blk_drewN ?_ _ | refine blk_drew ?_ | refine blk_alloc ?_ _)); exact BK146.out) hb)
                          have n2_ := Aside0.mk (below_step (by repeat (first | (with_reducible first | exact HB.out | apply below_alloc | apply pw_below_drewN | apply below_drew1 | refine below_set ?_ GE145.out | refine below_set ?_ GE146.out) | exact HB.out)) hb)
                          clear BK145
                          clear BK146
                          clear HB
                          have BK145 := n0_
                          have BK146 := n1_
                          have HB := n2_
                          clear n0_ n1_ n2_
                          (try clear hb)
                          (try clear hb2)
                          (try clear hk)
                          (try clear hi)
                          refine hK.out _ _ ⟨(blk_cell BK145.out 0).trans rfl, (blk_cell BK145.out 1).trans rfl, (blk_cell BK145.out 2).trans rfl, (blk_cell BK145.out 3).trans rfl, (blk_cell BK145.out 4).trans rfl, (blk_cell BK146.out 0).trans rfl, (blk_cell BK146.out 1).trans rfl, (blk_cell BK146.out 2).trans rfl, (blk_cell BK146.out 3).trans rfl, (blk_cell BK146.out 4).trans rfl, ((HB.out.cell (World.block_lt_of_cell? w _ hw149_0)).trans hw149_0), ((HB.out.cell (World.block_lt_of_cell? w _ hw149_1)).trans hw149_1), ((HB.out.cell (World.block_lt_of_cell? w _ hw149_2)).trans hw149_2), ((HB.out.cell (World.block_lt_of_cell? w _ hw149_3)).trans hw149_3), ((HB.out.cell (World.block_lt_of_cell? w _ hw149_4)).trans hw149_4), ((HB.out.cell (World.block_lt_of_cell? w _ hw150_0)).trans hw150_0), ((HB.out.cell (World.block_lt_of_cell? w _ hw150_1)).trans hw150_1), ((HB.out.cell (World.block_lt_of_cell? w _ hw150_2)).trans hw150_2), ((HB.out.cell (World.block_lt_of_cell? w _ hw150_3)).trans hw150_3), ((HB.out.cell (World.block_lt_of_cell? w _ hw150_4)).trans hw150_4)⟩ (fun hHeld => ?_)
                          clear hK K
                          refine norm_ (a' := ?_) ?_ ?_
                          rotate_left
                          · show Act.put _ (some 79) _ = _
                            simp only [Act.put, List.setIfInBounds_toArray, List.set_cons_zero, List.set_cons_succ, i64_w, i32_w]
                            rfl
                          refine pure_ (i := 11) (N := some 80) (v := ?_) (a' := ?_) #[true, true, true, true, true, true, true, true, true, true, true, true] rfl rfl (any_of HT_.out (by kernel_rfl)) (fun _ _ _ h => h) (Or.inl ⟨by rfl, ?_⟩) ?_ ?_
                          rotate_left
                          · intro w'
                            go_simp
                            with_reducible rfl
                          rotate_left
                          · simp only [Act.put, List.setIfInBounds_toArray, List.set_cons_zero, List.set_cons_succ, i64_w, i32_w]
                            rfl
                          refine done_ (done_of HT_.out (by kernel_rfl)) ?_
                          try go_wp2
                          go_roundg k3
                          case measure => have := HJ2.out; have := HK2.out; have := HK3.out; omega
                          case rel => exact ⟨(wrap64 (x6_3 + 1)), (by first | rfl | (simp; done) | (simp [*]; done)), H', ⟨by have := HJ2.out; have := HK2.out; have := HK3.out; omega⟩, ⟨by (with_reducible repeat (first | refine blk_drewN ?_ _ | refine blk_drew ?_ | refine blk_alloc ?_ _)); exact BK145.out⟩, ⟨by (with_reducible repeat (first | refine blk_drewN ?_ _ | refine blk_drew ?_ | refine blk_alloc ?_ _)); exact BK146.out⟩, ⟨by repeat (first | (with_reducible first | exact HB.out | apply below_alloc | apply pw_below_drewN | apply below_drew1 | refine below_set ?_ GE145.out | refine below_set ?_ GE146.out) | exact HB.out)⟩⟩
                        · replace c42 := Bool.eq_false_iff.mpr c42
                          subst c42
                          have H1 : (some false) = some r := by rw [if_neg (show ¬ (false = true) by decide)] at H; exact H
                          clear H
                          have H := H1
                          clear H1
                          obtain rfl := Option.some.inj H
                          have hnb47 := NB145_146.out
                          have hnc47 := NB146_145.out
                          have hcz48_0 : wr.cell? ⟨gb145, 0, none⟩ = some (.int .i64 a0_0) := (blk_cell BK145.out 0).trans rfl
                          have hcz48_1 : wr.cell? ⟨gb145, 1, none⟩ = some (.int .i64 a0_1) := (blk_cell BK145.out 1).trans rfl
                          have hcz48_2 : wr.cell? ⟨gb145, 2, none⟩ = some (.string a0_2) := (blk_cell BK145.out 2).trans rfl
                          have hcz48_3 : wr.cell? ⟨gb145, 3, none⟩ = some (.slice A0_3 l0_3.length c0_3) := (blk_cell BK145.out 3).trans rfl
                          have hcz48_4 : wr.cell? ⟨gb145, 4, none⟩ = some (.slice A0_4 l0_4.length c0_4) := (blk_cell BK145.out 4).trans rfl
                          have hfz48_0 := blk_frozen BK145.out 0
                          have hfz48_1 := blk_frozen BK145.out 1
                          have hfz48_2 := blk_frozen BK145.out 2
                          have hfz48_3 := blk_frozen BK145.out 3
                          have hfz48_4 := blk_frozen BK145.out 4
                          try go_wp2
                          have n0_ := Aside0.mk (blk_drew BK145.out)
                          have n1_ := Aside0.mk (blk_drew BK146.out)
                          have n2_ := Aside0.mk (below_drew1 HB.out)
                          clear BK145
                          clear BK146
                          clear HB
                          have BK145 := n0_
                          have BK146 := n1_
                          have HB := n2_
                          clear n0_ n1_ n2_
                          have p149 : 0 ≤ (x6_3 : Int) := of_decide_eq_true (by first | (with_reducible assumption) | assumption)
                          have q149 : x6_3 < (l0_4.length : Int) := of_decide_eq_true (by first | (with_reducible assumption) | assumption)
                          obtain ⟨ad149, A149_3, c149_3, A149_4, c149_4, e149, hx149_0, hx149_1, hx149_2, hx149_3, hx149_4, hl149_3, hi149_3, hl149_4, hi149_4⟩ := at_T25 HR0_4.out x6_3 p149 q149
                          have hw149_4 := hx149_4
                          have hw149_3 := hx149_3
                          have hw149_2 := hx149_2
                          have hw149_1 := hx149_1
                          have hw149_0 := hx149_0
                          cases e149
                          replace hx149_0 := (HB.out.cell (World.block_lt_of_cell? w _ hx149_0)).trans hx149_0
                          replace hx149_1 := (HB.out.cell (World.block_lt_of_cell? w _ hx149_1)).trans hx149_1
                          replace hx149_2 := (HB.out.cell (World.block_lt_of_cell? w _ hx149_2)).trans hx149_2
                          replace hx149_3 := (HB.out.cell (World.block_lt_of_cell? w _ hx149_3)).trans hx149_3
                          replace hx149_4 := (HB.out.cell (World.block_lt_of_cell? w _ hx149_4)).trans hx149_4
                          have HR149_3 := Aside0.mk hi149_3
                          have HC149_3 := Aside0.mk hl149_3
                          clear hi149_3 hl149_3
                          have HR149_4 := Aside0.mk hi149_4
                          have HC149_4 := Aside0.mk hl149_4
                          clear hi149_4 hl149_4
                          replace p149 := eq_true p149
                          replace q149 := eq_true q149
                          have p150 : 0 ≤ (x6_3 : Int) := of_decide_eq_true (by first | (with_reducible assumption) | assumption)
                          have q150 : x6_3 < (l1_4.length : Int) := of_decide_eq_true (by first | (with_reducible assumption) | assumption)
                          obtain ⟨ad150, A150_3, c150_3, A150_4, c150_4, e150, hx150_0, hx150_1, hx150_2, hx150_3, hx150_4, hl150_3, hi150_3, hl150_4, hi150_4⟩ := at_T25 HR1_4.out x6_3 p150 q150
                          have hw150_4 := hx150_4
                          have hw150_3 := hx150_3
                          have hw150_2 := hx150_2
                          have hw150_1 := hx150_1
                          have hw150_0 := hx150_0
                          cases e150
                          replace hx150_0 := (HB.out.cell (World.block_lt_of_cell? w _ hx150_0)).trans hx150_0
                          replace hx150_1 := (HB.out.cell (World.block_lt_of_cell? w _ hx150_1)).trans hx150_1
                          replace hx150_2 := (HB.out.cell (World.block_lt_of_cell? w _ hx150_2)).trans hx150_2
                          replace hx150_3 := (HB.out.cell (World.block_lt_of_cell? w _ hx150_3)).trans hx150_3
                          replace hx150_4 := (HB.out.cell (World.block_lt_of_cell? w _ hx150_4)).trans hx150_4
                          have HR150_3 := Aside0.mk hi150_3
                          have HC150_3 := Aside0.mk hl150_3
                          clear hi150_3 hl150_3
                          have HR150_4 := Aside0.mk hi150_4
                          have HC150_4 := Aside0.mk hl150_4
                          clear hi150_4 hl150_4
                          replace p150 := eq_true p150
                          replace q150 := eq_true q150
                          refine start_ (n := 12) (S := fun w' => w'.cell? ⟨gb145, 0, none⟩ = some (.int .i64 a0_0) ∧ w'.cell? ⟨gb145, 1, none⟩ = some (.int .i64 a0_1) ∧ w'.cell? ⟨gb145, 2, none⟩ = some (.string a0_2) ∧ w'.cell? ⟨gb145, 3, none⟩ = some (.slice A0_3 l0_3.length c0_3) ∧ w'.cell? ⟨gb145, 4, none⟩ = some (.slice (some ad149) l0_4.length c0_4) ∧ w'.cell? ⟨gb146, 0, none⟩ = some (.int .i64 a1_0) ∧ w'.cell? ⟨gb146, 1, none⟩ = some (.int .i64 a1_1) ∧ w'.cell? ⟨gb146, 2, none⟩ = some (.string a1_2) ∧ w'.cell? ⟨gb146, 3, none⟩ = some (.slice A1_3 l1_3.length c1_3) ∧ w'.cell? ⟨gb146, 4, none⟩ = some (.slice (some ad150) l1_4.length c1_4) ∧ w'.cell? (ad149.add ((x6_3).toNat * 5)) = some (.int .i64 ((rd_T25 l0_4 x6_3).f0)) ∧ w'.cell? ⟨(ad149.add ((x6_3).toNat * 5)).block, (ad149.add ((x6_3).toNat * 5)).off + 1, none⟩ = some (.int .i64 ((rd_T25 l0_4 x6_3).f1)) ∧ w'.cell? ⟨(ad149.add ((x6_3).toNat * 5)).block, (ad149.add ((x6_3).toNat * 5)).off + 2, none⟩ = some (.string ((rd_T25 l0_4 x6_3).f2)) ∧ w'.cell? ⟨(ad149.add ((x6_3).toNat * 5)).block, (ad149.add ((x6_3).toNat * 5)).off + 3, none⟩ = some (.slice A149_3 ((rd_T25 l0_4 x6_3).f3).length c149_3) ∧ w'.cell? ⟨(ad149.add ((x6_3).toNat * 5)).block, (ad149.add ((x6_3).toNat * 5)).off + 4, none⟩ = some (.slice A149_4 ((rd_T25 l0_4 x6_3).f4).length c149_4) ∧ w'.cell? (ad150.add ((x6_3).toNat * 5)) = some (.int .i64 ((rd_T25 l1_4 x6_3).f0)) ∧ w'.cell? ⟨(ad150.add ((x6_3).toNat * 5)).block, (ad150.add ((x6_3).toNat * 5)).off + 1, none⟩ = some (.int .i64 ((rd_T25 l1_4 x6_3).f1)) ∧ w'.cell? ⟨(ad150.add ((x6_3).toNat * 5)).block, (ad150.add ((x6_3).toNat * 5)).off + 2, none⟩ = some (.string ((rd_T25 l1_4 x6_3).f2)) ∧ w'.cell? ⟨(ad150.add ((x6_3).toNat * 5)).block, (ad150.add ((x6_3).toNat * 5)).off + 3, none⟩ = some (.slice A150_3 ((rd_T25 l1_4 x6_3).f3).length c150_3) ∧ w'.cell? ⟨(ad150.add ((x6_3).toNat * 5)).block, (ad150.add ((x6_3).toNat * 5)).off + 4, none⟩ = some (.slice A150_4 ((rd_T25 l1_4 x6_3).f4).length c150_4)) (ds := []) #[false, false, false, false, false, false, false, false, false, false, false, false] (by kernel_rfl) rfl rfl ⟨(blk_cell BK145.out 0).trans rfl, (blk_cell BK145.out 1).trans rfl, (blk_cell BK145.out 2).trans rfl, (blk_cell BK145.out 3).trans rfl, (blk_cell BK145.out 4).trans rfl, (blk_cell BK146.out 0).trans rfl, (blk_cell BK146.out 1).trans rfl, (blk_cell BK146.out 2).trans rfl, (blk_cell BK146.out 3).trans rfl, (blk_cell BK146.out 4).trans rfl, ((HB.out.cell (World.block_lt_of_cell? w _ hw149_0)).trans hw149_0), ((HB.out.cell (World.block_lt_of_cell? w _ hw149_1)).trans hw149_1), ((HB.out.cell (World.block_lt_of_cell? w _ hw149_2)).trans hw149_2), ((HB.out.cell (World.block_lt_of_cell? w _ hw149_3)).trans hw149_3), ((HB.out.cell (World.block_lt_of_cell? w _ hw149_4)).trans hw149_4), ((HB.out.cell (World.block_lt_of_cell? w _ hw150_0)).trans hw150_0), ((HB.out.cell (World.block_lt_of_cell? w _ hw150_1)).trans hw150_1), ((HB.out.cell (World.block_lt_of_cell? w _ hw150_2)).trans hw150_2), ((HB.out.cell (World.block_lt_of_cell? w _ hw150_3)).trans hw150_3), ((HB.out.cell (World.block_lt_of_cell? w _ hw150_4)).trans hw150_4)⟩ (fun hHeld => ?_); refine with_tabW spec_Same.tab11 spec_Same.bits11 (fun HT_ HW_ => ?_)
                          generalize wr.drew = w49 at BK145 BK146 HB HR149_3 HR149_4 HR150_3 HR150_4 hx149_0 hx149_1 hx149_2 hx149_3 hx149_4 hx150_0 hx150_1 hx150_2 hx150_3 hx150_4 hHeld ⊢
                          refine pure_ (i := 0) (N := some 69) (v := ?_) (a' := ?_) #[true, false, false, false, false, false, false, false, false, false, false, false] rfl rfl (any_of HT_.out (by kernel_rfl)) (fun _ _ _ h => h) (Or.inl ⟨by rfl, ?_⟩) ?_ ?_
                          rotate_left
                          · intro w'
                            go_simp
                            with_reducible rfl
                          rotate_left
                          · simp only [Act.put, List.setIfInBounds_toArray, List.set_cons_zero, List.set_cons_succ, i64_w, i32_w]
                            rfl
                          refine pure_ (i := 2) (N := some 71) (v := ?_) (a' := ?_) #[true, false, true, false, false, false, false, false, false, false, false, false] rfl rfl (any_of HT_.out (by kernel_rfl)) (fun _ _ _ h => h) (Or.inl ⟨by rfl, ?_⟩) ?_ ?_
                          rotate_left
                          · intro w'
                            go_simp
                            with_reducible rfl
                          rotate_left
                          · simp only [Act.put, List.setIfInBounds_toArray, List.set_cons_zero, List.set_cons_succ, i64_w, i32_w]
                            rfl
                          refine pure_ (i := 5) (N := some 74) (v := ?_) (a' := ?_) #[true, false, true, false, false, true, false, false, false, false, false, false] rfl rfl (any_of HT_.out (by kernel_rfl)) (fun _ _ _ h => h) (Or.inl ⟨by rfl, ?_⟩) ?_ ?_
                          rotate_left
                          · intro w'
                            go_simp
                            with_reducible rfl
                          rotate_left
                          · simp only [Act.put, List.setIfInBounds_toArray, List.set_cons_zero, List.set_cons_succ, i64_w, i32_w]
                            rfl
                          refine pure_ (i := 7) (N := some 76) (v := ?_) (a' := ?_) #[true, false, true, false, false, true, false, true, false, false, false, false] rfl rfl (any_of HT_.out (by kernel_rfl)) (fun _ _ _ h => h) (Or.inl ⟨by rfl, ?_⟩) ?_ ?_
                          rotate_left
                          · intro w'
                            go_simp
                            with_reducible rfl
                          rotate_left
                          · simp only [Act.put, List.setIfInBounds_toArray, List.set_cons_zero, List.set_cons_succ, i64_w, i32_w]
                            rfl
                          refine take_ (i := 1) (N := some 70) (v := ?_) (a' := ?_) #[true, true, true, false, false, true, false, true, false, false, false, false] rfl rfl (take_ofW HT_.out HW_.out (by kernel_rfl)) (fun _ _ _ h => h) (Or.inl ⟨by rfl, ?_⟩) hHeld ?_ ?_
                          rotate_left
                          · rintro w' ⟨s0, s1, s2, s3, s4, s5, s6, s7, s8, s9, s10, s11, s12, s13, s14, s15, s16, s17, s18, s19⟩
                            go_simp
                            with_reducible rfl
                          rotate_left
                          · simp only [Act.put, List.setIfInBounds_toArray, List.set_cons_zero, List.set_cons_succ, i64_w, i32_w]
                            rfl
                          refine pure_ (i := 3) (N := some 72) (v := ?_) (a' := ?_) #[true, true, true, true, false, true, false, true, false, false, false, false] rfl rfl (any_of HT_.out (by kernel_rfl)) (fun _ _ _ h => h) (Or.inl ⟨by rfl, ?_⟩) ?_ ?_
                          rotate_left
                          · intro w'
                            go_simp
                            with_reducible rfl
                          rotate_left
                          · simp only [Act.put, List.setIfInBounds_toArray, List.set_cons_zero, List.set_cons_succ, i64_w, i32_w]
                            rfl
                          refine take_ (i := 4) (N := some 73) (v := ?_) (a' := ?_) #[true, true, true, true, true, true, false, true, false, false, false, false] rfl rfl (take_ofW HT_.out HW_.out (by kernel_rfl)) (fun _ _ _ h => h) (Or.inl ⟨by rfl, ?_⟩) hHeld ?_ ?_
                          rotate_left
                          · rintro w' ⟨s0, s1, s2, s3, s4, s5, s6, s7, s8, s9, s10, s11, s12, s13, s14, s15, s16, s17, s18, s19⟩
                            go_simp
                            with_reducible rfl
                          rotate_left
                          · simp only [Act.put, List.setIfInBounds_toArray, List.set_cons_zero, List.set_cons_succ, i64_w, i32_w]
                            rfl
                          refine take_ (i := 6) (N := some 75) (v := ?_) (a' := ?_) #[true, true, true, true, true, true, true, true, false, false, false, false] rfl rfl (take_ofW HT_.out HW_.out (by kernel_rfl)) (fun _ _ _ h => h) (Or.inl ⟨by rfl, ?_⟩) hHeld ?_ ?_
                          rotate_left
                          · rintro w' ⟨s0, s1, s2, s3, s4, s5, s6, s7, s8, s9, s10, s11, s12, s13, s14, s15, s16, s17, s18, s19⟩
                            go_simp
                            with_reducible rfl
                          rotate_left
                          · simp only [Act.put, List.setIfInBounds_toArray, List.set_cons_zero, List.set_cons_succ, i64_w, i32_w]
                            rfl
                          refine pure_ (i := 8) (N := some 77) (v := ?_) (a' := ?_) #[true, true, true, true, true, true, true, true, true, false, false, false] rfl rfl (any_of HT_.out (by kernel_rfl)) (fun _ _ _ h => h) (Or.inl ⟨by rfl, ?_⟩) ?_ ?_
                          rotate_left
                          · intro w'
                            go_simp
                            with_reducible rfl
                          rotate_left
                          · simp only [Act.put, List.setIfInBounds_toArray, List.set_cons_zero, List.set_cons_succ, i64_w, i32_w]
                            rfl
                          refine take_ (i := 9) (N := some 78) (v := ?_) (a' := ?_) #[true, true, true, true, true, true, true, true, true, true, false, false] rfl rfl (take_ofW HT_.out HW_.out (by kernel_rfl)) (fun _ _ _ h => h) (Or.inl ⟨by rfl, ?_⟩) hHeld ?_ ?_
                          rotate_left
                          · rintro w' ⟨s0, s1, s2, s3, s4, s5, s6, s7, s8, s9, s10, s11, s12, s13, s14, s15, s16, s17, s18, s19⟩
                            go_simp
                            with_reducible rfl
                          rotate_left
                          · simp only [Act.put, List.setIfInBounds_toArray, List.set_cons_zero, List.set_cons_succ, i64_w, i32_w]
                            rfl
                          refine one_ (i := 10) (N := some 79) #[true, true, true, true, true, true, true, true, true, true, true, false] rfl rfl (one_of HT_.out (by kernel_rfl)) (by decide) (fun K hK => ?_)
                          refine goes_ Tryd.func14 (by kernel_rfl) rfl #[.agg #[.int .i64 ((rd_T25 l0_4 x6_3).f0), .int .i64 ((rd_T25 l0_4 x6_3).f1), .string ((rd_T25 l0_4 x6_3).f2), .slice A149_3 ((rd_T25 l0_4 x6_3).f3).length c149_3, .slice A149_4 ((rd_T25 l0_4 x6_3).f4).length c149_4], .agg #[.int .i64 ((rd_T25 l1_4 x6_3).f0), .int .i64 ((rd_T25 l1_4 x6_3).f1), .string ((rd_T25 l1_4 x6_3).f2), .slice A150_3 ((rd_T25 l1_4 x6_3).f3).length c150_3, .slice A150_4 ((rd_T25 l1_4 x6_3).f4).length c150_4]] (by rfl) rfl rfl (by (try simp only [List.map_toArray, List.map_cons, List.map_nil]); first | done | rfl | (simp only [List.length_drop, List.length_take]; rfl)) ?_
                          with_reducible refine (ih k3 (by have := HJ2.out; have := HK2.out; have := HK3.out; omega) ((rd_T25 l0_4 x6_3).f0) ((rd_T25 l0_4 x6_3).f1) ((rd_T25 l0_4 x6_3).f2) _ _ ((rd_T25 l0_4 x6_3).f3) _ _ ((rd_T25 l0_4 x6_3).f4) ((rd_T25 l1_4 x6_3).f0) ((rd_T25 l1_4 x6_3).f1) ((rd_T25 l1_4 x6_3).f2) _ _ ((rd_T25 l1_4 x6_3).f3) _ _ ((rd_T25 l1_4 x6_3).f4) false _ ?side1 ?side2 ?side3 ?side4 ?side5 ?side6 ?side7 ?side8 A41.out).mono ?_
                          (case side1 => repeat (first | exact (Kd.C_below HR149_3.out HB.out) | (with_reducible refine Kd.C_alloc ?_ _) | (with_reducible refine Kd.C_drewN ?_ _) | (with_reducible refine Kd.C_drew ?_)))
                          (case side2 => exact HC149_3.out)
                          (case side3 => repeat (first | exact (Kd.C_below HR149_4.out HB.out) | (with_reducible refine Kd.C_alloc ?_ _) | (with_reducible refine Kd.C_drewN ?_ _) | (with_reducible refine Kd.C_drew ?_)))
                          (case side4 => exact HC149_4.out)
                          (case side5 => repeat (first | exact (Kd.C_below HR150_3.out HB.out) | (with_reducible refine Kd.C_alloc ?_ _) | (with_reducible refine Kd.C_drewN ?_ _) | (with_reducible refine Kd.C_drew ?_)))
                          (case side6 => exact HC150_3.out)
                          (case side7 => repeat (first | exact (Kd.C_below HR150_4.out HB.out) | (with_reducible refine Kd.C_alloc ?_ _) | (with_reducible refine Kd.C_drewN ?_ _) | (with_reducible refine Kd.C_drew ?_)))
                          (case side8 => exact HC150_4.out)
                          rintro e w50 ⟨rfl, hb⟩
                          refine ⟨_, rfl, ?_⟩
                          have n0_ := Aside0.mk (blk_below (g := gb145) (o := .cells #[.int .i64 a0_0, .int .i64 a0_1, .string a0_2, .slice A0_3 l0_3.length c0_3, .slice (some ad149) l0_4.length c0_4] 25 (0, 0)) (by (with_reducible repeat (first | refine blk_drewN ?_ _ | refine blk_drew ?_ | refine blk_alloc ?_ _)); exact BK145.out) hb)
                          have n1_ := Aside0.mk (blk_below (g := gb146) (o := .cells #[.int .i64 a1_0, .int .i64 a1_1, .string a1_2, .slice A1_3 l1_3.length c1_3, .slice (some ad150) l1_4.length c1_4] 25 (0, 0)) (by (with_reducible repeat (first | refine blk_drewN ?_ _ | refine blk_drew ?_ | refine blk_alloc ?_ _)); exact BK146.out) hb)
                          have n2_ := Aside0.mk (below_step (by repeat (first | (with_reducible first | exact HB.out | apply below_alloc | apply pw_below_drewN | apply below_drew1 | refine below_set ?_ GE145.out | refine below_set ?_ GE146.out) | exact HB.out)) hb)
                          clear BK145
                          clear BK146
                          clear HB
                          have BK145 := n0_
                          have BK146 := n1_
                          have HB := n2_
                          clear n0_ n1_ n2_
                          (try clear hb)
                          (try clear hb2)
                          (try clear hk)
                          (try clear hi)
                          refine hK.out _ _ ⟨(blk_cell BK145.out 0).trans rfl, (blk_cell BK145.out 1).trans rfl, (blk_cell BK145.out 2).trans rfl, (blk_cell BK145.out 3).trans rfl, (blk_cell BK145.out 4).trans rfl, (blk_cell BK146.out 0).trans rfl, (blk_cell BK146.out 1).trans rfl, (blk_cell BK146.out 2).trans rfl, (blk_cell BK146.out 3).trans rfl, (blk_cell BK146.out 4).trans rfl, ((HB.out.cell (World.block_lt_of_cell? w _ hw149_0)).trans hw149_0), ((HB.out.cell (World.block_lt_of_cell? w _ hw149_1)).trans hw149_1), ((HB.out.cell (World.block_lt_of_cell? w _ hw149_2)).trans hw149_2), ((HB.out.cell (World.block_lt_of_cell? w _ hw149_3)).trans hw149_3), ((HB.out.cell (World.block_lt_of_cell? w _ hw149_4)).trans hw149_4), ((HB.out.cell (World.block_lt_of_cell? w _ hw150_0)).trans hw150_0), ((HB.out.cell (World.block_lt_of_cell? w _ hw150_1)).trans hw150_1), ((HB.out.cell (World.block_lt_of_cell? w _ hw150_2)).trans hw150_2), ((HB.out.cell (World.block_lt_of_cell? w _ hw150_3)).trans hw150_3), ((HB.out.cell (World.block_lt_of_cell? w _ hw150_4)).trans hw150_4)⟩ (fun hHeld => ?_)
                          clear hK K
                          refine norm_ (a' := ?_) ?_ ?_
                          rotate_left
                          · show Act.put _ (some 79) _ = _
                            simp only [Act.put, List.setIfInBounds_toArray, List.set_cons_zero, List.set_cons_succ, i64_w, i32_w]
                            rfl
                          refine pure_ (i := 11) (N := some 80) (v := ?_) (a' := ?_) #[true, true, true, true, true, true, true, true, true, true, true, true] rfl rfl (any_of HT_.out (by kernel_rfl)) (fun _ _ _ h => h) (Or.inl ⟨by rfl, ?_⟩) ?_ ?_
                          rotate_left
                          · intro w'
                            go_simp
                            with_reducible rfl
                          rotate_left
                          · simp only [Act.put, List.setIfInBounds_toArray, List.set_cons_zero, List.set_cons_succ, i64_w, i32_w]
                            rfl
                          refine done_ (done_of HT_.out (by kernel_rfl)) ?_
                          try go_wp2
                          go_ret
                          exact ⟨by first | rfl | (simp [errW_none, errW_some] <;> rfl) | (simp [*, errW_none, errW_some] <;> rfl), by repeat (first | (with_reducible first | exact HB.out | apply below_alloc | apply pw_below_drewN | apply below_drew1 | refine below_set ?_ GE145.out | refine below_set ?_ GE146.out) | exact HB.out)⟩
                      · rw [if_neg c40] at H
                        exact absurd H (by simp)
                    · rw [if_neg c39] at H
                      exact absurd H (by simp)
                  · rw [if_neg c38] at H
                    have c38b0 : decide (x6_3 < (l0_4.length : Int)) = false := decide_eq_false c38
                    clear c38
                    obtain rfl := Option.some.inj H
                    have hnb51 := NB145_146.out
                    have hnc51 := NB146_145.out
                    have hcz52_0 : wr.cell? ⟨gb145, 0, none⟩ = some (.int .i64 a0_0) := (blk_cell BK145.out 0).trans rfl
                    have hcz52_1 : wr.cell? ⟨gb145, 1, none⟩ = some (.int .i64 a0_1) := (blk_cell BK145.out 1).trans rfl
                    have hcz52_2 : wr.cell? ⟨gb145, 2, none⟩ = some (.string a0_2) := (blk_cell BK145.out 2).trans rfl
                    have hcz52_3 : wr.cell? ⟨gb145, 3, none⟩ = some (.slice A0_3 l0_3.length c0_3) := (blk_cell BK145.out 3).trans rfl
                    have hcz52_4 : wr.cell? ⟨gb145, 4, none⟩ = some (.slice A0_4 l0_4.length c0_4) := (blk_cell BK145.out 4).trans rfl
                    have hfz52_0 := blk_frozen BK145.out 0
                    have hfz52_1 := blk_frozen BK145.out 1
                    have hfz52_2 := blk_frozen BK145.out 2
                    have hfz52_3 := blk_frozen BK145.out 3
                    have hfz52_4 := blk_frozen BK145.out 4
                    go_wp2
                    go_ret
                    exact ⟨by first | rfl | (simp [errW_none, errW_some] <;> rfl) | (simp [*, errW_none, errW_some] <;> rfl), by repeat (first | (with_reducible first | exact HB.out | apply below_alloc | apply pw_below_drewN | apply below_drew1 | refine below_set ?_ GE145.out | refine below_set ?_ GE146.out) | exact HB.out)⟩

end Go.Proofs.YtgeamhmenmomhaaDoor.PT
-- Written by a program over the translation (xprint.py). Lean checks it.
namespace Go.Proofs.YtgeamhmenmomhaaDoor.PT
open Go.RowKit Go.Proofs.YtgeamhmenmomhaaDoorW.PrintWords Go.Proofs.YtgeamhmenmomhaaDoorW.PrintLast Go.Proofs.YtgeamhmenmomhaaDoorW.PrintMore
attribute [local go_sem] max2_int min2_int max_two min_two max_three min_three max_four min_four   -- for this text's walks alone
set_option linter.unusedVariables false
set_option linter.unusedSimpArgs false

/-! ### laws_zzFits2: function 18 -/
def laws_zzFits2.l0 : Nat → List ByteArray → Int → Int → Option (Bool)
  | 0, _, _, _ => none
  | k + 1, x8, x9, x10 => if x10 < x9 then (if 0 ≤ x10 then (if x10 < (x8.length : Int) then (if ((rdOf ByteArray.empty x8 x10).size : Int) > 2147483647 then (some false) else (laws_zzFits2.l0 k x8 x9 (wrap64 (x10 + 1)))) else (none)) else (none)) else (some true)
def laws_zzFits2.f (k : Nat) (l0 : List ByteArray) : Option (Bool) := if (l0.length : Int) > 2147483647 then (some false) else (laws_zzFits2.l0 k l0 (l0.length : Int) 0)
set_option maxHeartbeats 8000000 in
set_option maxRecDepth 100000 in
theorem laws_zzFits2.calls (k : Nat) (A0 : Option Addr) (c0 : Nat) (l0 : List ByteArray) (r : Bool) (w : World) (hr0 : Kd.C Kd.string w A0 l0.length l0) (hc0 : l0.length ≤ c0) (h : laws_zzFits2.f k l0 = some r) :
    Calls Tryd.prog 18 #[.slice A0 l0.length c0] w fun e w' => e = .returned (.bool r) ∧ Drawn0 w w' := by
  have HR0 := Aside0.mk hr0
  have HC0 := Aside0.mk hc0
  clear hr0 hc0
  have H : (if (l0.length : Int) > 2147483647 then (some false) else (laws_zzFits2.l0 k l0 (l0.length : Int) 0)) = some r := h
  clear h
  by_cases c2 : (l0.length : Int) > 2147483647
  · rw [if_pos c2] at H
    have c2b0 : decide (2147483647 < (l0.length : Int)) = true := decide_eq_true c2
    have c2b1 : decide (2147483647 < l0.length) = true := decide_eq_true (by omega)
    clear c2
    obtain rfl := Option.some.inj H
    go_enter Tryd.func18, Tryd.ntmps18
    go_wp2
    go_ret
    exact ⟨by first | rfl | (simp; done) | (simp [*]; done), by repeat (first | exact Drawn0.refl _ | apply Drawn0.step)⟩
  · rw [if_neg c2] at H
    have c2b0 : decide (2147483647 < (l0.length : Int)) = false := decide_eq_false c2
    have c2b1 : decide (2147483647 < l0.length) = false := decide_eq_false (by omega)
    clear c2
    have H' := Aside0.mk H
    clear H
    go_enter Tryd.func18, Tryd.ntmps18
    go_wp2
    go_loopg [10] k (fun kq v10 w' => ∃ (x10_1 : Int), v10 = .int .i64 x10_1 ∧ Aside0 (laws_zzFits2.l0 kq l0 (l0.length : Int) x10_1 = some r) ∧ Aside0 (kq ≤ k) ∧ Drawn0 w w')
    case atStart => exact ⟨(0), (by first | rfl | (simp; done) | (simp [*]; done)), H', ⟨Nat.le_refl _⟩, by repeat (first | exact Drawn0.refl _ | apply Drawn0.step)⟩
    case round =>
      clear H'
      try clear c1
      try clear c2
      try clear c2b0
      try clear c2b1
      try clear p2
      obtain ⟨x10_1, rfl, HA, HK1, ⟨m1, rfl⟩⟩ := hrel
      cases gk with
      | zero => exact absurd HA.out (by simp [laws_zzFits2.l0])
      | succ k1 =>
        have H := HA.out
        clear HA
        simp only [laws_zzFits2.l0] at H
        by_cases c3 : x10_1 < (l0.length : Int)
        · rw [if_pos c3] at H
          have c3b0 : decide (x10_1 < (l0.length : Int)) = true := decide_eq_true c3
          clear c3
          by_cases c4 : 0 ≤ x10_1
          · rw [if_pos c4] at H
            have c4b0 : decide (0 ≤ x10_1) = true := decide_eq_true c4
            clear c4
            by_cases c5 : x10_1 < (l0.length : Int)
            · rw [if_pos c5] at H
              have c5b0 : decide (x10_1 < (l0.length : Int)) = true := decide_eq_true c5
              clear c5
              by_cases c6 : ((rdOf ByteArray.empty l0 x10_1).size : Int) > 2147483647
              · rw [if_pos c6] at H
                have c6b0 : decide (2147483647 < ((rdOf ByteArray.empty l0 x10_1).size : Int)) = true := decide_eq_true c6
                have c6b1 : decide (2147483647 < (rdOf ByteArray.empty l0 x10_1).size) = true := decide_eq_true (by omega)
                clear c6
                obtain rfl := Option.some.inj H
                have p152 : 0 ≤ (x10_1 : Int) := of_decide_eq_true (by first | (with_reducible assumption) | assumption)
                have q152 : x10_1 < (l0.length : Int) := of_decide_eq_true (by first | (with_reducible assumption) | assumption)
                obtain ⟨ad152, e152, hx152_0⟩ := Kd.at_string HR0.out x10_1 p152 q152
                cases e152
                replace p152 := eq_true p152
                replace q152 := eq_true q152
                go_wp2
                go_ret
                exact ⟨by first | rfl | (simp; done) | (simp [*]; done), by repeat (first | exact Drawn0.refl _ | apply Drawn0.step)⟩
              · rw [if_neg c6] at H
                have c6b0 : decide (2147483647 < ((rdOf ByteArray.empty l0 x10_1).size : Int)) = false := decide_eq_false c6
                have c6b1 : decide (2147483647 < (rdOf ByteArray.empty l0 x10_1).size) = false := decide_eq_false (by omega)
                clear c6
                have H' := Aside0.mk H
                clear H
                have p152 : 0 ≤ (x10_1 : Int) := of_decide_eq_true (by first | (with_reducible assumption) | assumption)
                have q152 : x10_1 < (l0.length : Int) := of_decide_eq_true (by first | (with_reducible assumption) | assumption)
                obtain ⟨ad152, e152, hx152_0⟩ := Kd.at_string HR0.out x10_1 p152 q152
                cases e152
                replace p152 := eq_true p152
                replace q152 := eq_true q152
                go_wp2
                go_roundg k1
                case measure => have := HK1.out; omega
                case rel => exact ⟨(wrap64 (x10_1 + 1)), (by first | rfl | (simp; done) | (simp [*]; done)), H', ⟨by have := HK1.out; omega⟩, by repeat (first | exact Drawn0.refl _ | apply Drawn0.step)⟩
            · rw [if_neg c5] at H
              exact absurd H (by simp)
          · rw [if_neg c4] at H
            exact absurd H (by simp)
        · rw [if_neg c3] at H
          have c3b0 : decide (x10_1 < (l0.length : Int)) = false := decide_eq_false c3
          clear c3
          obtain rfl := Option.some.inj H
          go_wp2
          go_ret
          exact ⟨by first | rfl | (simp; done) | (simp [*]; done), by repeat (first | exact Drawn0.refl _ | apply Drawn0.step)⟩

/-! ### laws_zzFits1: function 5 -/
def laws_zzFits1.f (k : Nat) (a0_0 : Int) (a0_1 : Int) (a0_2 : ByteArray) (l0_3 : List ByteArray) (l0_4 : List (S25)) : Option (Bool) := if (a0_2.size : Int) > 2147483647 then (some false) else ((laws_zzFits2.f k l0_3).bind fun t154 => (if t154 = true then (if (l0_4.length : Int) > 2147483647 then (some false) else (some true)) else (some false)))
set_option maxHeartbeats 8000000 in
set_option maxRecDepth 100000 in
theorem laws_zzFits1.calls (k : Nat) (a0_0 : Int) (a0_1 : Int) (a0_2 : ByteArray) (A0_3 : Option Addr) (c0_3 : Nat) (l0_3 : List ByteArray) (A0_4 : Option Addr) (c0_4 : Nat) (l0_4 : List (S25)) (r : Bool) (w : World) (hr0_3 : Kd.C Kd.string w A0_3 l0_3.length l0_3) (hc0_3 : l0_3.length ≤ c0_3) (hr0_4 : Kd.C k25 w A0_4 l0_4.length l0_4) (hc0_4 : l0_4.length ≤ c0_4) (h : laws_zzFits1.f k a0_0 a0_1 a0_2 l0_3 l0_4 = some r) :
    Calls Tryd.prog 5 #[.agg #[.int .i64 a0_0, .int .i64 a0_1, .string a0_2, .slice A0_3 l0_3.length c0_3, .slice A0_4 l0_4.length c0_4]] w fun e w' => e = .returned (.bool r) ∧ Below w.heap.size w w' := by
  have hu25 := Tryd.underlying25
  have HR0_3 := Aside0.mk hr0_3
  have HC0_3 := Aside0.mk hc0_3
  clear hr0_3 hc0_3
  have HR0_4 := Aside0.mk hr0_4
  have HC0_4 := Aside0.mk hc0_4
  clear hr0_4 hc0_4
  have HB := Aside0.mk (Below.refl w.heap.size w)
  have H : (if (a0_2.size : Int) > 2147483647 then (some false) else ((laws_zzFits2.f k l0_3).bind fun t154 => (if t154 = true then (if (l0_4.length : Int) > 2147483647 then (some false) else (some true)) else (some false)))) = some r := h
  clear h
  by_cases c2 : (a0_2.size : Int) > 2147483647
  · rw [if_pos c2] at H
    have c2b0 : decide (2147483647 < (a0_2.size : Int)) = true := decide_eq_true c2
    have c2b1 : decide (2147483647 < a0_2.size) = true := decide_eq_true (by omega)
    clear c2
    obtain rfl := Option.some.inj H
    go_enter Tryd.func5, Tryd.ntmps5
    go_wp2_with (first | ((with_reducible refine gate_dst (N := 1) rfl ?_); refine box_event ?hg (N := 1) ?hd (cs := #[.int .i64 a0_0, .int .i64 a0_1, .string a0_2, .slice A0_3 l0_3.length c0_3, .slice A0_4 l0_4.length c0_4]) (t := 25) ?hr ?_; (case hd => rfl); (case hg => rfl); (case hr => first | (go_simp; done) | (go_simp; rfl)); intro gb153 hg w3 hbox hb; have n0_ := Aside0.mk (below_step (by repeat (first | (with_reducible first | exact HB.out | apply below_alloc | apply pw_below_drewN | apply below_drew1) | exact HB.out)) hb); have n1_ := Aside0.mk (hbox); have n2_ := Aside0.mk ((by rw [hg]; exact (below_size (by repeat (first | (with_reducible first | exact HB.out | apply below_alloc | apply pw_below_drewN | apply below_drew1) | exact HB.out))) : w.heap.size ≤ gb153)); have n3_ := Aside0.mk ((by rw [hg]; exact (below_size (by repeat (first | (with_reducible first | exact HB.out | apply below_alloc | apply pw_below_drewN | apply below_drew1) | exact HB.out))) : w.heap.size ≤ gb153)); clear HB; have HB := n0_; have BK153 := n1_; have GW153 := n2_; have GE153 := n3_; clear n0_ n1_ n2_ n3_; clear hb hbox hg; have hcz4_0 : w3.cell? ⟨gb153, 0, none⟩ = some (.int .i64 a0_0) := (blk_cell BK153.out 0).trans rfl; have hcz4_1 : w3.cell? ⟨gb153, 1, none⟩ = some (.int .i64 a0_1) := (blk_cell BK153.out 1).trans rfl; have hcz4_2 : w3.cell? ⟨gb153, 2, none⟩ = some (.string a0_2) := (blk_cell BK153.out 2).trans rfl; have hcz4_3 : w3.cell? ⟨gb153, 3, none⟩ = some (.slice A0_3 l0_3.length c0_3) := (blk_cell BK153.out 3).trans rfl; have hcz4_4 : w3.cell? ⟨gb153, 4, none⟩ = some (.slice A0_4 l0_4.length c0_4) := (blk_cell BK153.out 4).trans rfl; have hfz4_0 := blk_frozen BK153.out 0; have hfz4_1 := blk_frozen BK153.out 1; have hfz4_2 := blk_frozen BK153.out 2; have hfz4_3 := blk_frozen BK153.out 3; have hfz4_4 := blk_frozen BK153.out 4))
    go_ret
    exact ⟨by first | rfl | (simp [errW_none, errW_some] <;> rfl) | (simp [*, errW_none, errW_some] <;> rfl), by repeat (first | (with_reducible first | exact HB.out | apply below_alloc | apply pw_below_drewN | apply below_drew1 | refine below_set ?_ GE153.out) | exact HB.out)⟩
  · rw [if_neg c2] at H
    have c2b0 : decide (2147483647 < (a0_2.size : Int)) = false := decide_eq_false c2
    have c2b1 : decide (2147483647 < a0_2.size) = false := decide_eq_false (by omega)
    clear c2
    replace H := Option.bind_eq_some_iff.mp H
    obtain ⟨t154, A50, H⟩ := H
    replace H : (if t154 = true then (if (l0_4.length : Int) > 2147483647 then (some false) else (some true)) else (some false)) = some r := H
    have A5 := Aside0.mk A50
    clear A50
    by_cases c6 : t154 = true
    · subst c6
      have H1 : (if (l0_4.length : Int) > 2147483647 then (some false) else (some true)) = some r := by rw [if_pos rfl] at H; exact H
      clear H
      have H := H1
      clear H1
      by_cases c7 : (l0_4.length : Int) > 2147483647
      · rw [if_pos c7] at H
        have c7b0 : decide (2147483647 < (l0_4.length : Int)) = true := decide_eq_true c7
        have c7b1 : decide (2147483647 < l0_4.length) = true := decide_eq_true (by omega)
        clear c7
        obtain rfl := Option.some.inj H
        go_enter Tryd.func5, Tryd.ntmps5
        go_wp2_with (first | ((with_reducible refine gate_dst (N := 1) rfl ?_); refine box_event ?hg (N := 1) ?hd (cs := #[.int .i64 a0_0, .int .i64 a0_1, .string a0_2, .slice A0_3 l0_3.length c0_3, .slice A0_4 l0_4.length c0_4]) (t := 25) ?hr ?_; (case hd => rfl); (case hg => rfl); (case hr => first | (go_simp; done) | (go_simp; rfl)); intro gb153 hg w8 hbox hb; have n0_ := Aside0.mk (below_step (by repeat (first | (with_reducible first | exact HB.out | apply below_alloc | apply pw_below_drewN | apply below_drew1) | exact HB.out)) hb); have n1_ := Aside0.mk (hbox); have n2_ := Aside0.mk ((by rw [hg]; exact (below_size (by repeat (first | (with_reducible first | exact HB.out | apply below_alloc | apply pw_below_drewN | apply below_drew1) | exact HB.out))) : w.heap.size ≤ gb153)); have n3_ := Aside0.mk ((by rw [hg]; exact (below_size (by repeat (first | (with_reducible first | exact HB.out | apply below_alloc | apply pw_below_drewN | apply below_drew1) | exact HB.out))) : w.heap.size ≤ gb153)); clear HB; have HB := n0_; have BK153 := n1_; have GW153 := n2_; have GE153 := n3_; clear n0_ n1_ n2_ n3_; clear hb hbox hg; have hcz9_0 : w8.cell? ⟨gb153, 0, none⟩ = some (.int .i64 a0_0) := (blk_cell BK153.out 0).trans rfl; have hcz9_1 : w8.cell? ⟨gb153, 1, none⟩ = some (.int .i64 a0_1) := (blk_cell BK153.out 1).trans rfl; have hcz9_2 : w8.cell? ⟨gb153, 2, none⟩ = some (.string a0_2) := (blk_cell BK153.out 2).trans rfl; have hcz9_3 : w8.cell? ⟨gb153, 3, none⟩ = some (.slice A0_3 l0_3.length c0_3) := (blk_cell BK153.out 3).trans rfl; have hcz9_4 : w8.cell? ⟨gb153, 4, none⟩ = some (.slice A0_4 l0_4.length c0_4) := (blk_cell BK153.out 4).trans rfl; have hfz9_0 := blk_frozen BK153.out 0; have hfz9_1 := blk_frozen BK153.out 1; have hfz9_2 := blk_frozen BK153.out 2; have hfz9_3 := blk_frozen BK153.out 3; have hfz9_4 := blk_frozen BK153.out 4) | ((with_reducible refine gate_callee (f := 18) rfl ?_); refine goesL_ (some 9) rfl rfl Tryd.func18 (by kernel_rfl) rfl #[.slice A0_3 l0_3.length c0_3] rfl (by (try simp only [List.map_toArray, List.map_cons, List.map_nil]); first | done | rfl | (simp only [List.length_drop, List.length_take]; rfl)) ?_; (with_reducible refine (laws_zzFits2.calls k _ _ l0_3 true _ ?side1 ?side2 A5.out).mono ?_); (case side1 => repeat (first | exact (Kd.C_below HR0_3.out HB.out) | (with_reducible refine Kd.C_alloc ?_ _) | (with_reducible refine Kd.C_drewN ?_ _) | (with_reducible refine Kd.C_drew ?_))); (case side2 => exact HC0_3.out); rintro e w' ⟨rfl, ⟨nd, rfl⟩⟩; refine ⟨_, rfl, ?_⟩))
        go_ret
        exact ⟨by first | rfl | (simp [errW_none, errW_some] <;> rfl) | (simp [*, errW_none, errW_some] <;> rfl), by repeat (first | (with_reducible first | exact HB.out | apply below_alloc | apply pw_below_drewN | apply below_drew1 | refine below_set ?_ GE153.out) | exact HB.out)⟩
      · rw [if_neg c7] at H
        have c7b0 : decide (2147483647 < (l0_4.length : Int)) = false := decide_eq_false c7
        have c7b1 : decide (2147483647 < l0_4.length) = false := decide_eq_false (by omega)
        clear c7
        obtain rfl := Option.some.inj H
        go_enter Tryd.func5, Tryd.ntmps5
        go_wp2_with (first | ((with_reducible refine gate_dst (N := 1) rfl ?_); refine box_event ?hg (N := 1) ?hd (cs := #[.int .i64 a0_0, .int .i64 a0_1, .string a0_2, .slice A0_3 l0_3.length c0_3, .slice A0_4 l0_4.length c0_4]) (t := 25) ?hr ?_; (case hd => rfl); (case hg => rfl); (case hr => first | (go_simp; done) | (go_simp; rfl)); intro gb153 hg w10 hbox hb; have n0_ := Aside0.mk (below_step (by repeat (first | (with_reducible first | exact HB.out | apply below_alloc | apply pw_below_drewN | apply below_drew1) | exact HB.out)) hb); have n1_ := Aside0.mk (hbox); have n2_ := Aside0.mk ((by rw [hg]; exact (below_size (by repeat (first | (with_reducible first | exact HB.out | apply below_alloc | apply pw_below_drewN | apply below_drew1) | exact HB.out))) : w.heap.size ≤ gb153)); have n3_ := Aside0.mk ((by rw [hg]; exact (below_size (by repeat (first | (with_reducible first | exact HB.out | apply below_alloc | apply pw_below_drewN | apply below_drew1) | exact HB.out))) : w.heap.size ≤ gb153)); clear HB; have HB := n0_; have BK153 := n1_; have GW153 := n2_; have GE153 := n3_; clear n0_ n1_ n2_ n3_; clear hb hbox hg; have hcz11_0 : w10.cell? ⟨gb153, 0, none⟩ = some (.int .i64 a0_0) := (blk_cell BK153.out 0).trans rfl; have hcz11_1 : w10.cell? ⟨gb153, 1, none⟩ = some (.int .i64 a0_1) := (blk_cell BK153.out 1).trans rfl; have hcz11_2 : w10.cell? ⟨gb153, 2, none⟩ = some (.string a0_2) := (blk_cell BK153.out 2).trans rfl; have hcz11_3 : w10.cell? ⟨gb153, 3, none⟩ = some (.slice A0_3 l0_3.length c0_3) := (blk_cell BK153.out 3).trans rfl; have hcz11_4 : w10.cell? ⟨gb153, 4, none⟩ = some (.slice A0_4 l0_4.length c0_4) := (blk_cell BK153.out 4).trans rfl; have hfz11_0 := blk_frozen BK153.out 0; have hfz11_1 := blk_frozen BK153.out 1; have hfz11_2 := blk_frozen BK153.out 2; have hfz11_3 := blk_frozen BK153.out 3; have hfz11_4 := blk_frozen BK153.out 4) | ((with_reducible refine gate_callee (f := 18) rfl ?_); refine goesL_ (some 9) rfl rfl Tryd.func18 (by kernel_rfl) rfl #[.slice A0_3 l0_3.length c0_3] rfl (by (try simp only [List.map_toArray, List.map_cons, List.map_nil]); first | done | rfl | (simp only [List.length_drop, List.length_take]; rfl)) ?_; (with_reducible refine (laws_zzFits2.calls k _ _ l0_3 true _ ?side1 ?side2 A5.out).mono ?_); (case side1 => repeat (first | exact (Kd.C_below HR0_3.out HB.out) | (with_reducible refine Kd.C_alloc ?_ _) | (with_reducible refine Kd.C_drewN ?_ _) | (with_reducible refine Kd.C_drew ?_))); (case side2 => exact HC0_3.out); rintro e w' ⟨rfl, ⟨nd, rfl⟩⟩; refine ⟨_, rfl, ?_⟩))
        go_ret
        exact ⟨by first | rfl | (simp [errW_none, errW_some] <;> rfl) | (simp [*, errW_none, errW_some] <;> rfl), by repeat (first | (with_reducible first | exact HB.out | apply below_alloc | apply pw_below_drewN | apply below_drew1 | refine below_set ?_ GE153.out) | exact HB.out)⟩
    · replace c6 := Bool.eq_false_iff.mpr c6
      subst c6
      have H1 : (some false) = some r := by rw [if_neg (show ¬ (false = true) by decide)] at H; exact H
      clear H
      have H := H1
      clear H1
      obtain rfl := Option.some.inj H
      go_enter Tryd.func5, Tryd.ntmps5
      go_wp2_with (first | ((with_reducible refine gate_dst (N := 1) rfl ?_); refine box_event ?hg (N := 1) ?hd (cs := #[.int .i64 a0_0, .int .i64 a0_1, .string a0_2, .slice A0_3 l0_3.length c0_3, .slice A0_4 l0_4.length c0_4]) (t := 25) ?hr ?_; (case hd => rfl); (case hg => rfl); (case hr => first | (go_simp; done) | (go_simp; rfl)); intro gb153 hg w12 hbox hb; have n0_ := Aside0.mk (below_step (by repeat (first | (with_reducible first | exact HB.out | apply below_alloc | apply pw_below_drewN | apply below_drew1) | exact HB.out)) hb); have n1_ := Aside0.mk (hbox); have n2_ := Aside0.mk ((by rw [hg]; exact (below_size (by repeat (first | (with_reducible first | exact HB.out | apply below_alloc | apply pw_below_drewN | apply below_drew1) | exact HB.out))) : w.heap.size ≤ gb153)); have n3_ := Aside0.mk ((by rw [hg]; exact (below_size (by repeat (first | (with_reducible first | exact HB.out | apply below_alloc | apply pw_below_drewN | apply below_drew1) | exact HB.out))) : w.heap.size ≤ gb153)); clear HB; have HB := n0_; have BK153 := n1_; have GW153 := n2_; have GE153 := n3_; clear n0_ n1_ n2_ n3_; clear hb hbox hg; have hcz13_0 : w12.cell? ⟨gb153, 0, none⟩ = some (.int .i64 a0_0) := (blk_cell BK153.out 0).trans rfl; have hcz13_1 : w12.cell? ⟨gb153, 1, none⟩ = some (.int .i64 a0_1) := (blk_cell BK153.out 1).trans rfl; have hcz13_2 : w12.cell? ⟨gb153, 2, none⟩ = some (.string a0_2) := (blk_cell BK153.out 2).trans rfl; have hcz13_3 : w12.cell? ⟨gb153, 3, none⟩ = some (.slice A0_3 l0_3.length c0_3) := (blk_cell BK153.out 3).trans rfl; have hcz13_4 : w12.cell? ⟨gb153, 4, none⟩ = some (.slice A0_4 l0_4.length c0_4) := (blk_cell BK153.out 4).trans rfl; have hfz13_0 := blk_frozen BK153.out 0; have hfz13_1 := blk_frozen BK153.out 1; have hfz13_2 := blk_frozen BK153.out 2; have hfz13_3 := blk_frozen BK153.out 3; have hfz13_4 := blk_frozen BK153.out 4) | ((with_reducible refine gate_callee (f := 18) rfl ?_); refine goesL_ (some 9) rfl rfl Tryd.func18 (by kernel_rfl) rfl #[.slice A0_3 l0_3.length c0_3] rfl (by (try simp only [List.map_toArray, List.map_cons, List.map_nil]); first | done | rfl | (simp only [List.length_drop, List.length_take]; rfl)) ?_; (with_reducible refine (laws_zzFits2.calls k _ _ l0_3 false _ ?side1 ?side2 A5.out).mono ?_); (case side1 => repeat (first | exact (Kd.C_below HR0_3.out HB.out) | (with_reducible refine Kd.C_alloc ?_ _) | (with_reducible refine Kd.C_drewN ?_ _) | (with_reducible refine Kd.C_drew ?_))); (case side2 => exact HC0_3.out); rintro e w' ⟨rfl, ⟨nd, rfl⟩⟩; refine ⟨_, rfl, ?_⟩))
      go_ret
      exact ⟨by first | rfl | (simp [errW_none, errW_some] <;> rfl) | (simp [*, errW_none, errW_some] <;> rfl), by repeat (first | (with_reducible first | exact HB.out | apply below_alloc | apply pw_below_drewN | apply below_drew1 | refine below_set ?_ GE153.out) | exact HB.out)⟩

/-! ### laws_zzFits4: function 19 -/
def laws_zzFits4.f (a0_0 : ByteArray) (a0_1 : ByteArray) : Option (Bool) := if (a0_0.size : Int) > 2147483647 then (some false) else (if (a0_1.size : Int) > 2147483647 then (some false) else (some true))
set_option maxHeartbeats 8000000 in
set_option maxRecDepth 100000 in
theorem laws_zzFits4.calls (a0_0 : ByteArray) (a0_1 : ByteArray) (r : Bool) (w : World) (h : laws_zzFits4.f a0_0 a0_1 = some r) :
    Calls Tryd.prog 19 #[.agg #[.string a0_0, .string a0_1]] w fun e w' => e = .returned (.bool r) ∧ Below w.heap.size w w' := by
  have hu51 := Tryd.underlying51
  have HB := Aside0.mk (Below.refl w.heap.size w)
  have H : (if (a0_0.size : Int) > 2147483647 then (some false) else (if (a0_1.size : Int) > 2147483647 then (some false) else (some true))) = some r := h
  clear h
  by_cases c2 : (a0_0.size : Int) > 2147483647
  · rw [if_pos c2] at H
    have c2b0 : decide (2147483647 < (a0_0.size : Int)) = true := decide_eq_true c2
    have c2b1 : decide (2147483647 < a0_0.size) = true := decide_eq_true (by omega)
    clear c2
    obtain rfl := Option.some.inj H
    go_enter Tryd.func19, Tryd.ntmps19
    go_wp2_with (first | ((with_reducible refine gate_dst (N := 1) rfl ?_); refine box_event ?hg (N := 1) ?hd (cs := #[.string a0_0, .string a0_1]) (t := 51) ?hr ?_; (case hd => rfl); (case hg => rfl); (case hr => first | (go_simp; done) | (go_simp; rfl)); intro gb155 hg w3 hbox hb; have n0_ := Aside0.mk (below_step (by repeat (first | (with_reducible first | exact HB.out | apply below_alloc | apply pw_below_drewN | apply below_drew1) | exact HB.out)) hb); have n1_ := Aside0.mk (hbox); have n2_ := Aside0.mk ((by rw [hg]; exact (below_size (by repeat (first | (with_reducible first | exact HB.out | apply below_alloc | apply pw_below_drewN | apply below_drew1) | exact HB.out))) : w.heap.size ≤ gb155)); have n3_ := Aside0.mk ((by rw [hg]; exact (below_size (by repeat (first | (with_reducible first | exact HB.out | apply below_alloc | apply pw_below_drewN | apply below_drew1) | exact HB.out))) : w.heap.size ≤ gb155)); clear HB; have HB := n0_; have BK155 := n1_; have GW155 := n2_; have GE155 := n3_; clear n0_ n1_ n2_ n3_; clear hb hbox hg; have hcz4_0 : w3.cell? ⟨gb155, 0, none⟩ = some (.string a0_0) := (blk_cell BK155.out 0).trans rfl; have hcz4_1 : w3.cell? ⟨gb155, 1, none⟩ = some (.string a0_1) := (blk_cell BK155.out 1).trans rfl; have hfz4_0 := blk_frozen BK155.out 0; have hfz4_1 := blk_frozen BK155.out 1))
    go_ret
    exact ⟨by first | rfl | (simp [errW_none, errW_some] <;> rfl) | (simp [*, errW_none, errW_some] <;> rfl), by repeat (first | (with_reducible first | exact HB.out | apply below_alloc | apply pw_below_drewN | apply below_drew1 | refine below_set ?_ GE155.out) | exact HB.out)⟩
  · rw [if_neg c2] at H
    have c2b0 : decide (2147483647 < (a0_0.size : Int)) = false := decide_eq_false c2
    have c2b1 : decide (2147483647 < a0_0.size) = false := decide_eq_false (by omega)
    clear c2
    by_cases c5 : (a0_1.size : Int) > 2147483647
    · rw [if_pos c5] at H
      have c5b0 : decide (2147483647 < (a0_1.size : Int)) = true := decide_eq_true c5
      have c5b1 : decide (2147483647 < a0_1.size) = true := decide_eq_true (by omega)
      clear c5
      obtain rfl := Option.some.inj H
      go_enter Tryd.func19, Tryd.ntmps19
      go_wp2_with (first | ((with_reducible refine gate_dst (N := 1) rfl ?_); refine box_event ?hg (N := 1) ?hd (cs := #[.string a0_0, .string a0_1]) (t := 51) ?hr ?_; (case hd => rfl); (case hg => rfl); (case hr => first | (go_simp; done) | (go_simp; rfl)); intro gb155 hg w6 hbox hb; have n0_ := Aside0.mk (below_step (by repeat (first | (with_reducible first | exact HB.out | apply below_alloc | apply pw_below_drewN | apply below_drew1) | exact HB.out)) hb); have n1_ := Aside0.mk (hbox); have n2_ := Aside0.mk ((by rw [hg]; exact (below_size (by repeat (first | (with_reducible first | exact HB.out | apply below_alloc | apply pw_below_drewN | apply below_drew1) | exact HB.out))) : w.heap.size ≤ gb155)); have n3_ := Aside0.mk ((by rw [hg]; exact (below_size (by repeat (first | (with_reducible first | exact HB.out | apply below_alloc | apply pw_below_drewN | apply below_drew1) | exact HB.out))) : w.heap.size ≤ gb155)); clear HB; have HB := n0_; have BK155 := n1_; have GW155 := n2_; have GE155 := n3_; clear n0_ n1_ n2_ n3_; clear hb hbox hg; have hcz7_0 : w6.cell? ⟨gb155, 0, none⟩ = some (.string a0_0) := (blk_cell BK155.out 0).trans rfl; have hcz7_1 : w6.cell? ⟨gb155, 1, none⟩ = some (.string a0_1) := (blk_cell BK155.out 1).trans rfl; have hfz7_0 := blk_frozen BK155.out 0; have hfz7_1 := blk_frozen BK155.out 1))
      go_ret
      exact ⟨by first | rfl | (simp [errW_none, errW_some] <;> rfl) | (simp [*, errW_none, errW_some] <;> rfl), by repeat (first | (with_reducible first | exact HB.out | apply below_alloc | apply pw_below_drewN | apply below_drew1 | refine below_set ?_ GE155.out) | exact HB.out)⟩
    · rw [if_neg c5] at H
      have c5b0 : decide (2147483647 < (a0_1.size : Int)) = false := decide_eq_false c5
      have c5b1 : decide (2147483647 < a0_1.size) = false := decide_eq_false (by omega)
      clear c5
      obtain rfl := Option.some.inj H
      go_enter Tryd.func19, Tryd.ntmps19
      go_wp2_with (first | ((with_reducible refine gate_dst (N := 1) rfl ?_); refine box_event ?hg (N := 1) ?hd (cs := #[.string a0_0, .string a0_1]) (t := 51) ?hr ?_; (case hd => rfl); (case hg => rfl); (case hr => first | (go_simp; done) | (go_simp; rfl)); intro gb155 hg w8 hbox hb; have n0_ := Aside0.mk (below_step (by repeat (first | (with_reducible first | exact HB.out | apply below_alloc | apply pw_below_drewN | apply below_drew1) | exact HB.out)) hb); have n1_ := Aside0.mk (hbox); have n2_ := Aside0.mk ((by rw [hg]; exact (below_size (by repeat (first | (with_reducible first | exact HB.out | apply below_alloc | apply pw_below_drewN | apply below_drew1) | exact HB.out))) : w.heap.size ≤ gb155)); have n3_ := Aside0.mk ((by rw [hg]; exact (below_size (by repeat (first | (with_reducible first | exact HB.out | apply below_alloc | apply pw_below_drewN | apply below_drew1) | exact HB.out))) : w.heap.size ≤ gb155)); clear HB; have HB := n0_; have BK155 := n1_; have GW155 := n2_; have GE155 := n3_; clear n0_ n1_ n2_ n3_; clear hb hbox hg; have hcz9_0 : w8.cell? ⟨gb155, 0, none⟩ = some (.string a0_0) := (blk_cell BK155.out 0).trans rfl; have hcz9_1 : w8.cell? ⟨gb155, 1, none⟩ = some (.string a0_1) := (blk_cell BK155.out 1).trans rfl; have hfz9_0 := blk_frozen BK155.out 0; have hfz9_1 := blk_frozen BK155.out 1))
      go_ret
      exact ⟨by first | rfl | (simp [errW_none, errW_some] <;> rfl) | (simp [*, errW_none, errW_some] <;> rfl), by repeat (first | (with_reducible first | exact HB.out | apply below_alloc | apply pw_below_drewN | apply below_drew1 | refine below_set ?_ GE155.out) | exact HB.out)⟩

/-! ### laws_zzFits3: function 6 -/
def laws_zzFits3.l0 : Nat → List (S51) → Int → Int → Option (Bool)
  | 0, _, _, _ => none
  | k + 1, x8, x9, x10 => if x10 < x9 then (if 0 ≤ x10 then (if x10 < (x8.length : Int) then ((laws_zzFits4.f ((rd_T51 x8 x10).f0) ((rd_T51 x8 x10).f1)).bind fun t158 => (if t158 = true then (laws_zzFits3.l0 k x8 x9 (wrap64 (x10 + 1))) else (some false))) else (none)) else (none)) else (some true)
def laws_zzFits3.f (k : Nat) (l0 : List (S51)) : Option (Bool) := if (l0.length : Int) > 2147483647 then (some false) else (laws_zzFits3.l0 k l0 (l0.length : Int) 0)
set_option maxHeartbeats 8000000 in
set_option maxRecDepth 100000 in
theorem laws_zzFits3.calls (k : Nat) (A0 : Option Addr) (c0 : Nat) (l0 : List (S51)) (r : Bool) (w : World) (hr0 : Kd.C k51 w A0 l0.length l0) (hc0 : l0.length ≤ c0) (h : laws_zzFits3.f k l0 = some r) :
    Calls Tryd.prog 6 #[.slice A0 l0.length c0] w fun e w' => e = .returned (.bool r) ∧ Below w.heap.size w w' := by
  have hu51 := Tryd.underlying51
  have HR0 := Aside0.mk hr0
  have HC0 := Aside0.mk hc0
  clear hr0 hc0
  have HB := Aside0.mk (Below.refl w.heap.size w)
  have H : (if (l0.length : Int) > 2147483647 then (some false) else (laws_zzFits3.l0 k l0 (l0.length : Int) 0)) = some r := h
  clear h
  by_cases c2 : (l0.length : Int) > 2147483647
  · rw [if_pos c2] at H
    have c2b0 : decide (2147483647 < (l0.length : Int)) = true := decide_eq_true c2
    have c2b1 : decide (2147483647 < l0.length) = true := decide_eq_true (by omega)
    clear c2
    obtain rfl := Option.some.inj H
    go_enter Tryd.func6, Tryd.ntmps6
    go_wp2
    go_ret
    exact ⟨by first | rfl | (simp [errW_none, errW_some] <;> rfl) | (simp [*, errW_none, errW_some] <;> rfl), by repeat (first | (with_reducible first | exact HB.out | apply below_alloc | apply pw_below_drewN | apply below_drew1) | exact HB.out)⟩
  · rw [if_neg c2] at H
    have c2b0 : decide (2147483647 < (l0.length : Int)) = false := decide_eq_false c2
    have c2b1 : decide (2147483647 < l0.length) = false := decide_eq_false (by omega)
    clear c2
    have H' := Aside0.mk H
    clear H
    go_enter Tryd.func6, Tryd.ntmps6
    go_wp2
    go_loopg [10] k (fun kq v10 w' => ∃ (x10_1 : Int), v10 = .int .i64 x10_1 ∧ Aside0 (laws_zzFits3.l0 kq l0 (l0.length : Int) x10_1 = some r) ∧ Aside0 (kq ≤ k) ∧ Aside0 (Below w.heap.size w w'))
    case atStart => exact ⟨(0), (by first | rfl | (simp; done) | (simp [*]; done)), H', ⟨Nat.le_refl _⟩, ⟨by repeat (first | (with_reducible first | exact HB.out | apply below_alloc | apply pw_below_drewN | apply below_drew1) | exact HB.out)⟩⟩
    case round =>
      clear H'
      try clear c2
      try clear c2b0
      try clear c2b1
      try clear p2
      obtain ⟨x10_1, rfl, HA, HK1, HB⟩ := hrel
      cases gk with
      | zero => exact absurd HA.out (by simp [laws_zzFits3.l0])
      | succ k1 =>
        have H := HA.out
        clear HA
        simp only [laws_zzFits3.l0] at H
        by_cases c3 : x10_1 < (l0.length : Int)
        · rw [if_pos c3] at H
          have c3b0 : decide (x10_1 < (l0.length : Int)) = true := decide_eq_true c3
          clear c3
          by_cases c4 : 0 ≤ x10_1
          · rw [if_pos c4] at H
            have c4b0 : decide (0 ≤ x10_1) = true := decide_eq_true c4
            clear c4
            by_cases c5 : x10_1 < (l0.length : Int)
            · rw [if_pos c5] at H
              have c5b0 : decide (x10_1 < (l0.length : Int)) = true := decide_eq_true c5
              clear c5
              replace H := Option.bind_eq_some_iff.mp H
              obtain ⟨t158, A60, H⟩ := H
              replace H : (if t158 = true then (laws_zzFits3.l0 k1 l0 (l0.length : Int) (wrap64 (x10_1 + 1))) else (some false)) = some r := H
              have A6 := Aside0.mk A60
              clear A60
              by_cases c7 : t158 = true
              · subst c7
                have H1 : (laws_zzFits3.l0 k1 l0 (l0.length : Int) (wrap64 (x10_1 + 1))) = some r := by rw [if_pos rfl] at H; exact H
                clear H
                have H := H1
                clear H1
                have H' := Aside0.mk H
                clear H
                have p156 : 0 ≤ (x10_1 : Int) := of_decide_eq_true (by first | (with_reducible assumption) | assumption)
                have q156 : x10_1 < (l0.length : Int) := of_decide_eq_true (by first | (with_reducible assumption) | assumption)
                obtain ⟨ad156, e156, hx156_0, hx156_1⟩ := at_T51 HR0.out x10_1 p156 q156
                cases e156
                replace hx156_0 := (HB.out.cell (World.block_lt_of_cell? w _ hx156_0)).trans hx156_0
                replace hx156_1 := (HB.out.cell (World.block_lt_of_cell? w _ hx156_1)).trans hx156_1
                replace p156 := eq_true p156
                replace q156 := eq_true q156
                go_wp2_with (first | ((with_reducible refine gate_dst (N := 4) rfl ?_); refine box_event ?hg (N := 4) ?hd (cs := #[.string (⟨#[]⟩ : ByteArray), .string (⟨#[]⟩ : ByteArray)]) (t := 51) ?hr ?_; (case hd => rfl); (case hg => rfl); (case hr => first | (go_simp; done) | (go_simp; rfl)); intro gb157 hg w8 hbox hb; have n0_ := Aside0.mk (below_step (by repeat (first | (with_reducible first | exact HB.out | apply below_alloc | apply pw_below_drewN | apply below_drew1) | exact HB.out)) hb); have n1_ := Aside0.mk (hbox); have n2_ := Aside0.mk ((by rw [hg]; exact (below_size (by repeat (first | (with_reducible first | exact HB.out | apply below_alloc | apply pw_below_drewN | apply below_drew1) | exact HB.out))) : w.heap.size ≤ gb157)); have n3_ := Aside0.mk ((by rw [hg]; exact (below_size (by repeat (first | (with_reducible first | exact HB.out | apply below_alloc | apply pw_below_drewN | apply below_drew1) | exact HB.out))) : w.heap.size ≤ gb157)); clear HB; have HB := n0_; have BK157 := n1_; have GW157 := n2_; have GE157 := n3_; clear n0_ n1_ n2_ n3_; clear hb hbox hg; have hcz9_0 : w8.cell? ⟨gb157, 0, none⟩ = some (.string (⟨#[]⟩ : ByteArray)) := (blk_cell BK157.out 0).trans rfl; have hcz9_1 : w8.cell? ⟨gb157, 1, none⟩ = some (.string (⟨#[]⟩ : ByteArray)) := (blk_cell BK157.out 1).trans rfl; have hfz9_0 := blk_frozen BK157.out 0; have hfz9_1 := blk_frozen BK157.out 1) | ((with_reducible refine gate_callee (f := 19) rfl ?_); refine goesL_ (some 15) rfl rfl Tryd.func19 (by kernel_rfl) rfl #[.agg #[.string ((rd_T51 l0 x10_1).f0), .string ((rd_T51 l0 x10_1).f1)]] rfl (by (try simp only [List.map_toArray, List.map_cons, List.map_nil]); first | done | rfl | (simp only [List.length_drop, List.length_take]; rfl)) ?_; (with_reducible refine (laws_zzFits4.calls ((rd_T51 l0 x10_1).f0) ((rd_T51 l0 x10_1).f1) true _ A6.out).mono ?_); rintro e w10 ⟨rfl, hb⟩; refine ⟨_, rfl, ?_⟩; have n0_ := Aside0.mk (blk_below (g := gb157) (o := .cells #[.string ((rd_T51 l0 x10_1).f0), .string ((rd_T51 l0 x10_1).f1)] 51 (0, 0)) (by (with_reducible repeat (first | refine blk_drewN ?_ _ | refine blk_drew ?_ | refine blk_alloc ?_ _)); refine blk_put (cs := #[.string ((rd_T51 l0 x10_1).f0), .string (⟨#[]⟩ : ByteArray)]) ?_ 1 _ rfl; (with_reducible repeat (first | refine blk_drewN ?_ _ | refine blk_drew ?_ | refine blk_alloc ?_ _)); refine blk_put (cs := #[.string (⟨#[]⟩ : ByteArray), .string (⟨#[]⟩ : ByteArray)]) ?_ 0 _ rfl; (with_reducible repeat (first | refine blk_drewN ?_ _ | refine blk_drew ?_ | refine blk_alloc ?_ _)); exact BK157.out) hb); have n1_ := Aside0.mk (below_step (by repeat (first | (with_reducible first | exact HB.out | apply below_alloc | apply pw_below_drewN | apply below_drew1 | refine below_set ?_ GE157.out) | exact HB.out)) hb); clear BK157; clear HB; have BK157 := n0_; have HB := n1_; clear n0_ n1_; (try clear hb); (try clear hb2); (try clear hk); (try clear hi)))
                go_roundg k1
                case measure => have := HK1.out; omega
                case rel => exact ⟨(wrap64 (x10_1 + 1)), (by first | rfl | (simp; done) | (simp [*]; done)), H', ⟨by have := HK1.out; omega⟩, ⟨by repeat (first | (with_reducible first | exact HB.out | apply below_alloc | apply pw_below_drewN | apply below_drew1 | refine below_set ?_ GE157.out) | exact HB.out)⟩⟩
              · replace c7 := Bool.eq_false_iff.mpr c7
                subst c7
                have H1 : (some false) = some r := by rw [if_neg (show ¬ (false = true) by decide)] at H; exact H
                clear H
                have H := H1
                clear H1
                obtain rfl := Option.some.inj H
                have p156 : 0 ≤ (x10_1 : Int) := of_decide_eq_true (by first | (with_reducible assumption) | assumption)
                have q156 : x10_1 < (l0.length : Int) := of_decide_eq_true (by first | (with_reducible assumption) | assumption)
                obtain ⟨ad156, e156, hx156_0, hx156_1⟩ := at_T51 HR0.out x10_1 p156 q156
                cases e156
                replace hx156_0 := (HB.out.cell (World.block_lt_of_cell? w _ hx156_0)).trans hx156_0
                replace hx156_1 := (HB.out.cell (World.block_lt_of_cell? w _ hx156_1)).trans hx156_1
                replace p156 := eq_true p156
                replace q156 := eq_true q156
                go_wp2_with (first | ((with_reducible refine gate_dst (N := 4) rfl ?_); refine box_event ?hg (N := 4) ?hd (cs := #[.string (⟨#[]⟩ : ByteArray), .string (⟨#[]⟩ : ByteArray)]) (t := 51) ?hr ?_; (case hd => rfl); (case hg => rfl); (case hr => first | (go_simp; done) | (go_simp; rfl)); intro gb157 hg w11 hbox hb; have n0_ := Aside0.mk (below_step (by repeat (first | (with_reducible first | exact HB.out | apply below_alloc | apply pw_below_drewN | apply below_drew1) | exact HB.out)) hb); have n1_ := Aside0.mk (hbox); have n2_ := Aside0.mk ((by rw [hg]; exact (below_size (by repeat (first | (with_reducible first | exact HB.out | apply below_alloc | apply pw_below_drewN | apply below_drew1) | exact HB.out))) : w.heap.size ≤ gb157)); have n3_ := Aside0.mk ((by rw [hg]; exact (below_size (by repeat (first | (with_reducible first | exact HB.out | apply below_alloc | apply pw_below_drewN | apply below_drew1) | exact HB.out))) : w.heap.size ≤ gb157)); clear HB; have HB := n0_; have BK157 := n1_; have GW157 := n2_; have GE157 := n3_; clear n0_ n1_ n2_ n3_; clear hb hbox hg; have hcz12_0 : w11.cell? ⟨gb157, 0, none⟩ = some (.string (⟨#[]⟩ : ByteArray)) := (blk_cell BK157.out 0).trans rfl; have hcz12_1 : w11.cell? ⟨gb157, 1, none⟩ = some (.string (⟨#[]⟩ : ByteArray)) := (blk_cell BK157.out 1).trans rfl; have hfz12_0 := blk_frozen BK157.out 0; have hfz12_1 := blk_frozen BK157.out 1) | ((with_reducible refine gate_callee (f := 19) rfl ?_); refine goesL_ (some 15) rfl rfl Tryd.func19 (by kernel_rfl) rfl #[.agg #[.string ((rd_T51 l0 x10_1).f0), .string ((rd_T51 l0 x10_1).f1)]] rfl (by (try simp only [List.map_toArray, List.map_cons, List.map_nil]); first | done | rfl | (simp only [List.length_drop, List.length_take]; rfl)) ?_; (with_reducible refine (laws_zzFits4.calls ((rd_T51 l0 x10_1).f0) ((rd_T51 l0 x10_1).f1) false _ A6.out).mono ?_); rintro e w13 ⟨rfl, hb⟩; refine ⟨_, rfl, ?_⟩; have n0_ := Aside0.mk (blk_below (g := gb157) (o := .cells #[.string ((rd_T51 l0 x10_1).f0), .string ((rd_T51 l0 x10_1).f1)] 51 (0, 0)) (by (with_reducible repeat (first | refine blk_drewN ?_ _ | refine blk_drew ?_ | refine blk_alloc ?_ _)); refine blk_put (cs := #[.string ((rd_T51 l0 x10_1).f0), .string (⟨#[]⟩ : ByteArray)]) ?_ 1 _ rfl; (with_reducible repeat (first | refine blk_drewN ?_ _ | refine blk_drew ?_ | refine blk_alloc ?_ _)); refine blk_put (cs := #[.string (⟨#[]⟩ : ByteArray), .string (⟨#[]⟩ : ByteArray)]) ?_ 0 _ rfl; (with_reducible repeat (first | refine blk_drewN ?_ _ | refine blk_drew ?_ | refine blk_alloc ?_ _)); exact BK157.out) hb); have n1_ := Aside0.mk (below_step (by repeat (first | (with_reducible first | exact HB.out | apply below_alloc | apply pw_below_drewN | apply below_drew1 | refine below_set ?_ GE157.out) | exact HB.out)) hb); clear BK157; clear HB; have BK157 := n0_; have HB := n1_; clear n0_ n1_; (try clear hb); (try clear hb2); (try clear hk); (try clear hi)))
                go_ret
                exact ⟨by first | rfl | (simp [errW_none, errW_some] <;> rfl) | (simp [*, errW_none, errW_some] <;> rfl), by repeat (first | (with_reducible first | exact HB.out | apply below_alloc | apply pw_below_drewN | apply below_drew1 | refine below_set ?_ GE157.out) | exact HB.out)⟩
            · rw [if_neg c5] at H
              exact absurd H (by simp)
          · rw [if_neg c4] at H
            exact absurd H (by simp)
        · rw [if_neg c3] at H
          have c3b0 : decide (x10_1 < (l0.length : Int)) = false := decide_eq_false c3
          clear c3
          obtain rfl := Option.some.inj H
          go_wp2
          go_ret
          exact ⟨by first | rfl | (simp [errW_none, errW_some] <;> rfl) | (simp [*, errW_none, errW_some] <;> rfl), by repeat (first | (with_reducible first | exact HB.out | apply below_alloc | apply pw_below_drewN | apply below_drew1) | exact HB.out)⟩

/-! ### spec_T: function 22 -/
/-! ### spec_Empty: function 23 -/
/-! ### spec_mapsCut: function 25 -/
/-! ### spec_Look: function 26 -/
def spec_Look.l0 : Nat → List (S51) → ByteArray → Int → Option (ByteArray × Bool)
  | 0, _, _, _ => none
  | k + 1, x0, x1, x6 => if x6 ≥ 0 then (if 0 ≤ x6 then (if x6 < (x0.length : Int) then (if ((rd_T51 x0 x6).f0).toList = x1.toList then (some ((rd_T51 x0 x6).f1, true)) else (spec_Look.l0 k x0 x1 (wrap64 (x6 - 1)))) else (none)) else (none)) else (some ((⟨#[]⟩ : ByteArray), false))
def spec_Look.f (k : Nat) (l0 : List (S51)) (a1 : ByteArray) : Option (ByteArray × Bool) := spec_Look.l0 k l0 a1 (wrap64 ((l0.length : Int) - 1))
set_option maxHeartbeats 8000000 in
set_option maxRecDepth 100000 in
theorem spec_Look.calls (k : Nat) (A0 : Option Addr) (c0 : Nat) (l0 : List (S51)) (a1 : ByteArray) (r1 : ByteArray) (r2 : Bool) (w : World) (hr0 : Kd.C k51 w A0 l0.length l0) (hc0 : l0.length ≤ c0) (h : spec_Look.f k l0 a1 = some (r1, r2)) :
    Calls Tryd.prog 26 #[.slice A0 l0.length c0, .string a1] w fun e w' => e = .returned (.tuple #[.string r1, .bool r2]) ∧ Drawn0 w w' := by
  have HR0 := Aside0.mk hr0
  have HC0 := Aside0.mk hc0
  clear hr0 hc0
  have H : (spec_Look.l0 k l0 a1 (wrap64 ((l0.length : Int) - 1))) = some (r1, r2) := h
  clear h
  have H' := Aside0.mk H
  clear H
  go_enter Tryd.func26, Tryd.ntmps26
  go_wp2
  go_loopg [6] k (fun kq v6 w' => ∃ (x6_1 : Int), v6 = .int .i64 x6_1 ∧ Aside0 (spec_Look.l0 kq l0 a1 x6_1 = some (r1, r2)) ∧ Aside0 (kq ≤ k) ∧ Drawn0 w w')
  case atStart => exact ⟨(wrap64 ((l0.length : Int) - 1)), (by first | rfl | (simp; done) | (simp [*]; done)), H', ⟨Nat.le_refl _⟩, by repeat (first | exact Drawn0.refl _ | apply Drawn0.step)⟩
  case round =>
    clear H'
    try clear c2
    try clear p2
    obtain ⟨x6_1, rfl, HA, HK1, ⟨m1, rfl⟩⟩ := hrel
    cases gk with
    | zero => exact absurd HA.out (by simp [spec_Look.l0])
    | succ k1 =>
      have H := HA.out
      clear HA
      simp only [spec_Look.l0] at H
      by_cases c3 : x6_1 ≥ 0
      · rw [if_pos c3] at H
        have c3b0 : decide (0 ≤ x6_1) = true := decide_eq_true c3
        clear c3
        by_cases c4 : 0 ≤ x6_1
        · rw [if_pos c4] at H
          have c4b0 : decide (0 ≤ x6_1) = true := decide_eq_true c4
          clear c4
          by_cases c5 : x6_1 < (l0.length : Int)
          · rw [if_pos c5] at H
            have c5b0 : decide (x6_1 < (l0.length : Int)) = true := decide_eq_true c5
            clear c5
            by_cases c6 : ((rd_T51 l0 x6_1).f0).toList = a1.toList
            · rw [if_pos c6] at H
              have c6b0 : (((rd_T51 l0 x6_1).f0).toList == a1.toList) = true := beq_iff_eq.mpr c6
              have c6b1 : (((rd_T51 l0 x6_1).f0).toList != a1.toList) = false := bne_eq_false_iff_eq.mpr c6
              clear c6
              simp only [Option.some.injEq, Prod.mk.injEq] at H
              obtain ⟨rfl, rfl⟩ := H
              have p161 : 0 ≤ (x6_1 : Int) := of_decide_eq_true (by first | (with_reducible assumption) | assumption)
              have q161 : x6_1 < (l0.length : Int) := of_decide_eq_true (by first | (with_reducible assumption) | assumption)
              obtain ⟨ad161, e161, hx161_0, hx161_1⟩ := at_T51 HR0.out x6_1 p161 q161
              cases e161
              replace p161 := eq_true p161
              replace q161 := eq_true q161
              have p162 : 0 ≤ (x6_1 : Int) := of_decide_eq_true (by first | (with_reducible assumption) | assumption)
              have q162 : x6_1 < (l0.length : Int) := of_decide_eq_true (by first | (with_reducible assumption) | assumption)
              obtain ⟨ad162, e162, hx162_0, hx162_1⟩ := at_T51 HR0.out x6_1 p162 q162
              obtain rfl : ad161 = ad162 := (by injection e162)
              replace p162 := eq_true p162
              replace q162 := eq_true q162
              go_wp2
              go_ret2
              exact ⟨by first | rfl | (simp; done) | (simp [*]; done), by repeat (first | exact Drawn0.refl _ | apply Drawn0.step)⟩
            · rw [if_neg c6] at H
              have c6b0 : (((rd_T51 l0 x6_1).f0).toList == a1.toList) = false := beq_eq_false_iff_ne.mpr c6
              have c6b1 : (((rd_T51 l0 x6_1).f0).toList != a1.toList) = true := bne_iff_ne.mpr c6
              have H' := Aside0.mk H
              clear H
              have p161 : 0 ≤ (x6_1 : Int) := of_decide_eq_true (by first | (with_reducible assumption) | assumption)
              have q161 : x6_1 < (l0.length : Int) := of_decide_eq_true (by first | (with_reducible assumption) | assumption)
              obtain ⟨ad161, e161, hx161_0, hx161_1⟩ := at_T51 HR0.out x6_1 p161 q161
              cases e161
              replace p161 := eq_true p161
              replace q161 := eq_true q161
              go_wp2
              go_roundg k1
              case measure => have := HK1.out; omega
              case rel => exact ⟨(wrap64 (x6_1 - 1)), (by first | rfl | (simp; done) | (simp [*]; done)), H', ⟨by have := HK1.out; omega⟩, by repeat (first | exact Drawn0.refl _ | apply Drawn0.step)⟩
          · rw [if_neg c5] at H
            exact absurd H (by simp)
        · rw [if_neg c4] at H
          exact absurd H (by simp)
      · rw [if_neg c3] at H
        have c3b0 : decide (0 ≤ x6_1) = false := decide_eq_false c3
        clear c3
        simp only [Option.some.injEq, Prod.mk.injEq] at H
        obtain ⟨rfl, rfl⟩ := H
        go_wp2
        go_ret2
        exact ⟨by first | rfl | (simp; done) | (simp [*]; done), by repeat (first | exact Drawn0.refl _ | apply Drawn0.step)⟩

/-! ### spec_normTexts: function 27 -/
def spec_normTexts.l0 : Nat → Int → Int → Int → ByteArray → List ByteArray → List (S25) → Option (Bool)
  | 0, _, _, _, _, _, _ => none
  | k + 1, x3, x164000, x164001, x164002, x164003, x164004 => if x3 < (x164004.length : Int) then (if 0 ≤ x3 then (if ((rd_T25 x164004 x3).f0) = 3 then (spec_normTexts.l0 k (wrap64 (x3 + 1)) x164000 x164001 x164002 x164003 x164004) else (some false)) else (none)) else (some (x164000 == 4))
def spec_normTexts.f (k : Nat) (a0_0 : Int) (a0_1 : Int) (a0_2 : ByteArray) (l0_3 : List ByteArray) (l0_4 : List (S25)) : Option (Bool) := spec_normTexts.l0 k 0 a0_0 a0_1 a0_2 l0_3 l0_4
set_option maxHeartbeats 8000000 in
set_option maxRecDepth 100000 in
theorem spec_normTexts.calls (k : Nat) (a0_0 : Int) (a0_1 : Int) (a0_2 : ByteArray) (A0_3 : Option Addr) (c0_3 : Nat) (l0_3 : List ByteArray) (A0_4 : Option Addr) (c0_4 : Nat) (l0_4 : List (S25)) (r : Bool) (w : World) (hr0_3 : Kd.C Kd.string w A0_3 l0_3.length l0_3) (hc0_3 : l0_3.length ≤ c0_3) (hr0_4 : Kd.C k25 w A0_4 l0_4.length l0_4) (hc0_4 : l0_4.length ≤ c0_4) (h : spec_normTexts.f k a0_0 a0_1 a0_2 l0_3 l0_4 = some r) :
    Calls Tryd.prog 27 #[.agg #[.int .i64 a0_0, .int .i64 a0_1, .string a0_2, .slice A0_3 l0_3.length c0_3, .slice A0_4 l0_4.length c0_4]] w fun e w' => e = .returned (.bool r) ∧ Below w.heap.size w w' := by
  have hu25 := Tryd.underlying25
  have HR0_3 := Aside0.mk hr0_3
  have HC0_3 := Aside0.mk hc0_3
  clear hr0_3 hc0_3
  have HR0_4 := Aside0.mk hr0_4
  have HC0_4 := Aside0.mk hc0_4
  clear hr0_4 hc0_4
  have HB := Aside0.mk (Below.refl w.heap.size w)
  have H : (spec_normTexts.l0 k 0 a0_0 a0_1 a0_2 l0_3 l0_4) = some r := h
  clear h
  have H' := Aside0.mk H
  clear H
  go_enter Tryd.func27, Tryd.ntmps27
  go_wp2_with (first | ((with_reducible refine gate_dst (N := 1) rfl ?_); refine box_event ?hg (N := 1) ?hd (cs := #[.int .i64 a0_0, .int .i64 a0_1, .string a0_2, .slice A0_3 l0_3.length c0_3, .slice A0_4 l0_4.length c0_4]) (t := 25) ?hr ?_; (case hd => rfl); (case hg => rfl); (case hr => first | (go_simp; done) | (go_simp; rfl)); intro gb163 hg w2 hbox hb; have n0_ := Aside0.mk (below_step (by repeat (first | (with_reducible first | exact HB.out | apply below_alloc | apply pw_below_drewN | apply below_drew1) | exact HB.out)) hb); have n1_ := Aside0.mk (hbox); have n2_ := Aside0.mk ((by rw [hg]; exact (below_size (by repeat (first | (with_reducible first | exact HB.out | apply below_alloc | apply pw_below_drewN | apply below_drew1) | exact HB.out))) : w.heap.size ≤ gb163)); have n3_ := Aside0.mk ((by rw [hg]; exact (below_size (by repeat (first | (with_reducible first | exact HB.out | apply below_alloc | apply pw_below_drewN | apply below_drew1) | exact HB.out))) : w.heap.size ≤ gb163)); clear HB; have HB := n0_; have BK163 := n1_; have GW163 := n2_; have GE163 := n3_; clear n0_ n1_ n2_ n3_; clear hb hbox hg))
  go_loopg [3] k (fun kq v3 w' => ∃ (x3_1 : Int), v3 = .int .i64 x3_1 ∧ Aside0 (spec_normTexts.l0 kq x3_1 a0_0 a0_1 a0_2 l0_3 l0_4 = some r) ∧ Aside0 (kq ≤ k) ∧ Aside0 (w'.heap[gb163]? = some (.cells #[.int .i64 a0_0, .int .i64 a0_1, .string a0_2, (.slice A0_3 l0_3.length c0_3), (.slice A0_4 l0_4.length c0_4)] 25 (0, 0))) ∧ Aside0 (Below w.heap.size w w'))
  case atStart => exact ⟨(0), (by first | rfl | (simp; done) | (simp [*]; done)), H', ⟨Nat.le_refl _⟩, ⟨by (with_reducible repeat (first | refine blk_drewN ?_ _ | refine blk_drew ?_ | refine blk_alloc ?_ _)); exact BK163.out⟩, ⟨by repeat (first | (with_reducible first | exact HB.out | apply below_alloc | apply pw_below_drewN | apply below_drew1 | refine below_set ?_ GE163.out) | exact HB.out)⟩⟩
  case round =>
    clear H'
    try clear c2
    try clear p2
    obtain ⟨x3_1, rfl, HA, HK1, BK163, HB⟩ := hrel
    cases gk with
    | zero => exact absurd HA.out (by simp [spec_normTexts.l0])
    | succ k1 =>
      have H := HA.out
      clear HA
      simp only [spec_normTexts.l0] at H
      by_cases c3 : x3_1 < (l0_4.length : Int)
      · rw [if_pos c3] at H
        have c3b0 : decide (x3_1 < (l0_4.length : Int)) = true := decide_eq_true c3
        clear c3
        by_cases c4 : 0 ≤ x3_1
        · rw [if_pos c4] at H
          have c4b0 : decide (0 ≤ x3_1) = true := decide_eq_true c4
          clear c4
          by_cases c5 : ((rd_T25 l0_4 x3_1).f0) = 3
          · rw [if_pos c5] at H
            have c5b0 : (((rd_T25 l0_4 x3_1).f0) == 3) = true := beq_iff_eq.mpr c5
            have c5b1 : (((rd_T25 l0_4 x3_1).f0) != 3) = false := bne_eq_false_iff_eq.mpr c5
            clear c5
            have H' := Aside0.mk H
            clear H
            have hcz6_0 : wr.cell? ⟨gb163, 0, none⟩ = some (.int .i64 a0_0) := (blk_cell BK163.out 0).trans rfl
            have hcz6_1 : wr.cell? ⟨gb163, 1, none⟩ = some (.int .i64 a0_1) := (blk_cell BK163.out 1).trans rfl
            have hcz6_2 : wr.cell? ⟨gb163, 2, none⟩ = some (.string a0_2) := (blk_cell BK163.out 2).trans rfl
            have hcz6_3 : wr.cell? ⟨gb163, 3, none⟩ = some (.slice A0_3 l0_3.length c0_3) := (blk_cell BK163.out 3).trans rfl
            have hcz6_4 : wr.cell? ⟨gb163, 4, none⟩ = some (.slice A0_4 l0_4.length c0_4) := (blk_cell BK163.out 4).trans rfl
            have hfz6_0 := blk_frozen BK163.out 0
            have hfz6_1 := blk_frozen BK163.out 1
            have hfz6_2 := blk_frozen BK163.out 2
            have hfz6_3 := blk_frozen BK163.out 3
            have hfz6_4 := blk_frozen BK163.out 4
            have p164 : 0 ≤ (x3_1 : Int) := of_decide_eq_true (by first | (with_reducible assumption) | assumption)
            have q164 : x3_1 < (l0_4.length : Int) := of_decide_eq_true (by first | (with_reducible assumption) | assumption)
            obtain ⟨ad164, A164_3, c164_3, A164_4, c164_4, e164, hx164_0, hx164_1, hx164_2, hx164_3, hx164_4, hl164_3, hi164_3, hl164_4, hi164_4⟩ := at_T25 HR0_4.out x3_1 p164 q164
            cases e164
            replace hx164_0 := (HB.out.cell (World.block_lt_of_cell? w _ hx164_0)).trans hx164_0
            replace hx164_1 := (HB.out.cell (World.block_lt_of_cell? w _ hx164_1)).trans hx164_1
            replace hx164_2 := (HB.out.cell (World.block_lt_of_cell? w _ hx164_2)).trans hx164_2
            replace hx164_3 := (HB.out.cell (World.block_lt_of_cell? w _ hx164_3)).trans hx164_3
            replace hx164_4 := (HB.out.cell (World.block_lt_of_cell? w _ hx164_4)).trans hx164_4
            have HR164_3 := Aside0.mk hi164_3
            have HC164_3 := Aside0.mk hl164_3
            clear hi164_3 hl164_3
            have HR164_4 := Aside0.mk hi164_4
            have HC164_4 := Aside0.mk hl164_4
            clear hi164_4 hl164_4
            replace p164 := eq_true p164
            replace q164 := eq_true q164
            go_wp2
            go_roundg k1
            case measure => have := HK1.out; omega
            case rel => exact ⟨(wrap64 (x3_1 + 1)), (by first | rfl | (simp; done) | (simp [*]; done)), H', ⟨by have := HK1.out; omega⟩, ⟨by (with_reducible repeat (first | refine blk_drewN ?_ _ | refine blk_drew ?_ | refine blk_alloc ?_ _)); exact BK163.out⟩, ⟨by repeat (first | (with_reducible first | exact HB.out | apply below_alloc | apply pw_below_drewN | apply below_drew1 | refine below_set ?_ GE163.out) | exact HB.out)⟩⟩
          · rw [if_neg c5] at H
            have c5b0 : (((rd_T25 l0_4 x3_1).f0) == 3) = false := beq_eq_false_iff_ne.mpr c5
            have c5b1 : (((rd_T25 l0_4 x3_1).f0) != 3) = true := bne_iff_ne.mpr c5
            obtain rfl := Option.some.inj H
            have hcz7_0 : wr.cell? ⟨gb163, 0, none⟩ = some (.int .i64 a0_0) := (blk_cell BK163.out 0).trans rfl
            have hcz7_1 : wr.cell? ⟨gb163, 1, none⟩ = some (.int .i64 a0_1) := (blk_cell BK163.out 1).trans rfl
            have hcz7_2 : wr.cell? ⟨gb163, 2, none⟩ = some (.string a0_2) := (blk_cell BK163.out 2).trans rfl
            have hcz7_3 : wr.cell? ⟨gb163, 3, none⟩ = some (.slice A0_3 l0_3.length c0_3) := (blk_cell BK163.out 3).trans rfl
            have hcz7_4 : wr.cell? ⟨gb163, 4, none⟩ = some (.slice A0_4 l0_4.length c0_4) := (blk_cell BK163.out 4).trans rfl
            have hfz7_0 := blk_frozen BK163.out 0
            have hfz7_1 := blk_frozen BK163.out 1
            have hfz7_2 := blk_frozen BK163.out 2
            have hfz7_3 := blk_frozen BK163.out 3
            have hfz7_4 := blk_frozen BK163.out 4
            have p164 : 0 ≤ (x3_1 : Int) := of_decide_eq_true (by first | (with_reducible assumption) | assumption)
            have q164 : x3_1 < (l0_4.length : Int) := of_decide_eq_true (by first | (with_reducible assumption) | assumption)
            obtain ⟨ad164, A164_3, c164_3, A164_4, c164_4, e164, hx164_0, hx164_1, hx164_2, hx164_3, hx164_4, hl164_3, hi164_3, hl164_4, hi164_4⟩ := at_T25 HR0_4.out x3_1 p164 q164
            cases e164
            replace hx164_0 := (HB.out.cell (World.block_lt_of_cell? w _ hx164_0)).trans hx164_0
            replace hx164_1 := (HB.out.cell (World.block_lt_of_cell? w _ hx164_1)).trans hx164_1
            replace hx164_2 := (HB.out.cell (World.block_lt_of_cell? w _ hx164_2)).trans hx164_2
            replace hx164_3 := (HB.out.cell (World.block_lt_of_cell? w _ hx164_3)).trans hx164_3
            replace hx164_4 := (HB.out.cell (World.block_lt_of_cell? w _ hx164_4)).trans hx164_4
            have HR164_3 := Aside0.mk hi164_3
            have HC164_3 := Aside0.mk hl164_3
            clear hi164_3 hl164_3
            have HR164_4 := Aside0.mk hi164_4
            have HC164_4 := Aside0.mk hl164_4
            clear hi164_4 hl164_4
            replace p164 := eq_true p164
            replace q164 := eq_true q164
            go_wp2
            go_ret
            exact ⟨by first | rfl | (simp [errW_none, errW_some] <;> rfl) | (simp [*, errW_none, errW_some] <;> rfl), by repeat (first | (with_reducible first | exact HB.out | apply below_alloc | apply pw_below_drewN | apply below_drew1 | refine below_set ?_ GE163.out) | exact HB.out)⟩
        · rw [if_neg c4] at H
          exact absurd H (by simp)
      · rw [if_neg c3] at H
        have c3b0 : decide (x3_1 < (l0_4.length : Int)) = false := decide_eq_false c3
        clear c3
        obtain rfl := Option.some.inj H
        have hcz8_0 : wr.cell? ⟨gb163, 0, none⟩ = some (.int .i64 a0_0) := (blk_cell BK163.out 0).trans rfl
        have hcz8_1 : wr.cell? ⟨gb163, 1, none⟩ = some (.int .i64 a0_1) := (blk_cell BK163.out 1).trans rfl
        have hcz8_2 : wr.cell? ⟨gb163, 2, none⟩ = some (.string a0_2) := (blk_cell BK163.out 2).trans rfl
        have hcz8_3 : wr.cell? ⟨gb163, 3, none⟩ = some (.slice A0_3 l0_3.length c0_3) := (blk_cell BK163.out 3).trans rfl
        have hcz8_4 : wr.cell? ⟨gb163, 4, none⟩ = some (.slice A0_4 l0_4.length c0_4) := (blk_cell BK163.out 4).trans rfl
        have hfz8_0 := blk_frozen BK163.out 0
        have hfz8_1 := blk_frozen BK163.out 1
        have hfz8_2 := blk_frozen BK163.out 2
        have hfz8_3 := blk_frozen BK163.out 3
        have hfz8_4 := blk_frozen BK163.out 4
        go_wp2
        go_ret
        exact ⟨by first | rfl | (simp [errW_none, errW_some] <;> rfl) | (simp [*, errW_none, errW_some] <;> rfl), by repeat (first | (with_reducible first | exact HB.out | apply below_alloc | apply pw_below_drewN | apply below_drew1 | refine below_set ?_ GE163.out) | exact HB.out)⟩

end Go.Proofs.YtgeamhmenmomhaaDoor.PT
