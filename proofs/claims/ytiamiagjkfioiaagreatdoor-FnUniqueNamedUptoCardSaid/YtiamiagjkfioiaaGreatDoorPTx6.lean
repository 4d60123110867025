-- Written by a program over the translation (xprint.py). Lean checks it.
import Derived.Test.YtiamiagjkfioiaaGreatDoorPTx0
import Derived.Test.YtiamiagjkfioiaaGreatDoorPTx4
import Derived.Test.YtiamiagjkfioiaaGreatDoorPTx5
namespace Go.Proofs.YtiamiagjkfioiaaGreatDoor.PT
open Go.RowKit Go.Proofs.YtiamiagjkfioiaaGreatDoorW.PrintWords Go.Proofs.YtiamiagjkfioiaaGreatDoorW.PrintLast Go.Proofs.YtiamiagjkfioiaaGreatDoorW.PrintMore
attribute [local go_sem] max2_int min2_int max_two min_two max_three min_three max_four min_four   -- for this text's walks alone
set_option linter.unusedVariables false
set_option linter.unusedSimpArgs false

/-! ### spec_sayPairs: function 60 -/
mutual
def spec_sayPairs.l0 : Nat → Int → Int → Int → ByteArray → List ByteArray → List (S26) → Option (Bool)
  | 0, _, _, _, _, _, _ => none
  | k + 1, x3, x173000, x173001, x173002, x173003, x173004 => if x3 < (x173004.length : Int) then (if 0 ≤ x3 then (if x173000 = 5 then (if x3 < (x173003.length : Int) then ((spec_sayName.f k (rdOf ByteArray.empty x173003 x3)).bind fun t176 => (if t176 = true then (if ((rd_T26 x173004 x3).f0) = 3 then (spec_sayPairs.j1 k x3 false x173000 x173001 x173002 x173003 x173004 ((rd_T26 x173004 x3).f0) ((rd_T26 x173004 x3).f1) ((rd_T26 x173004 x3).f2) ((rd_T26 x173004 x3).f3) ((rd_T26 x173004 x3).f4)) else (if ((rd_T26 x173004 x3).f0) = 2 then (spec_sayPairs.j1 k x3 false x173000 x173001 x173002 x173003 x173004 ((rd_T26 x173004 x3).f0) ((rd_T26 x173004 x3).f1) ((rd_T26 x173004 x3).f2) ((rd_T26 x173004 x3).f3) ((rd_T26 x173004 x3).f4)) else (spec_sayPairs.j1 k x3 (((rd_T26 x173004 x3).f0) != 1) x173000 x173001 x173002 x173003 x173004 ((rd_T26 x173004 x3).f0) ((rd_T26 x173004 x3).f1) ((rd_T26 x173004 x3).f2) ((rd_T26 x173004 x3).f3) ((rd_T26 x173004 x3).f4)))) else (spec_sayPairs.j1 k x3 true x173000 x173001 x173002 x173003 x173004 ((rd_T26 x173004 x3).f0) ((rd_T26 x173004 x3).f1) ((rd_T26 x173004 x3).f2) ((rd_T26 x173004 x3).f3) ((rd_T26 x173004 x3).f4)))) else (none)) else (spec_sayPairs.j1 k x3 false x173000 x173001 x173002 x173003 x173004 ((rd_T26 x173004 x3).f0) ((rd_T26 x173004 x3).f1) ((rd_T26 x173004 x3).f2) ((rd_T26 x173004 x3).f3) ((rd_T26 x173004 x3).f4))) else (none)) else (if x173000 = 5 then (some (decide ((x173004.length : Int) > 0))) else (if x173000 = 4 then (some (decide ((x173004.length : Int) > 0))) else (some false)))
def spec_sayPairs.j1 : Nat → Int → Bool → Int → Int → ByteArray → List ByteArray → List (S26) → Int → Int → ByteArray → List ByteArray → List (S26) → Option (Bool)
  | 0, _, _, _, _, _, _, _, _, _, _, _, _ => none
  | k + 1, x3, x45, x173000, x173001, x173002, x173003, x173004, x175000, x175001, x175002, x175003, x175004 => if x45 = true then (some false) else (if x173000 = 4 then ((spec_mergeSplit.f k x175002).bind fun bt177 => (if x175000 = 3 then ((spec_sayName.f k bt177.1).bind fun t188 => (if t188 = true then (spec_sayPairs.l0 k (wrap64 (x3 + 1)) x173000 x173001 x173002 x173003 x173004) else (some false))) else (some false))) else (spec_sayPairs.l0 k (wrap64 (x3 + 1)) x173000 x173001 x173002 x173003 x173004))
end
def spec_sayPairs.f (k : Nat) (a0_0 : Int) (a0_1 : Int) (a0_2 : ByteArray) (l0_3 : List ByteArray) (l0_4 : List (S26)) : Option (Bool) := spec_sayPairs.l0 k 0 a0_0 a0_1 a0_2 l0_3 l0_4
theorem spec_sayPairs.mono_l : ∀ k, (∀ y0 y1 y2 y3 y4 y5, LeO (spec_sayPairs.l0 k y0 y1 y2 y3 y4 y5) (spec_sayPairs.l0 (k + 1) y0 y1 y2 y3 y4 y5)) ∧ (∀ y0 y1 y2 y3 y4 y5 y6 y7 y8 y9 y10 y11, LeO (spec_sayPairs.j1 k y0 y1 y2 y3 y4 y5 y6 y7 y8 y9 y10 y11) (spec_sayPairs.j1 (k + 1) y0 y1 y2 y3 y4 y5 y6 y7 y8 y9 y10 y11))
  | 0 => ⟨fun _ _ _ _ _ _ r h => by simp [spec_sayPairs.l0] at h, fun _ _ _ _ _ _ _ _ _ _ _ _ r h => by simp [spec_sayPairs.j1] at h⟩
  | k + 1 => by
    obtain ⟨ih0, ih1⟩ := spec_sayPairs.mono_l k
    refine ⟨?_, ?_⟩
    · intro y0 y1 y2 y3 y4 y5
      unfold spec_sayPairs.l0
      repeat' first
      | (with_reducible exact ih0 _ _ _ _ _ _)
      | (with_reducible exact ih1 _ _ _ _ _ _ _ _ _ _ _ _)
      | (with_reducible exact spec_mergeSplit.mono _ _)
      | (with_reducible exact spec_sayName.mono _ _)
      | (with_reducible exact LeO.refl _)
      | (with_reducible exact LeO.none _)
      | (with_reducible refine LeO.ite ?_ ?_)
      | (with_reducible refine LeO.bind ?_ (fun _ => ?_))
      | exact ih0 _ _ _ _ _ _
      | exact ih1 _ _ _ _ _ _ _ _ _ _ _ _
      | exact spec_mergeSplit.mono _ _
      | exact spec_sayName.mono _ _
      | exact LeO.none _
      | refine LeO.ite ?_ ?_
      | refine LeO.bind ?_ (fun _ => ?_)
    · intro y0 y1 y2 y3 y4 y5 y6 y7 y8 y9 y10 y11
      unfold spec_sayPairs.j1
      repeat' first
      | (with_reducible exact ih0 _ _ _ _ _ _)
      | (with_reducible exact ih1 _ _ _ _ _ _ _ _ _ _ _ _)
      | (with_reducible exact spec_mergeSplit.mono _ _)
      | (with_reducible exact spec_sayName.mono _ _)
      | (with_reducible exact LeO.refl _)
      | (with_reducible exact LeO.none _)
      | (with_reducible refine LeO.ite ?_ ?_)
      | (with_reducible refine LeO.bind ?_ (fun _ => ?_))
      | exact ih0 _ _ _ _ _ _
      | exact ih1 _ _ _ _ _ _ _ _ _ _ _ _
      | exact spec_mergeSplit.mono _ _
      | exact spec_sayName.mono _ _
      | exact LeO.none _
      | refine LeO.ite ?_ ?_
      | refine LeO.bind ?_ (fun _ => ?_)
theorem spec_sayPairs.mono : ∀ a0 a1 a2 a3 a4 k, LeO (spec_sayPairs.f k a0 a1 a2 a3 a4) (spec_sayPairs.f (k + 1) a0 a1 a2 a3 a4) := by
  intro a0 a1 a2 a3 a4 k
  obtain ⟨ih0, ih1⟩ := spec_sayPairs.mono_l k
  unfold spec_sayPairs.f
  repeat' first
      | (with_reducible exact ih0 _ _ _ _ _ _)
      | (with_reducible exact ih1 _ _ _ _ _ _ _ _ _ _ _ _)
      | (with_reducible exact spec_mergeSplit.mono _ _)
      | (with_reducible exact spec_sayName.mono _ _)
      | (with_reducible exact LeO.refl _)
      | (with_reducible exact LeO.none _)
      | (with_reducible refine LeO.ite ?_ ?_)
      | (with_reducible refine LeO.bind ?_ (fun _ => ?_))
      | exact ih0 _ _ _ _ _ _
      | exact ih1 _ _ _ _ _ _ _ _ _ _ _ _
      | exact spec_mergeSplit.mono _ _
      | exact spec_sayName.mono _ _
      | exact LeO.none _
      | refine LeO.ite ?_ ?_
      | refine LeO.bind ?_ (fun _ => ?_)
set_option maxHeartbeats 8000000 in
set_option maxRecDepth 100000 in
theorem spec_sayPairs.calls (k : Nat) (a0_0 : Int) (a0_1 : Int) (a0_2 : ByteArray) (A0_3 : Option Addr) (c0_3 : Nat) (l0_3 : List ByteArray) (A0_4 : Option Addr) (c0_4 : Nat) (l0_4 : List (S26)) (r : Bool) (w : World) (hr0_3 : Kd.C Kd.string w A0_3 l0_3.length l0_3) (hc0_3 : l0_3.length ≤ c0_3) (hr0_4 : Kd.C k26 w A0_4 l0_4.length l0_4) (hc0_4 : l0_4.length ≤ c0_4) (h : spec_sayPairs.f k a0_0 a0_1 a0_2 l0_3 l0_4 = some r) :
    Calls Tryz.prog 60 #[.agg #[.int .i64 a0_0, .int .i64 a0_1, .string a0_2, .slice A0_3 l0_3.length c0_3, .slice A0_4 l0_4.length c0_4]] w fun e w' => e = .returned (.bool r) ∧ Below w.heap.size w w' := by
  have hu26 := Tryz.underlying26
  have HR0_3 := Aside0.mk hr0_3
  have HC0_3 := Aside0.mk hc0_3
  clear hr0_3 hc0_3
  have HR0_4 := Aside0.mk hr0_4
  have HC0_4 := Aside0.mk hc0_4
  clear hr0_4 hc0_4
  have HB := Aside0.mk (Below.refl w.heap.size w)
  have H : (spec_sayPairs.l0 k 0 a0_0 a0_1 a0_2 l0_3 l0_4) = some r := h
  clear h
  have H' := Aside0.mk H
  clear H
  go_enter Tryz.func60, Tryz.ntmps60
  go_wp2_with (first | ((with_reducible refine gate_dst (N := 1) rfl ?_); (try (refine gate_guard (by rfl) ?_; dsimp only)); refine box_event ?hg (N := 1) ?hd (cs := #[.int .i64 a0_0, .int .i64 a0_1, .string a0_2, .slice A0_3 l0_3.length c0_3, .slice A0_4 l0_4.length c0_4]) (t := 26) ?hr ?_; (case hd => rfl); (case hg => rfl); (case hr => first | (go_simp; done) | (go_simp; rfl)); intro gb172 hg w2 hbox hb; have n0_ := Aside0.mk (below_step (by repeat (first | (with_reducible first | exact HB.out | apply below_alloc | apply pw_below_drewN | apply below_drew1) | exact HB.out)) hb); have n1_ := Aside0.mk (hbox); have n2_ := Aside0.mk ((by rw [hg]; exact (below_size (by repeat (first | (with_reducible first | exact HB.out | apply below_alloc | apply pw_below_drewN | apply below_drew1) | exact HB.out))) : w.heap.size ≤ gb172)); have n3_ := Aside0.mk ((by rw [hg]; exact (below_size (by repeat (first | (with_reducible first | exact HB.out | apply below_alloc | apply pw_below_drewN | apply below_drew1) | exact HB.out))) : w.heap.size ≤ gb172)); clear HB; have HB := n0_; have BK172 := n1_; have GW172 := n2_; have GE172 := n3_; clear n0_ n1_ n2_ n3_; clear hb hbox hg))
  go_loopg [3] k (fun kq v3 w' => ∃ (x3_1 : Int), v3 = .int .i64 x3_1 ∧ Aside0 (spec_sayPairs.l0 kq x3_1 a0_0 a0_1 a0_2 l0_3 l0_4 = some r) ∧ Aside0 (kq ≤ k) ∧ Aside0 (w'.heap[gb172]? = some (.cells #[.int .i64 a0_0, .int .i64 a0_1, .string a0_2, (.slice A0_3 l0_3.length c0_3), (.slice A0_4 l0_4.length c0_4)] 26 (0, 0))) ∧ Aside0 (Below w.heap.size w w'))
  case atStart => exact ⟨(0), (by first | rfl | (simp; done) | (simp [*]; done)), H', ⟨Nat.le_refl _⟩, ⟨by (with_reducible repeat (first | refine blk_drewN ?_ _ | refine blk_drew ?_ | refine blk_alloc ?_ _)); exact BK172.out⟩, ⟨by repeat (first | (with_reducible first | exact HB.out | apply below_alloc | apply pw_below_drewN | apply below_drew1 | refine below_set ?_ GE172.out) | exact HB.out)⟩⟩
  case round =>
    clear H'
    try clear p2
    obtain ⟨x3_1, rfl, HA, HK1, BK172, HB⟩ := hrel
    cases gk with
    | zero => exact absurd HA.out (by simp [spec_sayPairs.l0])
    | succ k1 =>
      have H := HA.out
      clear HA
      simp only [spec_sayPairs.l0] at H
      by_cases c3 : x3_1 < (l0_4.length : Int)
      · rw [if_pos c3] at H
        have c3b0 : decide (x3_1 < (l0_4.length : Int)) = true := decide_eq_true c3
        clear c3
        by_cases c4 : 0 ≤ x3_1
        · rw [if_pos c4] at H
          have c4b0 : decide (0 ≤ x3_1) = true := decide_eq_true c4
          clear c4
          have HC5 := Aside0.mk H
          clear H
          have hcz6_0 : wr.cell? ⟨gb172, 0, none⟩ = some (.int .i64 a0_0) := (blk_cell BK172.out 0).trans rfl
          have hcz6_1 : wr.cell? ⟨gb172, 1, none⟩ = some (.int .i64 a0_1) := (blk_cell BK172.out 1).trans rfl
          have hcz6_2 : wr.cell? ⟨gb172, 2, none⟩ = some (.string a0_2) := (blk_cell BK172.out 2).trans rfl
          have hcz6_3 : wr.cell? ⟨gb172, 3, none⟩ = some (.slice A0_3 l0_3.length c0_3) := (blk_cell BK172.out 3).trans rfl
          have hcz6_4 : wr.cell? ⟨gb172, 4, none⟩ = some (.slice A0_4 l0_4.length c0_4) := (blk_cell BK172.out 4).trans rfl
          have hfz6_0 := blk_frozen BK172.out 0
          have hfz6_1 := blk_frozen BK172.out 1
          have hfz6_2 := blk_frozen BK172.out 2
          have hfz6_3 := blk_frozen BK172.out 3
          have hfz6_4 := blk_frozen BK172.out 4
          have p173 : 0 ≤ (x3_1 : Int) := of_decide_eq_true (by first | (with_reducible assumption) | assumption)
          have q173 : x3_1 < (l0_4.length : Int) := of_decide_eq_true (by first | (with_reducible assumption) | assumption)
          obtain ⟨ad173, A173_3, c173_3, A173_4, c173_4, e173, hx173_0, hx173_1, hx173_2, hx173_3, hx173_4, hl173_3, hi173_3, hl173_4, hi173_4⟩ := at_T26 HR0_4.out x3_1 p173 q173
          cases e173
          replace hx173_0 := (HB.out.cell (World.block_lt_of_cell? w _ hx173_0)).trans hx173_0
          replace hx173_1 := (HB.out.cell (World.block_lt_of_cell? w _ hx173_1)).trans hx173_1
          replace hx173_2 := (HB.out.cell (World.block_lt_of_cell? w _ hx173_2)).trans hx173_2
          replace hx173_3 := (HB.out.cell (World.block_lt_of_cell? w _ hx173_3)).trans hx173_3
          replace hx173_4 := (HB.out.cell (World.block_lt_of_cell? w _ hx173_4)).trans hx173_4
          have HR173_3 := Aside0.mk hi173_3
          have HC173_3 := Aside0.mk hl173_3
          clear hi173_3 hl173_3
          have HR173_4 := Aside0.mk hi173_4
          have HC173_4 := Aside0.mk hl173_4
          clear hi173_4 hl173_4
          replace p173 := eq_true p173
          replace q173 := eq_true q173
          go_upto_region 5 with (first | ((with_reducible refine gate_dst (N := 4) rfl ?_); (try (refine gate_guard (by rfl) ?_; dsimp only)); refine box_event ?hg (N := 4) ?hd (cs := #[.int .i64 0, .int .i64 0, .string (⟨#[]⟩ : ByteArray), .slice none 0 0, .slice none 0 0]) (t := 26) ?hr ?_; (case hd => rfl); (case hg => rfl); (case hr => first | (go_simp; done) | (go_simp; rfl)); intro gb174 hg w7 hbox hb; have n0_ := Aside0.mk (blk_below (g := gb172) (o := .cells #[.int .i64 a0_0, .int .i64 a0_1, .string a0_2, .slice A0_3 l0_3.length c0_3, .slice (some ad173) l0_4.length c0_4] 26 (0, 0)) (by (with_reducible repeat (first | refine blk_drewN ?_ _ | refine blk_drew ?_ | refine blk_alloc ?_ _)); exact BK172.out) hb); have n1_ := Aside0.mk (below_step (by repeat (first | (with_reducible first | exact HB.out | apply below_alloc | apply pw_below_drewN | apply below_drew1 | refine below_set ?_ GE172.out) | exact HB.out)) hb); have n2_ := Aside0.mk (hbox); have n3_ := Aside0.mk ((by rw [hg]; exact (below_size (by repeat (first | (with_reducible first | exact HB.out | apply below_alloc | apply pw_below_drewN | apply below_drew1 | refine below_set ?_ GE172.out) | exact HB.out))) : w.heap.size ≤ gb174)); have n4_ := Aside0.mk ((by rw [hg]; exact (below_size (by repeat (first | (with_reducible first | exact HB.out | apply below_alloc | apply pw_below_drewN | apply below_drew1 | refine below_set ?_ GE172.out) | exact HB.out))) : w.heap.size ≤ gb174)); have n5_ := Aside0.mk ((by rw [hg]; exact Nat.ne_of_lt (blk_lt (g := gb172) (o := .cells #[.int .i64 a0_0, .int .i64 a0_1, .string a0_2, .slice A0_3 l0_3.length c0_3, .slice (some ad173) l0_4.length c0_4] 26 (0, 0)) (by (with_reducible repeat (first | refine blk_drewN ?_ _ | refine blk_drew ?_ | refine blk_alloc ?_ _)); exact BK172.out)) : gb172 ≠ gb174)); have n6_ := Aside0.mk ((by rw [hg]; exact Nat.ne_of_gt (blk_lt (g := gb172) (o := .cells #[.int .i64 a0_0, .int .i64 a0_1, .string a0_2, .slice A0_3 l0_3.length c0_3, .slice (some ad173) l0_4.length c0_4] 26 (0, 0)) (by (with_reducible repeat (first | refine blk_drewN ?_ _ | refine blk_drew ?_ | refine blk_alloc ?_ _)); exact BK172.out)) : gb174 ≠ gb172)); clear BK172; clear HB; have BK172 := n0_; have HB := n1_; have BK174 := n2_; have GW174 := n3_; have GE174 := n4_; have NB172_174 := n5_; have NB174_172 := n6_; clear n0_ n1_ n2_ n3_ n4_ n5_ n6_; clear hb hbox hg; have hnb8 := NB174_172.out; have hnc8 := NB172_174.out; have hcz9_0 : w7.cell? ⟨gb174, 0, none⟩ = some (.int .i64 0) := (blk_cell BK174.out 0).trans rfl; have hcz9_1 : w7.cell? ⟨gb174, 1, none⟩ = some (.int .i64 0) := (blk_cell BK174.out 1).trans rfl; have hcz9_2 : w7.cell? ⟨gb174, 2, none⟩ = some (.string (⟨#[]⟩ : ByteArray)) := (blk_cell BK174.out 2).trans rfl; have hcz9_3 : w7.cell? ⟨gb174, 3, none⟩ = some (.slice none 0 0) := (blk_cell BK174.out 3).trans rfl; have hcz9_4 : w7.cell? ⟨gb174, 4, none⟩ = some (.slice none 0 0) := (blk_cell BK174.out 4).trans rfl; have hfz9_0 := blk_frozen BK174.out 0; have hfz9_1 := blk_frozen BK174.out 1; have hfz9_2 := blk_frozen BK174.out 2; have hfz9_3 := blk_frozen BK174.out 3; have hfz9_4 := blk_frozen BK174.out 4))
          (try simp only [Act.put, List.setIfInBounds_toArray, List.set_cons_zero, List.set_cons_succ])
          go_cut [45] (fun v45 wc => ∃ (kq : Nat) (x45_4 : Bool), v45 = .bool x45_4 ∧ Aside0 (spec_sayPairs.j1 kq x3_1 x45_4 a0_0 a0_1 a0_2 l0_3 l0_4 ((rd_T26 l0_4 x3_1).f0) ((rd_T26 l0_4 x3_1).f1) ((rd_T26 l0_4 x3_1).f2) ((rd_T26 l0_4 x3_1).f3) ((rd_T26 l0_4 x3_1).f4) = some r) ∧ Aside0 (kq ≤ k1) ∧ Aside0 (wc.heap[gb172]? = some (.cells #[.int .i64 a0_0, .int .i64 a0_1, .string a0_2, (.slice A0_3 l0_3.length c0_3), (.slice (some ad173) l0_4.length c0_4)] 26 (0, 0))) ∧ Aside0 (wc.heap[gb174]? = some (.cells #[.int .i64 ((rd_T26 l0_4 x3_1).f0), .int .i64 ((rd_T26 l0_4 x3_1).f1), .string ((rd_T26 l0_4 x3_1).f2), (.slice A173_3 ((rd_T26 l0_4 x3_1).f3).length c173_3), (.slice A173_4 ((rd_T26 l0_4 x3_1).f4).length c173_4)] 26 (0, 0))) ∧ Aside0 (Below w.heap.size w wc))
          case first =>
            have H := HC5.out
            clear HC5
            by_cases c10 : a0_0 = 5
            · rw [if_pos c10] at H
              have c10b0 : (a0_0 == 5) = true := beq_iff_eq.mpr c10
              have c10b1 : (a0_0 != 5) = false := bne_eq_false_iff_eq.mpr c10
              clear c10
              (first | rw [c10b0] | (simp only [i64_w, i32_w]; rw [c10b0]) | skip)
              by_cases c11 : x3_1 < (l0_3.length : Int)
              · rw [if_pos c11] at H
                have c11b0 : decide (x3_1 < (l0_3.length : Int)) = true := decide_eq_true c11
                clear c11
                replace H := Option.bind_eq_some_iff.mp H
                obtain ⟨t176, A120, H⟩ := H
                replace H : (if t176 = true then (if ((rd_T26 l0_4 x3_1).f0) = 3 then (spec_sayPairs.j1 k1 x3_1 false a0_0 a0_1 a0_2 l0_3 l0_4 ((rd_T26 l0_4 x3_1).f0) ((rd_T26 l0_4 x3_1).f1) ((rd_T26 l0_4 x3_1).f2) ((rd_T26 l0_4 x3_1).f3) ((rd_T26 l0_4 x3_1).f4)) else (if ((rd_T26 l0_4 x3_1).f0) = 2 then (spec_sayPairs.j1 k1 x3_1 false a0_0 a0_1 a0_2 l0_3 l0_4 ((rd_T26 l0_4 x3_1).f0) ((rd_T26 l0_4 x3_1).f1) ((rd_T26 l0_4 x3_1).f2) ((rd_T26 l0_4 x3_1).f3) ((rd_T26 l0_4 x3_1).f4)) else (spec_sayPairs.j1 k1 x3_1 (((rd_T26 l0_4 x3_1).f0) != 1) a0_0 a0_1 a0_2 l0_3 l0_4 ((rd_T26 l0_4 x3_1).f0) ((rd_T26 l0_4 x3_1).f1) ((rd_T26 l0_4 x3_1).f2) ((rd_T26 l0_4 x3_1).f3) ((rd_T26 l0_4 x3_1).f4)))) else (spec_sayPairs.j1 k1 x3_1 true a0_0 a0_1 a0_2 l0_3 l0_4 ((rd_T26 l0_4 x3_1).f0) ((rd_T26 l0_4 x3_1).f1) ((rd_T26 l0_4 x3_1).f2) ((rd_T26 l0_4 x3_1).f3) ((rd_T26 l0_4 x3_1).f4))) = some r := H
                have A12 := Aside0.mk A120
                clear A120
                by_cases c13 : t176 = true
                · subst c13
                  have H1 : (if ((rd_T26 l0_4 x3_1).f0) = 3 then (spec_sayPairs.j1 k1 x3_1 false a0_0 a0_1 a0_2 l0_3 l0_4 ((rd_T26 l0_4 x3_1).f0) ((rd_T26 l0_4 x3_1).f1) ((rd_T26 l0_4 x3_1).f2) ((rd_T26 l0_4 x3_1).f3) ((rd_T26 l0_4 x3_1).f4)) else (if ((rd_T26 l0_4 x3_1).f0) = 2 then (spec_sayPairs.j1 k1 x3_1 false a0_0 a0_1 a0_2 l0_3 l0_4 ((rd_T26 l0_4 x3_1).f0) ((rd_T26 l0_4 x3_1).f1) ((rd_T26 l0_4 x3_1).f2) ((rd_T26 l0_4 x3_1).f3) ((rd_T26 l0_4 x3_1).f4)) else (spec_sayPairs.j1 k1 x3_1 (((rd_T26 l0_4 x3_1).f0) != 1) a0_0 a0_1 a0_2 l0_3 l0_4 ((rd_T26 l0_4 x3_1).f0) ((rd_T26 l0_4 x3_1).f1) ((rd_T26 l0_4 x3_1).f2) ((rd_T26 l0_4 x3_1).f3) ((rd_T26 l0_4 x3_1).f4)))) = some r := by rw [if_pos rfl] at H; exact H
                  clear H
                  have H := H1
                  clear H1
                  by_cases c14 : ((rd_T26 l0_4 x3_1).f0) = 3
                  · rw [if_pos c14] at H
                    have c14b0 : (((rd_T26 l0_4 x3_1).f0) == 3) = true := beq_iff_eq.mpr c14
                    have c14b1 : (((rd_T26 l0_4 x3_1).f0) != 3) = false := bne_eq_false_iff_eq.mpr c14
                    clear c14
                    have H' := Aside0.mk H
                    clear H
                    have hnb15 := NB172_174.out
                    have hnc15 := NB174_172.out
                    have hcz16_0 : w7.cell? ⟨gb172, 0, none⟩ = some (.int .i64 a0_0) := (blk_cell BK172.out 0).trans rfl
                    have hcz16_1 : w7.cell? ⟨gb172, 1, none⟩ = some (.int .i64 a0_1) := (blk_cell BK172.out 1).trans rfl
                    have hcz16_2 : w7.cell? ⟨gb172, 2, none⟩ = some (.string a0_2) := (blk_cell BK172.out 2).trans rfl
                    have hcz16_3 : w7.cell? ⟨gb172, 3, none⟩ = some (.slice A0_3 l0_3.length c0_3) := (blk_cell BK172.out 3).trans rfl
                    have hcz16_4 : w7.cell? ⟨gb172, 4, none⟩ = some (.slice (some ad173) l0_4.length c0_4) := (blk_cell BK172.out 4).trans rfl
                    have hfz16_0 := blk_frozen BK172.out 0
                    have hfz16_1 := blk_frozen BK172.out 1
                    have hfz16_2 := blk_frozen BK172.out 2
                    have hfz16_3 := blk_frozen BK172.out 3
                    have hfz16_4 := blk_frozen BK172.out 4
                    have p175 : 0 ≤ (x3_1 : Int) := of_decide_eq_true (by first | (with_reducible assumption) | assumption)
                    have q175 : x3_1 < (l0_3.length : Int) := of_decide_eq_true (by first | (with_reducible assumption) | assumption)
                    obtain ⟨ad175, e175, hx175_0⟩ := Kd.at_string HR0_3.out x3_1 p175 q175
                    cases e175
                    have hn175_0 : ad175.block ≠ gb174 := Nat.ne_of_lt (Nat.lt_of_lt_of_le (by have := World.block_lt_of_cell? _ _ hx175_0; first | rwa [add_block] at this | exact this) GW174.out)
                    have hn175_1 : ad175.block ≠ gb174 := Nat.ne_of_lt (Nat.lt_of_lt_of_le (by have := World.block_lt_of_cell? _ _ hx175_0; first | rwa [add_block] at this | exact this) GW174.out)
                    have hn175_2 : ad175.block ≠ gb174 := Nat.ne_of_lt (Nat.lt_of_lt_of_le (by have := World.block_lt_of_cell? _ _ hx175_0; first | rwa [add_block] at this | exact this) GW174.out)
                    have hn175_3 : ad175.block ≠ gb174 := Nat.ne_of_lt (Nat.lt_of_lt_of_le (by have := World.block_lt_of_cell? _ _ hx175_0; first | rwa [add_block] at this | exact this) GW174.out)
                    have hn175_4 : ad175.block ≠ gb174 := Nat.ne_of_lt (Nat.lt_of_lt_of_le (by have := World.block_lt_of_cell? _ _ hx175_0; first | rwa [add_block] at this | exact this) GW174.out)
                    replace hx175_0 := (HB.out.cell (World.block_lt_of_cell? w _ hx175_0)).trans hx175_0
                    replace hx175_0 := (cell_far (p := ⟨gb174, 0, none⟩) (by first | (rw [add_block]; exact hn175_0) | (show (Addr.add _ _).block ≠ _; rw [add_block]; exact hn175_0) | exact hn175_0) (.int .i64 ((rd_T26 l0_4 x3_1).f0))).trans hx175_0
                    replace hx175_0 := (cell_far (p := ⟨gb174, 1, none⟩) (by first | (rw [add_block]; exact hn175_1) | (show (Addr.add _ _).block ≠ _; rw [add_block]; exact hn175_1) | exact hn175_1) (.int .i64 ((rd_T26 l0_4 x3_1).f1))).trans hx175_0
                    replace hx175_0 := (cell_far (p := ⟨gb174, 2, none⟩) (by first | (rw [add_block]; exact hn175_2) | (show (Addr.add _ _).block ≠ _; rw [add_block]; exact hn175_2) | exact hn175_2) (.string ((rd_T26 l0_4 x3_1).f2))).trans hx175_0
                    replace hx175_0 := (cell_far (p := ⟨gb174, 3, none⟩) (by first | (rw [add_block]; exact hn175_3) | (show (Addr.add _ _).block ≠ _; rw [add_block]; exact hn175_3) | exact hn175_3) (.slice A173_3 ((rd_T26 l0_4 x3_1).f3).length c173_3)).trans hx175_0
                    replace hx175_0 := (cell_far (p := ⟨gb174, 4, none⟩) (by first | (rw [add_block]; exact hn175_4) | (show (Addr.add _ _).block ≠ _; rw [add_block]; exact hn175_4) | exact hn175_4) (.slice A173_4 ((rd_T26 l0_4 x3_1).f4).length c173_4)).trans hx175_0
                    clear hn175_0
                    clear hn175_1
                    clear hn175_2
                    clear hn175_3
                    clear hn175_4
                    replace p175 := eq_true p175
                    replace q175 := eq_true q175
                    go_wp2_with (first | (go_at_call 28; (with_reducible refine (spec_sayName.calls k1 (rdOf ByteArray.empty l0_3 x3_1) true _ A12.out).mono ?_); rintro e w' ⟨rfl, ⟨nd, rfl⟩⟩; have hcz17_0 : w7.cell? ⟨gb174, 0, none⟩ = some (.int .i64 0) := (blk_cell BK174.out 0).trans rfl; have hcz17_1 : w7.cell? ⟨gb174, 1, none⟩ = some (.int .i64 0) := (blk_cell BK174.out 1).trans rfl; have hcz17_2 : w7.cell? ⟨gb174, 2, none⟩ = some (.string (⟨#[]⟩ : ByteArray)) := (blk_cell BK174.out 2).trans rfl; have hcz17_3 : w7.cell? ⟨gb174, 3, none⟩ = some (.slice none 0 0) := (blk_cell BK174.out 3).trans rfl; have hcz17_4 : w7.cell? ⟨gb174, 4, none⟩ = some (.slice none 0 0) := (blk_cell BK174.out 4).trans rfl; have hfz17_0 := blk_frozen BK174.out 0; have hfz17_1 := blk_frozen BK174.out 1; have hfz17_2 := blk_frozen BK174.out 2; have hfz17_3 := blk_frozen BK174.out 3; have hfz17_4 := blk_frozen BK174.out 4))
                    go_meet
                    case rel => exact ⟨_, (false), (by first | rfl | (simp; done) | (simp [*]; done)), H', ⟨by have := HK1.out; first | omega | exact Nat.le_refl _⟩, ⟨by (with_reducible repeat (first | refine blk_drewN ?_ _ | refine blk_drew ?_ | refine blk_alloc ?_ _)); refine blk_far ?_ NB172_174.out _; (with_reducible repeat (first | refine blk_drewN ?_ _ | refine blk_drew ?_ | refine blk_alloc ?_ _)); refine blk_far ?_ NB172_174.out _; (with_reducible repeat (first | refine blk_drewN ?_ _ | refine blk_drew ?_ | refine blk_alloc ?_ _)); refine blk_far ?_ NB172_174.out _; (with_reducible repeat (first | refine blk_drewN ?_ _ | refine blk_drew ?_ | refine blk_alloc ?_ _)); refine blk_far ?_ NB172_174.out _; (with_reducible repeat (first | refine blk_drewN ?_ _ | refine blk_drew ?_ | refine blk_alloc ?_ _)); refine blk_far ?_ NB172_174.out _; (with_reducible repeat (first | refine blk_drewN ?_ _ | refine blk_drew ?_ | refine blk_alloc ?_ _)); exact BK172.out⟩, ⟨by (with_reducible repeat (first | refine blk_drewN ?_ _ | refine blk_drew ?_ | refine blk_alloc ?_ _)); refine blk_put (cs := #[.int .i64 ((rd_T26 l0_4 x3_1).f0), .int .i64 ((rd_T26 l0_4 x3_1).f1), .string ((rd_T26 l0_4 x3_1).f2), .slice A173_3 ((rd_T26 l0_4 x3_1).f3).length c173_3, .slice none 0 0]) ?_ 4 _ rfl; (with_reducible repeat (first | refine blk_drewN ?_ _ | refine blk_drew ?_ | refine blk_alloc ?_ _)); refine blk_put (cs := #[.int .i64 ((rd_T26 l0_4 x3_1).f0), .int .i64 ((rd_T26 l0_4 x3_1).f1), .string ((rd_T26 l0_4 x3_1).f2), .slice none 0 0, .slice none 0 0]) ?_ 3 _ rfl; (with_reducible repeat (first | refine blk_drewN ?_ _ | refine blk_drew ?_ | refine blk_alloc ?_ _)); refine blk_put (cs := #[.int .i64 ((rd_T26 l0_4 x3_1).f0), .int .i64 ((rd_T26 l0_4 x3_1).f1), .string (⟨#[]⟩ : ByteArray), .slice none 0 0, .slice none 0 0]) ?_ 2 _ rfl; (with_reducible repeat (first | refine blk_drewN ?_ _ | refine blk_drew ?_ | refine blk_alloc ?_ _)); refine blk_put (cs := #[.int .i64 ((rd_T26 l0_4 x3_1).f0), .int .i64 0, .string (⟨#[]⟩ : ByteArray), .slice none 0 0, .slice none 0 0]) ?_ 1 _ rfl; (with_reducible repeat (first | refine blk_drewN ?_ _ | refine blk_drew ?_ | refine blk_alloc ?_ _)); refine blk_put (cs := #[.int .i64 0, .int .i64 0, .string (⟨#[]⟩ : ByteArray), .slice none 0 0, .slice none 0 0]) ?_ 0 _ rfl; (with_reducible repeat (first | refine blk_drewN ?_ _ | refine blk_drew ?_ | refine blk_alloc ?_ _)); exact BK174.out⟩, ⟨by repeat (first | (with_reducible first | exact HB.out | apply below_alloc | apply pw_below_drewN | apply below_drew1 | refine below_set ?_ GE172.out | refine below_set ?_ GE174.out) | exact HB.out)⟩⟩
                  · rw [if_neg c14] at H
                    have c14b0 : (((rd_T26 l0_4 x3_1).f0) == 3) = false := beq_eq_false_iff_ne.mpr c14
                    have c14b1 : (((rd_T26 l0_4 x3_1).f0) != 3) = true := bne_iff_ne.mpr c14
                    by_cases c18 : ((rd_T26 l0_4 x3_1).f0) = 2
                    · rw [if_pos c18] at H
                      have c18b0 : (((rd_T26 l0_4 x3_1).f0) == 2) = true := beq_iff_eq.mpr c18
                      have c18b1 : (((rd_T26 l0_4 x3_1).f0) != 2) = false := bne_eq_false_iff_eq.mpr c18
                      clear c18
                      have H' := Aside0.mk H
                      clear H
                      have hnb19 := NB172_174.out
                      have hnc19 := NB174_172.out
                      have hcz20_0 : w7.cell? ⟨gb172, 0, none⟩ = some (.int .i64 a0_0) := (blk_cell BK172.out 0).trans rfl
                      have hcz20_1 : w7.cell? ⟨gb172, 1, none⟩ = some (.int .i64 a0_1) := (blk_cell BK172.out 1).trans rfl
                      have hcz20_2 : w7.cell? ⟨gb172, 2, none⟩ = some (.string a0_2) := (blk_cell BK172.out 2).trans rfl
                      have hcz20_3 : w7.cell? ⟨gb172, 3, none⟩ = some (.slice A0_3 l0_3.length c0_3) := (blk_cell BK172.out 3).trans rfl
                      have hcz20_4 : w7.cell? ⟨gb172, 4, none⟩ = some (.slice (some ad173) l0_4.length c0_4) := (blk_cell BK172.out 4).trans rfl
                      have hfz20_0 := blk_frozen BK172.out 0
                      have hfz20_1 := blk_frozen BK172.out 1
                      have hfz20_2 := blk_frozen BK172.out 2
                      have hfz20_3 := blk_frozen BK172.out 3
                      have hfz20_4 := blk_frozen BK172.out 4
                      have p175 : 0 ≤ (x3_1 : Int) := of_decide_eq_true (by first | (with_reducible assumption) | assumption)
                      have q175 : x3_1 < (l0_3.length : Int) := of_decide_eq_true (by first | (with_reducible assumption) | assumption)
                      obtain ⟨ad175, e175, hx175_0⟩ := Kd.at_string HR0_3.out x3_1 p175 q175
                      cases e175
                      have hn175_0 : ad175.block ≠ gb174 := Nat.ne_of_lt (Nat.lt_of_lt_of_le (by have := World.block_lt_of_cell? _ _ hx175_0; first | rwa [add_block] at this | exact this) GW174.out)
                      have hn175_1 : ad175.block ≠ gb174 := Nat.ne_of_lt (Nat.lt_of_lt_of_le (by have := World.block_lt_of_cell? _ _ hx175_0; first | rwa [add_block] at this | exact this) GW174.out)
                      have hn175_2 : ad175.block ≠ gb174 := Nat.ne_of_lt (Nat.lt_of_lt_of_le (by have := World.block_lt_of_cell? _ _ hx175_0; first | rwa [add_block] at this | exact this) GW174.out)
                      have hn175_3 : ad175.block ≠ gb174 := Nat.ne_of_lt (Nat.lt_of_lt_of_le (by have := World.block_lt_of_cell? _ _ hx175_0; first | rwa [add_block] at this | exact this) GW174.out)
                      have hn175_4 : ad175.block ≠ gb174 := Nat.ne_of_lt (Nat.lt_of_lt_of_le (by have := World.block_lt_of_cell? _ _ hx175_0; first | rwa [add_block] at this | exact this) GW174.out)
                      replace hx175_0 := (HB.out.cell (World.block_lt_of_cell? w _ hx175_0)).trans hx175_0
                      replace hx175_0 := (cell_far (p := ⟨gb174, 0, none⟩) (by first | (rw [add_block]; exact hn175_0) | (show (Addr.add _ _).block ≠ _; rw [add_block]; exact hn175_0) | exact hn175_0) (.int .i64 ((rd_T26 l0_4 x3_1).f0))).trans hx175_0
                      replace hx175_0 := (cell_far (p := ⟨gb174, 1, none⟩) (by first | (rw [add_block]; exact hn175_1) | (show (Addr.add _ _).block ≠ _; rw [add_block]; exact hn175_1) | exact hn175_1) (.int .i64 ((rd_T26 l0_4 x3_1).f1))).trans hx175_0
                      replace hx175_0 := (cell_far (p := ⟨gb174, 2, none⟩) (by first | (rw [add_block]; exact hn175_2) | (show (Addr.add _ _).block ≠ _; rw [add_block]; exact hn175_2) | exact hn175_2) (.string ((rd_T26 l0_4 x3_1).f2))).trans hx175_0
                      replace hx175_0 := (cell_far (p := ⟨gb174, 3, none⟩) (by first | (rw [add_block]; exact hn175_3) | (show (Addr.add _ _).block ≠ _; rw [add_block]; exact hn175_3) | exact hn175_3) (.slice A173_3 ((rd_T26 l0_4 x3_1).f3).length c173_3)).trans hx175_0
                      replace hx175_0 := (cell_far (p := ⟨gb174, 4, none⟩) (by first | (rw [add_block]; exact hn175_4) | (show (Addr.add _ _).block ≠ _; rw [add_block]; exact hn175_4) | exact hn175_4) (.slice A173_4 ((rd_T26 l0_4 x3_1).f4).length c173_4)).trans hx175_0
                      clear hn175_0
                      clear hn175_1
                      clear hn175_2
                      clear hn175_3
                      clear hn175_4
                      replace p175 := eq_true p175
                      replace q175 := eq_true q175
                      go_wp2_with (first | (go_at_call 28; (with_reducible refine (spec_sayName.calls k1 (rdOf ByteArray.empty l0_3 x3_1) true _ A12.out).mono ?_); rintro e w' ⟨rfl, ⟨nd, rfl⟩⟩; have hcz21_0 : w7.cell? ⟨gb174, 0, none⟩ = some (.int .i64 0) := (blk_cell BK174.out 0).trans rfl; have hcz21_1 : w7.cell? ⟨gb174, 1, none⟩ = some (.int .i64 0) := (blk_cell BK174.out 1).trans rfl; have hcz21_2 : w7.cell? ⟨gb174, 2, none⟩ = some (.string (⟨#[]⟩ : ByteArray)) := (blk_cell BK174.out 2).trans rfl; have hcz21_3 : w7.cell? ⟨gb174, 3, none⟩ = some (.slice none 0 0) := (blk_cell BK174.out 3).trans rfl; have hcz21_4 : w7.cell? ⟨gb174, 4, none⟩ = some (.slice none 0 0) := (blk_cell BK174.out 4).trans rfl; have hfz21_0 := blk_frozen BK174.out 0; have hfz21_1 := blk_frozen BK174.out 1; have hfz21_2 := blk_frozen BK174.out 2; have hfz21_3 := blk_frozen BK174.out 3; have hfz21_4 := blk_frozen BK174.out 4))
                      go_meet
                      case rel => exact ⟨_, (false), (by first | rfl | (simp; done) | (simp [*]; done)), H', ⟨by have := HK1.out; first | omega | exact Nat.le_refl _⟩, ⟨by (with_reducible repeat (first | refine blk_drewN ?_ _ | refine blk_drew ?_ | refine blk_alloc ?_ _)); refine blk_far ?_ NB172_174.out _; (with_reducible repeat (first | refine blk_drewN ?_ _ | refine blk_drew ?_ | refine blk_alloc ?_ _)); refine blk_far ?_ NB172_174.out _; (with_reducible repeat (first | refine blk_drewN ?_ _ | refine blk_drew ?_ | refine blk_alloc ?_ _)); refine blk_far ?_ NB172_174.out _; (with_reducible repeat (first | refine blk_drewN ?_ _ | refine blk_drew ?_ | refine blk_alloc ?_ _)); refine blk_far ?_ NB172_174.out _; (with_reducible repeat (first | refine blk_drewN ?_ _ | refine blk_drew ?_ | refine blk_alloc ?_ _)); refine blk_far ?_ NB172_174.out _; (with_reducible repeat (first | refine blk_drewN ?_ _ | refine blk_drew ?_ | refine blk_alloc ?_ _)); exact BK172.out⟩, ⟨by (with_reducible repeat (first | refine blk_drewN ?_ _ | refine blk_drew ?_ | refine blk_alloc ?_ _)); refine blk_put (cs := #[.int .i64 ((rd_T26 l0_4 x3_1).f0), .int .i64 ((rd_T26 l0_4 x3_1).f1), .string ((rd_T26 l0_4 x3_1).f2), .slice A173_3 ((rd_T26 l0_4 x3_1).f3).length c173_3, .slice none 0 0]) ?_ 4 _ rfl; (with_reducible repeat (first | refine blk_drewN ?_ _ | refine blk_drew ?_ | refine blk_alloc ?_ _)); refine blk_put (cs := #[.int .i64 ((rd_T26 l0_4 x3_1).f0), .int .i64 ((rd_T26 l0_4 x3_1).f1), .string ((rd_T26 l0_4 x3_1).f2), .slice none 0 0, .slice none 0 0]) ?_ 3 _ rfl; (with_reducible repeat (first | refine blk_drewN ?_ _ | refine blk_drew ?_ | refine blk_alloc ?_ _)); refine blk_put (cs := #[.int .i64 ((rd_T26 l0_4 x3_1).f0), .int .i64 ((rd_T26 l0_4 x3_1).f1), .string (⟨#[]⟩ : ByteArray), .slice none 0 0, .slice none 0 0]) ?_ 2 _ rfl; (with_reducible repeat (first | refine blk_drewN ?_ _ | refine blk_drew ?_ | refine blk_alloc ?_ _)); refine blk_put (cs := #[.int .i64 ((rd_T26 l0_4 x3_1).f0), .int .i64 0, .string (⟨#[]⟩ : ByteArray), .slice none 0 0, .slice none 0 0]) ?_ 1 _ rfl; (with_reducible repeat (first | refine blk_drewN ?_ _ | refine blk_drew ?_ | refine blk_alloc ?_ _)); refine blk_put (cs := #[.int .i64 0, .int .i64 0, .string (⟨#[]⟩ : ByteArray), .slice none 0 0, .slice none 0 0]) ?_ 0 _ rfl; (with_reducible repeat (first | refine blk_drewN ?_ _ | refine blk_drew ?_ | refine blk_alloc ?_ _)); exact BK174.out⟩, ⟨by repeat (first | (with_reducible first | exact HB.out | apply below_alloc | apply pw_below_drewN | apply below_drew1 | refine below_set ?_ GE172.out | refine below_set ?_ GE174.out) | exact HB.out)⟩⟩
                    · rw [if_neg c18] at H
                      have c18b0 : (((rd_T26 l0_4 x3_1).f0) == 2) = false := beq_eq_false_iff_ne.mpr c18
                      have c18b1 : (((rd_T26 l0_4 x3_1).f0) != 2) = true := bne_iff_ne.mpr c18
                      have H' := Aside0.mk H
                      clear H
                      have hnb22 := NB172_174.out
                      have hnc22 := NB174_172.out
                      have hcz23_0 : w7.cell? ⟨gb172, 0, none⟩ = some (.int .i64 a0_0) := (blk_cell BK172.out 0).trans rfl
                      have hcz23_1 : w7.cell? ⟨gb172, 1, none⟩ = some (.int .i64 a0_1) := (blk_cell BK172.out 1).trans rfl
                      have hcz23_2 : w7.cell? ⟨gb172, 2, none⟩ = some (.string a0_2) := (blk_cell BK172.out 2).trans rfl
                      have hcz23_3 : w7.cell? ⟨gb172, 3, none⟩ = some (.slice A0_3 l0_3.length c0_3) := (blk_cell BK172.out 3).trans rfl
                      have hcz23_4 : w7.cell? ⟨gb172, 4, none⟩ = some (.slice (some ad173) l0_4.length c0_4) := (blk_cell BK172.out 4).trans rfl
                      have hfz23_0 := blk_frozen BK172.out 0
                      have hfz23_1 := blk_frozen BK172.out 1
                      have hfz23_2 := blk_frozen BK172.out 2
                      have hfz23_3 := blk_frozen BK172.out 3
                      have hfz23_4 := blk_frozen BK172.out 4
                      have p175 : 0 ≤ (x3_1 : Int) := of_decide_eq_true (by first | (with_reducible assumption) | assumption)
                      have q175 : x3_1 < (l0_3.length : Int) := of_decide_eq_true (by first | (with_reducible assumption) | assumption)
                      obtain ⟨ad175, e175, hx175_0⟩ := Kd.at_string HR0_3.out x3_1 p175 q175
                      cases e175
                      have hn175_0 : ad175.block ≠ gb174 := Nat.ne_of_lt (Nat.lt_of_lt_of_le (by have := World.block_lt_of_cell? _ _ hx175_0; first | rwa [add_block] at this | exact this) GW174.out)
                      have hn175_1 : ad175.block ≠ gb174 := Nat.ne_of_lt (Nat.lt_of_lt_of_le (by have := World.block_lt_of_cell? _ _ hx175_0; first | rwa [add_block] at this | exact this) GW174.out)
                      have hn175_2 : ad175.block ≠ gb174 := Nat.ne_of_lt (Nat.lt_of_lt_of_le (by have := World.block_lt_of_cell? _ _ hx175_0; first | rwa [add_block] at this | exact this) GW174.out)
                      have hn175_3 : ad175.block ≠ gb174 := Nat.ne_of_lt (Nat.lt_of_lt_of_le (by have := World.block_lt_of_cell? _ _ hx175_0; first | rwa [add_block] at this | exact this) GW174.out)
                      have hn175_4 : ad175.block ≠ gb174 := Nat.ne_of_lt (Nat.lt_of_lt_of_le (by have := World.block_lt_of_cell? _ _ hx175_0; first | rwa [add_block] at this | exact this) GW174.out)
                      replace hx175_0 := (HB.out.cell (World.block_lt_of_cell? w _ hx175_0)).trans hx175_0
                      replace hx175_0 := (cell_far (p := ⟨gb174, 0, none⟩) (by first | (rw [add_block]; exact hn175_0) | (show (Addr.add _ _).block ≠ _; rw [add_block]; exact hn175_0) | exact hn175_0) (.int .i64 ((rd_T26 l0_4 x3_1).f0))).trans hx175_0
                      replace hx175_0 := (cell_far (p := ⟨gb174, 1, none⟩) (by first | (rw [add_block]; exact hn175_1) | (show (Addr.add _ _).block ≠ _; rw [add_block]; exact hn175_1) | exact hn175_1) (.int .i64 ((rd_T26 l0_4 x3_1).f1))).trans hx175_0
                      replace hx175_0 := (cell_far (p := ⟨gb174, 2, none⟩) (by first | (rw [add_block]; exact hn175_2) | (show (Addr.add _ _).block ≠ _; rw [add_block]; exact hn175_2) | exact hn175_2) (.string ((rd_T26 l0_4 x3_1).f2))).trans hx175_0
                      replace hx175_0 := (cell_far (p := ⟨gb174, 3, none⟩) (by first | (rw [add_block]; exact hn175_3) | (show (Addr.add _ _).block ≠ _; rw [add_block]; exact hn175_3) | exact hn175_3) (.slice A173_3 ((rd_T26 l0_4 x3_1).f3).length c173_3)).trans hx175_0
                      replace hx175_0 := (cell_far (p := ⟨gb174, 4, none⟩) (by first | (rw [add_block]; exact hn175_4) | (show (Addr.add _ _).block ≠ _; rw [add_block]; exact hn175_4) | exact hn175_4) (.slice A173_4 ((rd_T26 l0_4 x3_1).f4).length c173_4)).trans hx175_0
                      clear hn175_0
                      clear hn175_1
                      clear hn175_2
                      clear hn175_3
                      clear hn175_4
                      replace p175 := eq_true p175
                      replace q175 := eq_true q175
                      go_wp2_with (first | (go_at_call 28; (with_reducible refine (spec_sayName.calls k1 (rdOf ByteArray.empty l0_3 x3_1) true _ A12.out).mono ?_); rintro e w' ⟨rfl, ⟨nd, rfl⟩⟩; have hcz24_0 : w7.cell? ⟨gb174, 0, none⟩ = some (.int .i64 0) := (blk_cell BK174.out 0).trans rfl; have hcz24_1 : w7.cell? ⟨gb174, 1, none⟩ = some (.int .i64 0) := (blk_cell BK174.out 1).trans rfl; have hcz24_2 : w7.cell? ⟨gb174, 2, none⟩ = some (.string (⟨#[]⟩ : ByteArray)) := (blk_cell BK174.out 2).trans rfl; have hcz24_3 : w7.cell? ⟨gb174, 3, none⟩ = some (.slice none 0 0) := (blk_cell BK174.out 3).trans rfl; have hcz24_4 : w7.cell? ⟨gb174, 4, none⟩ = some (.slice none 0 0) := (blk_cell BK174.out 4).trans rfl; have hfz24_0 := blk_frozen BK174.out 0; have hfz24_1 := blk_frozen BK174.out 1; have hfz24_2 := blk_frozen BK174.out 2; have hfz24_3 := blk_frozen BK174.out 3; have hfz24_4 := blk_frozen BK174.out 4))
                      go_meet
                      case rel => exact ⟨_, ((((rd_T26 l0_4 x3_1).f0) != 1)), (by first | rfl | (simp; done) | (simp [*]; done)), H', ⟨by have := HK1.out; first | omega | exact Nat.le_refl _⟩, ⟨by (with_reducible repeat (first | refine blk_drewN ?_ _ | refine blk_drew ?_ | refine blk_alloc ?_ _)); refine blk_far ?_ NB172_174.out _; (with_reducible repeat (first | refine blk_drewN ?_ _ | refine blk_drew ?_ | refine blk_alloc ?_ _)); refine blk_far ?_ NB172_174.out _; (with_reducible repeat (first | refine blk_drewN ?_ _ | refine blk_drew ?_ | refine blk_alloc ?_ _)); refine blk_far ?_ NB172_174.out _; (with_reducible repeat (first | refine blk_drewN ?_ _ | refine blk_drew ?_ | refine blk_alloc ?_ _)); refine blk_far ?_ NB172_174.out _; (with_reducible repeat (first | refine blk_drewN ?_ _ | refine blk_drew ?_ | refine blk_alloc ?_ _)); refine blk_far ?_ NB172_174.out _; (with_reducible repeat (first | refine blk_drewN ?_ _ | refine blk_drew ?_ | refine blk_alloc ?_ _)); exact BK172.out⟩, ⟨by (with_reducible repeat (first | refine blk_drewN ?_ _ | refine blk_drew ?_ | refine blk_alloc ?_ _)); refine blk_put (cs := #[.int .i64 ((rd_T26 l0_4 x3_1).f0), .int .i64 ((rd_T26 l0_4 x3_1).f1), .string ((rd_T26 l0_4 x3_1).f2), .slice A173_3 ((rd_T26 l0_4 x3_1).f3).length c173_3, .slice none 0 0]) ?_ 4 _ rfl; (with_reducible repeat (first | refine blk_drewN ?_ _ | refine blk_drew ?_ | refine blk_alloc ?_ _)); refine blk_put (cs := #[.int .i64 ((rd_T26 l0_4 x3_1).f0), .int .i64 ((rd_T26 l0_4 x3_1).f1), .string ((rd_T26 l0_4 x3_1).f2), .slice none 0 0, .slice none 0 0]) ?_ 3 _ rfl; (with_reducible repeat (first | refine blk_drewN ?_ _ | refine blk_drew ?_ | refine blk_alloc ?_ _)); refine blk_put (cs := #[.int .i64 ((rd_T26 l0_4 x3_1).f0), .int .i64 ((rd_T26 l0_4 x3_1).f1), .string (⟨#[]⟩ : ByteArray), .slice none 0 0, .slice none 0 0]) ?_ 2 _ rfl; (with_reducible repeat (first | refine blk_drewN ?_ _ | refine blk_drew ?_ | refine blk_alloc ?_ _)); refine blk_put (cs := #[.int .i64 ((rd_T26 l0_4 x3_1).f0), .int .i64 0, .string (⟨#[]⟩ : ByteArray), .slice none 0 0, .slice none 0 0]) ?_ 1 _ rfl; (with_reducible repeat (first | refine blk_drewN ?_ _ | refine blk_drew ?_ | refine blk_alloc ?_ _)); refine blk_put (cs := #[.int .i64 0, .int .i64 0, .string (⟨#[]⟩ : ByteArray), .slice none 0 0, .slice none 0 0]) ?_ 0 _ rfl; (with_reducible repeat (first | refine blk_drewN ?_ _ | refine blk_drew ?_ | refine blk_alloc ?_ _)); exact BK174.out⟩, ⟨by repeat (first | (with_reducible first | exact HB.out | apply below_alloc | apply pw_below_drewN | apply below_drew1 | refine below_set ?_ GE172.out | refine below_set ?_ GE174.out) | exact HB.out)⟩⟩
                · replace c13 := Bool.eq_false_iff.mpr c13
                  subst c13
                  have H1 : (spec_sayPairs.j1 k1 x3_1 true a0_0 a0_1 a0_2 l0_3 l0_4 ((rd_T26 l0_4 x3_1).f0) ((rd_T26 l0_4 x3_1).f1) ((rd_T26 l0_4 x3_1).f2) ((rd_T26 l0_4 x3_1).f3) ((rd_T26 l0_4 x3_1).f4)) = some r := by rw [if_neg (show ¬ (false = true) by decide)] at H; exact H
                  clear H
                  have H := H1
                  clear H1
                  have H' := Aside0.mk H
                  clear H
                  have hnb25 := NB172_174.out
                  have hnc25 := NB174_172.out
                  have hcz26_0 : w7.cell? ⟨gb172, 0, none⟩ = some (.int .i64 a0_0) := (blk_cell BK172.out 0).trans rfl
                  have hcz26_1 : w7.cell? ⟨gb172, 1, none⟩ = some (.int .i64 a0_1) := (blk_cell BK172.out 1).trans rfl
                  have hcz26_2 : w7.cell? ⟨gb172, 2, none⟩ = some (.string a0_2) := (blk_cell BK172.out 2).trans rfl
                  have hcz26_3 : w7.cell? ⟨gb172, 3, none⟩ = some (.slice A0_3 l0_3.length c0_3) := (blk_cell BK172.out 3).trans rfl
                  have hcz26_4 : w7.cell? ⟨gb172, 4, none⟩ = some (.slice (some ad173) l0_4.length c0_4) := (blk_cell BK172.out 4).trans rfl
                  have hfz26_0 := blk_frozen BK172.out 0
                  have hfz26_1 := blk_frozen BK172.out 1
                  have hfz26_2 := blk_frozen BK172.out 2
                  have hfz26_3 := blk_frozen BK172.out 3
                  have hfz26_4 := blk_frozen BK172.out 4
                  have p175 : 0 ≤ (x3_1 : Int) := of_decide_eq_true (by first | (with_reducible assumption) | assumption)
                  have q175 : x3_1 < (l0_3.length : Int) := of_decide_eq_true (by first | (with_reducible assumption) | assumption)
                  obtain ⟨ad175, e175, hx175_0⟩ := Kd.at_string HR0_3.out x3_1 p175 q175
                  cases e175
                  have hn175_0 : ad175.block ≠ gb174 := Nat.ne_of_lt (Nat.lt_of_lt_of_le (by have := World.block_lt_of_cell? _ _ hx175_0; first | rwa [add_block] at this | exact this) GW174.out)
                  have hn175_1 : ad175.block ≠ gb174 := Nat.ne_of_lt (Nat.lt_of_lt_of_le (by have := World.block_lt_of_cell? _ _ hx175_0; first | rwa [add_block] at this | exact this) GW174.out)
                  have hn175_2 : ad175.block ≠ gb174 := Nat.ne_of_lt (Nat.lt_of_lt_of_le (by have := World.block_lt_of_cell? _ _ hx175_0; first | rwa [add_block] at this | exact this) GW174.out)
                  have hn175_3 : ad175.block ≠ gb174 := Nat.ne_of_lt (Nat.lt_of_lt_of_le (by have := World.block_lt_of_cell? _ _ hx175_0; first | rwa [add_block] at this | exact this) GW174.out)
                  have hn175_4 : ad175.block ≠ gb174 := Nat.ne_of_lt (Nat.lt_of_lt_of_le (by have := World.block_lt_of_cell? _ _ hx175_0; first | rwa [add_block] at this | exact this) GW174.out)
                  replace hx175_0 := (HB.out.cell (World.block_lt_of_cell? w _ hx175_0)).trans hx175_0
                  replace hx175_0 := (cell_far (p := ⟨gb174, 0, none⟩) (by first | (rw [add_block]; exact hn175_0) | (show (Addr.add _ _).block ≠ _; rw [add_block]; exact hn175_0) | exact hn175_0) (.int .i64 ((rd_T26 l0_4 x3_1).f0))).trans hx175_0
                  replace hx175_0 := (cell_far (p := ⟨gb174, 1, none⟩) (by first | (rw [add_block]; exact hn175_1) | (show (Addr.add _ _).block ≠ _; rw [add_block]; exact hn175_1) | exact hn175_1) (.int .i64 ((rd_T26 l0_4 x3_1).f1))).trans hx175_0
                  replace hx175_0 := (cell_far (p := ⟨gb174, 2, none⟩) (by first | (rw [add_block]; exact hn175_2) | (show (Addr.add _ _).block ≠ _; rw [add_block]; exact hn175_2) | exact hn175_2) (.string ((rd_T26 l0_4 x3_1).f2))).trans hx175_0
                  replace hx175_0 := (cell_far (p := ⟨gb174, 3, none⟩) (by first | (rw [add_block]; exact hn175_3) | (show (Addr.add _ _).block ≠ _; rw [add_block]; exact hn175_3) | exact hn175_3) (.slice A173_3 ((rd_T26 l0_4 x3_1).f3).length c173_3)).trans hx175_0
                  replace hx175_0 := (cell_far (p := ⟨gb174, 4, none⟩) (by first | (rw [add_block]; exact hn175_4) | (show (Addr.add _ _).block ≠ _; rw [add_block]; exact hn175_4) | exact hn175_4) (.slice A173_4 ((rd_T26 l0_4 x3_1).f4).length c173_4)).trans hx175_0
                  clear hn175_0
                  clear hn175_1
                  clear hn175_2
                  clear hn175_3
                  clear hn175_4
                  replace p175 := eq_true p175
                  replace q175 := eq_true q175
                  go_wp2_with (first | (go_at_call 28; (with_reducible refine (spec_sayName.calls k1 (rdOf ByteArray.empty l0_3 x3_1) false _ A12.out).mono ?_); rintro e w' ⟨rfl, ⟨nd, rfl⟩⟩))
                  go_meet
                  case rel => exact ⟨_, (true), (by first | rfl | (simp; done) | (simp [*]; done)), H', ⟨by have := HK1.out; first | omega | exact Nat.le_refl _⟩, ⟨by (with_reducible repeat (first | refine blk_drewN ?_ _ | refine blk_drew ?_ | refine blk_alloc ?_ _)); refine blk_far ?_ NB172_174.out _; (with_reducible repeat (first | refine blk_drewN ?_ _ | refine blk_drew ?_ | refine blk_alloc ?_ _)); refine blk_far ?_ NB172_174.out _; (with_reducible repeat (first | refine blk_drewN ?_ _ | refine blk_drew ?_ | refine blk_alloc ?_ _)); refine blk_far ?_ NB172_174.out _; (with_reducible repeat (first | refine blk_drewN ?_ _ | refine blk_drew ?_ | refine blk_alloc ?_ _)); refine blk_far ?_ NB172_174.out _; (with_reducible repeat (first | refine blk_drewN ?_ _ | refine blk_drew ?_ | refine blk_alloc ?_ _)); refine blk_far ?_ NB172_174.out _; (with_reducible repeat (first | refine blk_drewN ?_ _ | refine blk_drew ?_ | refine blk_alloc ?_ _)); exact BK172.out⟩, ⟨by (with_reducible repeat (first | refine blk_drewN ?_ _ | refine blk_drew ?_ | refine blk_alloc ?_ _)); refine blk_put (cs := #[.int .i64 ((rd_T26 l0_4 x3_1).f0), .int .i64 ((rd_T26 l0_4 x3_1).f1), .string ((rd_T26 l0_4 x3_1).f2), .slice A173_3 ((rd_T26 l0_4 x3_1).f3).length c173_3, .slice none 0 0]) ?_ 4 _ rfl; (with_reducible repeat (first | refine blk_drewN ?_ _ | refine blk_drew ?_ | refine blk_alloc ?_ _)); refine blk_put (cs := #[.int .i64 ((rd_T26 l0_4 x3_1).f0), .int .i64 ((rd_T26 l0_4 x3_1).f1), .string ((rd_T26 l0_4 x3_1).f2), .slice none 0 0, .slice none 0 0]) ?_ 3 _ rfl; (with_reducible repeat (first | refine blk_drewN ?_ _ | refine blk_drew ?_ | refine blk_alloc ?_ _)); refine blk_put (cs := #[.int .i64 ((rd_T26 l0_4 x3_1).f0), .int .i64 ((rd_T26 l0_4 x3_1).f1), .string (⟨#[]⟩ : ByteArray), .slice none 0 0, .slice none 0 0]) ?_ 2 _ rfl; (with_reducible repeat (first | refine blk_drewN ?_ _ | refine blk_drew ?_ | refine blk_alloc ?_ _)); refine blk_put (cs := #[.int .i64 ((rd_T26 l0_4 x3_1).f0), .int .i64 0, .string (⟨#[]⟩ : ByteArray), .slice none 0 0, .slice none 0 0]) ?_ 1 _ rfl; (with_reducible repeat (first | refine blk_drewN ?_ _ | refine blk_drew ?_ | refine blk_alloc ?_ _)); refine blk_put (cs := #[.int .i64 0, .int .i64 0, .string (⟨#[]⟩ : ByteArray), .slice none 0 0, .slice none 0 0]) ?_ 0 _ rfl; (with_reducible repeat (first | refine blk_drewN ?_ _ | refine blk_drew ?_ | refine blk_alloc ?_ _)); exact BK174.out⟩, ⟨by repeat (first | (with_reducible first | exact HB.out | apply below_alloc | apply pw_below_drewN | apply below_drew1 | refine below_set ?_ GE172.out | refine below_set ?_ GE174.out) | exact HB.out)⟩⟩
              · rw [if_neg c11] at H
                exact absurd H (by simp)
            · rw [if_neg c10] at H
              have c10b0 : (a0_0 == 5) = false := beq_eq_false_iff_ne.mpr c10
              have c10b1 : (a0_0 != 5) = true := bne_iff_ne.mpr c10
              (first | rw [c10b0] | (simp only [i64_w, i32_w]; rw [c10b0]) | skip)
              have H' := Aside0.mk H
              clear H
              have hnb27 := NB172_174.out
              have hnc27 := NB174_172.out
              have hcz28_0 : w7.cell? ⟨gb172, 0, none⟩ = some (.int .i64 a0_0) := (blk_cell BK172.out 0).trans rfl
              have hcz28_1 : w7.cell? ⟨gb172, 1, none⟩ = some (.int .i64 a0_1) := (blk_cell BK172.out 1).trans rfl
              have hcz28_2 : w7.cell? ⟨gb172, 2, none⟩ = some (.string a0_2) := (blk_cell BK172.out 2).trans rfl
              have hcz28_3 : w7.cell? ⟨gb172, 3, none⟩ = some (.slice A0_3 l0_3.length c0_3) := (blk_cell BK172.out 3).trans rfl
              have hcz28_4 : w7.cell? ⟨gb172, 4, none⟩ = some (.slice (some ad173) l0_4.length c0_4) := (blk_cell BK172.out 4).trans rfl
              have hfz28_0 := blk_frozen BK172.out 0
              have hfz28_1 := blk_frozen BK172.out 1
              have hfz28_2 := blk_frozen BK172.out 2
              have hfz28_3 := blk_frozen BK172.out 3
              have hfz28_4 := blk_frozen BK172.out 4
              go_wp2
              go_meet
              case rel => exact ⟨_, (false), (by first | rfl | (simp; done) | (simp [*]; done)), H', ⟨by have := HK1.out; first | omega | exact Nat.le_refl _⟩, ⟨by (with_reducible repeat (first | refine blk_drewN ?_ _ | refine blk_drew ?_ | refine blk_alloc ?_ _)); refine blk_far ?_ NB172_174.out _; (with_reducible repeat (first | refine blk_drewN ?_ _ | refine blk_drew ?_ | refine blk_alloc ?_ _)); refine blk_far ?_ NB172_174.out _; (with_reducible repeat (first | refine blk_drewN ?_ _ | refine blk_drew ?_ | refine blk_alloc ?_ _)); refine blk_far ?_ NB172_174.out _; (with_reducible repeat (first | refine blk_drewN ?_ _ | refine blk_drew ?_ | refine blk_alloc ?_ _)); refine blk_far ?_ NB172_174.out _; (with_reducible repeat (first | refine blk_drewN ?_ _ | refine blk_drew ?_ | refine blk_alloc ?_ _)); refine blk_far ?_ NB172_174.out _; (with_reducible repeat (first | refine blk_drewN ?_ _ | refine blk_drew ?_ | refine blk_alloc ?_ _)); exact BK172.out⟩, ⟨by (with_reducible repeat (first | refine blk_drewN ?_ _ | refine blk_drew ?_ | refine blk_alloc ?_ _)); refine blk_put (cs := #[.int .i64 ((rd_T26 l0_4 x3_1).f0), .int .i64 ((rd_T26 l0_4 x3_1).f1), .string ((rd_T26 l0_4 x3_1).f2), .slice A173_3 ((rd_T26 l0_4 x3_1).f3).length c173_3, .slice none 0 0]) ?_ 4 _ rfl; (with_reducible repeat (first | refine blk_drewN ?_ _ | refine blk_drew ?_ | refine blk_alloc ?_ _)); refine blk_put (cs := #[.int .i64 ((rd_T26 l0_4 x3_1).f0), .int .i64 ((rd_T26 l0_4 x3_1).f1), .string ((rd_T26 l0_4 x3_1).f2), .slice none 0 0, .slice none 0 0]) ?_ 3 _ rfl; (with_reducible repeat (first | refine blk_drewN ?_ _ | refine blk_drew ?_ | refine blk_alloc ?_ _)); refine blk_put (cs := #[.int .i64 ((rd_T26 l0_4 x3_1).f0), .int .i64 ((rd_T26 l0_4 x3_1).f1), .string (⟨#[]⟩ : ByteArray), .slice none 0 0, .slice none 0 0]) ?_ 2 _ rfl; (with_reducible repeat (first | refine blk_drewN ?_ _ | refine blk_drew ?_ | refine blk_alloc ?_ _)); refine blk_put (cs := #[.int .i64 ((rd_T26 l0_4 x3_1).f0), .int .i64 0, .string (⟨#[]⟩ : ByteArray), .slice none 0 0, .slice none 0 0]) ?_ 1 _ rfl; (with_reducible repeat (first | refine blk_drewN ?_ _ | refine blk_drew ?_ | refine blk_alloc ?_ _)); refine blk_put (cs := #[.int .i64 0, .int .i64 0, .string (⟨#[]⟩ : ByteArray), .slice none 0 0, .slice none 0 0]) ?_ 0 _ rfl; (with_reducible repeat (first | refine blk_drewN ?_ _ | refine blk_drew ?_ | refine blk_alloc ?_ _)); exact BK174.out⟩, ⟨by repeat (first | (with_reducible first | exact HB.out | apply below_alloc | apply pw_below_drewN | apply below_drew1 | refine below_set ?_ GE172.out | refine below_set ?_ GE174.out) | exact HB.out)⟩⟩
          case rest =>
            clear HC5
            try clear c1
            try clear p1
            try clear q1
            try clear hx1
            try clear c2
            try clear p2
            try clear c3
            try clear c3b0
            try clear c4
            try clear c4b0
            try clear c6
            try clear c8
            try clear c10
            try clear c10b0
            try clear c10b1
            try clear c11
            try clear c11b0
            try clear c13
            try clear c14
            try clear c14b0
            try clear c14b1
            try clear c15
            try clear c17
            try clear p17
            try clear q17
            try clear hx17
            try clear c18
            try clear c18b0
            try clear c18b1
            try clear c19
            try clear c22
            try clear c25
            try clear c27
            try clear hcz16_0
            try clear hcz16_1
            try clear hcz16_2
            try clear hcz16_3
            try clear hcz16_4
            try clear hcz17_0
            try clear hcz17_1
            try clear hcz17_2
            try clear hcz17_3
            try clear hcz17_4
            try clear hcz20_0
            try clear hcz20_1
            try clear hcz20_2
            try clear hcz20_3
            try clear hcz20_4
            try clear hcz21_0
            try clear hcz21_1
            try clear hcz21_2
            try clear hcz21_3
            try clear hcz21_4
            try clear hcz23_0
            try clear hcz23_1
            try clear hcz23_2
            try clear hcz23_3
            try clear hcz23_4
            try clear hcz24_0
            try clear hcz24_1
            try clear hcz24_2
            try clear hcz24_3
            try clear hcz24_4
            try clear hcz26_0
            try clear hcz26_1
            try clear hcz26_2
            try clear hcz26_3
            try clear hcz26_4
            try clear hcz28_0
            try clear hcz28_1
            try clear hcz28_2
            try clear hcz28_3
            try clear hcz28_4
            try clear hcz6_0
            try clear hcz6_1
            try clear hcz6_2
            try clear hcz6_3
            try clear hcz6_4
            try clear hcz9_0
            try clear hcz9_1
            try clear hcz9_2
            try clear hcz9_3
            try clear hcz9_4
            try clear hfz16_0
            try clear hfz16_1
            try clear hfz16_2
            try clear hfz16_3
            try clear hfz16_4
            try clear hfz17_0
            try clear hfz17_1
            try clear hfz17_2
            try clear hfz17_3
            try clear hfz17_4
            try clear hfz20_0
            try clear hfz20_1
            try clear hfz20_2
            try clear hfz20_3
            try clear hfz20_4
            try clear hfz21_0
            try clear hfz21_1
            try clear hfz21_2
            try clear hfz21_3
            try clear hfz21_4
            try clear hfz23_0
            try clear hfz23_1
            try clear hfz23_2
            try clear hfz23_3
            try clear hfz23_4
            try clear hfz24_0
            try clear hfz24_1
            try clear hfz24_2
            try clear hfz24_3
            try clear hfz24_4
            try clear hfz26_0
            try clear hfz26_1
            try clear hfz26_2
            try clear hfz26_3
            try clear hfz26_4
            try clear hfz28_0
            try clear hfz28_1
            try clear hfz28_2
            try clear hfz28_3
            try clear hfz28_4
            try clear hfz6_0
            try clear hfz6_1
            try clear hfz6_2
            try clear hfz6_3
            try clear hfz6_4
            try clear hfz9_0
            try clear hfz9_1
            try clear hfz9_2
            try clear hfz9_3
            try clear hfz9_4
            try clear hx173_0
            try clear hx173_1
            try clear hx173_2
            try clear hx173_3
            try clear hx173_4
            try clear hx175_0
            try clear p173
            try clear p175
            try clear p2
            try clear q173
            try clear q175
            obtain ⟨kq, x45_4, rfl, HA, HJ4, BK172, BK174, HB⟩ := hcut
            cases kq with
            | zero => exact absurd HA.out (by simp [spec_sayPairs.j1])
            | succ kj4 =>
              have H := HA.out
              clear HA
              simp only [spec_sayPairs.j1] at H
              by_cases c29 : x45_4 = true
              · subst c29
                have H1 : (some false) = some r := by rw [if_pos rfl] at H; exact H
                clear H
                have H := H1
                clear H1
                obtain rfl := Option.some.inj H
                go_wp2
                go_ret
                exact ⟨by first | rfl | (simp [errW_none, errW_some] <;> rfl) | (simp [*, errW_none, errW_some] <;> rfl), by repeat (first | (with_reducible first | exact HB.out | apply below_alloc | apply pw_below_drewN | apply below_drew1 | refine below_set ?_ GE172.out | refine below_set ?_ GE174.out) | exact HB.out)⟩
              · replace c29 := Bool.eq_false_iff.mpr c29
                subst c29
                have H1 : (if a0_0 = 4 then ((spec_mergeSplit.f kj4 ((rd_T26 l0_4 x3_1).f2)).bind fun bt177 => (if ((rd_T26 l0_4 x3_1).f0) = 3 then ((spec_sayName.f kj4 bt177.1).bind fun t188 => (if t188 = true then (spec_sayPairs.l0 kj4 (wrap64 (x3_1 + 1)) a0_0 a0_1 a0_2 l0_3 l0_4) else (some false))) else (some false))) else (spec_sayPairs.l0 kj4 (wrap64 (x3_1 + 1)) a0_0 a0_1 a0_2 l0_3 l0_4)) = some r := by rw [if_neg (show ¬ (false = true) by decide)] at H; exact H
                clear H
                have H := H1
                clear H1
                by_cases c30 : a0_0 = 4
                · rw [if_pos c30] at H
                  have c30b0 : (a0_0 == 4) = true := beq_iff_eq.mpr c30
                  have c30b1 : (a0_0 != 4) = false := bne_eq_false_iff_eq.mpr c30
                  clear c30
                  replace H := Option.bind_eq_some_iff.mp H
                  obtain ⟨⟨t177, t178, t179, t180, t181, t184⟩, A310, H⟩ := H
                  replace H : (if ((rd_T26 l0_4 x3_1).f0) = 3 then ((spec_sayName.f kj4 t177).bind fun t188 => (if t188 = true then (spec_sayPairs.l0 kj4 (wrap64 (x3_1 + 1)) a0_0 a0_1 a0_2 l0_3 l0_4) else (some false))) else (some false)) = some r := H
                  have A31 := Aside0.mk A310
                  clear A310
                  by_cases c32 : ((rd_T26 l0_4 x3_1).f0) = 3
                  · rw [if_pos c32] at H
                    have c32b0 : (((rd_T26 l0_4 x3_1).f0) == 3) = true := beq_iff_eq.mpr c32
                    have c32b1 : (((rd_T26 l0_4 x3_1).f0) != 3) = false := bne_eq_false_iff_eq.mpr c32
                    clear c32
                    replace H := Option.bind_eq_some_iff.mp H
                    obtain ⟨t188, A330, H⟩ := H
                    replace H : (if t188 = true then (spec_sayPairs.l0 kj4 (wrap64 (x3_1 + 1)) a0_0 a0_1 a0_2 l0_3 l0_4) else (some false)) = some r := H
                    have A33 := Aside0.mk A330
                    clear A330
                    by_cases c34 : t188 = true
                    · subst c34
                      have H1 : (spec_sayPairs.l0 kj4 (wrap64 (x3_1 + 1)) a0_0 a0_1 a0_2 l0_3 l0_4) = some r := by rw [if_pos rfl] at H; exact H
                      clear H
                      have H := H1
                      clear H1
                      have H' := Aside0.mk H
                      clear H
                      have hnb35 := NB172_174.out
                      have hnc35 := NB174_172.out
                      have hcz36_0 : wc.cell? ⟨gb172, 0, none⟩ = some (.int .i64 a0_0) := (blk_cell BK172.out 0).trans rfl
                      have hcz36_1 : wc.cell? ⟨gb172, 1, none⟩ = some (.int .i64 a0_1) := (blk_cell BK172.out 1).trans rfl
                      have hcz36_2 : wc.cell? ⟨gb172, 2, none⟩ = some (.string a0_2) := (blk_cell BK172.out 2).trans rfl
                      have hcz36_3 : wc.cell? ⟨gb172, 3, none⟩ = some (.slice A0_3 l0_3.length c0_3) := (blk_cell BK172.out 3).trans rfl
                      have hcz36_4 : wc.cell? ⟨gb172, 4, none⟩ = some (.slice (some ad173) l0_4.length c0_4) := (blk_cell BK172.out 4).trans rfl
                      have hfz36_0 := blk_frozen BK172.out 0
                      have hfz36_1 := blk_frozen BK172.out 1
                      have hfz36_2 := blk_frozen BK172.out 2
                      have hfz36_3 := blk_frozen BK172.out 3
                      have hfz36_4 := blk_frozen BK172.out 4
                      have hcz37_0 : wc.cell? ⟨gb174, 0, none⟩ = some (.int .i64 ((rd_T26 l0_4 x3_1).f0)) := (blk_cell BK174.out 0).trans rfl
                      have hcz37_1 : wc.cell? ⟨gb174, 1, none⟩ = some (.int .i64 ((rd_T26 l0_4 x3_1).f1)) := (blk_cell BK174.out 1).trans rfl
                      have hcz37_2 : wc.cell? ⟨gb174, 2, none⟩ = some (.string ((rd_T26 l0_4 x3_1).f2)) := (blk_cell BK174.out 2).trans rfl
                      have hcz37_3 : wc.cell? ⟨gb174, 3, none⟩ = some (.slice A173_3 ((rd_T26 l0_4 x3_1).f3).length c173_3) := (blk_cell BK174.out 3).trans rfl
                      have hcz37_4 : wc.cell? ⟨gb174, 4, none⟩ = some (.slice A173_4 ((rd_T26 l0_4 x3_1).f4).length c173_4) := (blk_cell BK174.out 4).trans rfl
                      have hfz37_0 := blk_frozen BK174.out 0
                      have hfz37_1 := blk_frozen BK174.out 1
                      have hfz37_2 := blk_frozen BK174.out 2
                      have hfz37_3 := blk_frozen BK174.out 3
                      have hfz37_4 := blk_frozen BK174.out 4
                      go_wp2_with (first | ((with_reducible refine gate_callee (f := 32) rfl ?_); refine goesL_ (some 52) rfl rfl Tryz.func32 (by kernel_rfl) rfl #[.string ((rd_T26 l0_4 x3_1).f2)] rfl (by (try simp only [List.map_toArray, List.map_cons, List.map_nil]); first | done | rfl | (simp only [List.length_drop, List.length_take]; rfl)) ?_; (with_reducible refine (spec_mergeSplit.calls kj4 ((rd_T26 l0_4 x3_1).f2) t177 t178 t179 t180 t181 t184 _ A31.out).mono ?_); rintro e w38 ⟨v182, v185, rfl, ho0, ho1, hb⟩; refine ⟨_, rfl, ?_⟩; have n0_ := Aside0.mk (Kd.R_lower ho0 (below_size (by repeat (first | (with_reducible first | exact HB.out | apply below_alloc | apply pw_below_drewN | apply below_drew1 | refine below_set ?_ GE172.out | refine below_set ?_ GE174.out) | exact HB.out)))); have n1_ := Aside0.mk (Kd.R_lower (Kd.R_newB (Kd.R_newB ho1 (g := gb172) (o := .cells #[.int .i64 a0_0, .int .i64 a0_1, .string a0_2, .slice A0_3 l0_3.length c0_3, .slice (some ad173) l0_4.length c0_4] 26 (0, 0)) (by (with_reducible repeat (first | refine blk_drewN ?_ _ | refine blk_drew ?_ | refine blk_alloc ?_ _)); exact BK172.out)) (g := gb174) (o := .cells #[.int .i64 ((rd_T26 l0_4 x3_1).f0), .int .i64 ((rd_T26 l0_4 x3_1).f1), .string ((rd_T26 l0_4 x3_1).f2), .slice A173_3 ((rd_T26 l0_4 x3_1).f3).length c173_3, .slice A173_4 ((rd_T26 l0_4 x3_1).f4).length c173_4] 26 (0, 0)) (by (with_reducible repeat (first | refine blk_drewN ?_ _ | refine blk_drew ?_ | refine blk_alloc ?_ _)); exact BK174.out)) (below_size (by repeat (first | (with_reducible first | exact HB.out | apply below_alloc | apply pw_below_drewN | apply below_drew1 | refine below_set ?_ GE172.out | refine below_set ?_ GE174.out) | exact HB.out)))); have n2_ := Aside0.mk (blk_below (g := gb172) (o := .cells #[.int .i64 a0_0, .int .i64 a0_1, .string a0_2, .slice A0_3 l0_3.length c0_3, .slice (some ad173) l0_4.length c0_4] 26 (0, 0)) (by (with_reducible repeat (first | refine blk_drewN ?_ _ | refine blk_drew ?_ | refine blk_alloc ?_ _)); exact BK172.out) hb); have n3_ := Aside0.mk (blk_below (g := gb174) (o := .cells #[.int .i64 ((rd_T26 l0_4 x3_1).f0), .int .i64 ((rd_T26 l0_4 x3_1).f1), .string ((rd_T26 l0_4 x3_1).f2), .slice A173_3 ((rd_T26 l0_4 x3_1).f3).length c173_3, .slice A173_4 ((rd_T26 l0_4 x3_1).f4).length c173_4] 26 (0, 0)) (by (with_reducible repeat (first | refine blk_drewN ?_ _ | refine blk_drew ?_ | refine blk_alloc ?_ _)); exact BK174.out) hb); have n4_ := Aside0.mk (below_step (by repeat (first | (with_reducible first | exact HB.out | apply below_alloc | apply pw_below_drewN | apply below_drew1 | refine below_set ?_ GE172.out | refine below_set ?_ GE174.out) | exact HB.out)) hb); clear BK172; clear BK174; clear HB; have HO183 := n0_; have HO186 := n1_; have BK172 := n2_; have BK174 := n3_; have HB := n4_; clear n0_ n1_ n2_ n3_ n4_; (try clear hb); (try clear hb2); (try clear hk); (try clear hi); (try clear ho0); (try clear ho1)) | ((with_reducible refine gate_dst (N := 6) rfl ?_); (try (refine gate_guard (by rfl) ?_; dsimp only)); refine box_event ?hg (N := 6) ?hd (cs := #[.int .i64 0, .int .i64 0, .string (⟨#[]⟩ : ByteArray), .slice none 0 0, .slice none 0 0]) (t := 26) ?hr ?_; (case hd => rfl); (case hg => rfl); (case hr => first | (go_simp; done) | (go_simp; rfl)); intro gb187 hg w39 hbox hb; have n0_ := Aside0.mk (Kd.R_below (by (with_reducible repeat (first | apply Kd.R_alloc | apply Kd.R_drewN | apply Kd.R_drew)); exact HO183.out) hb); have n1_ := Aside0.mk (Kd.R_below (Kd.R_elderB (by (with_reducible repeat (first | apply Kd.R_alloc | apply Kd.R_drewN | apply Kd.R_drew)); exact HO186.out) gb187 (Nat.le_of_eq hg.symm)) hb); have n2_ := Aside0.mk (blk_below (g := gb172) (o := .cells #[.int .i64 a0_0, .int .i64 a0_1, .string a0_2, .slice A0_3 l0_3.length c0_3, .slice (some ad173) l0_4.length c0_4] 26 (0, 0)) (by (with_reducible repeat (first | refine blk_drewN ?_ _ | refine blk_drew ?_ | refine blk_alloc ?_ _)); exact BK172.out) hb); have n3_ := Aside0.mk (blk_below (g := gb174) (o := .cells #[.int .i64 ((rd_T26 l0_4 x3_1).f0), .int .i64 ((rd_T26 l0_4 x3_1).f1), .string ((rd_T26 l0_4 x3_1).f2), .slice A173_3 ((rd_T26 l0_4 x3_1).f3).length c173_3, .slice A173_4 ((rd_T26 l0_4 x3_1).f4).length c173_4] 26 (0, 0)) (by (with_reducible repeat (first | refine blk_drewN ?_ _ | refine blk_drew ?_ | refine blk_alloc ?_ _)); exact BK174.out) hb); have n4_ := Aside0.mk (below_step (by repeat (first | (with_reducible first | exact HB.out | apply below_alloc | apply pw_below_drewN | apply below_drew1 | refine below_set ?_ GE172.out | refine below_set ?_ GE174.out) | exact HB.out)) hb); have n5_ := Aside0.mk (hbox); have n6_ := Aside0.mk ((by rw [hg]; exact (below_size (by repeat (first | (with_reducible first | exact HB.out | apply below_alloc | apply pw_below_drewN | apply below_drew1 | refine below_set ?_ GE172.out | refine below_set ?_ GE174.out) | exact HB.out))) : w.heap.size ≤ gb187)); have n7_ := Aside0.mk ((by rw [hg]; exact (below_size (by repeat (first | (with_reducible first | exact HB.out | apply below_alloc | apply pw_below_drewN | apply below_drew1 | refine below_set ?_ GE172.out | refine below_set ?_ GE174.out) | exact HB.out))) : w.heap.size ≤ gb187)); have n8_ := Aside0.mk ((by rw [hg]; exact Nat.ne_of_lt (blk_lt (g := gb172) (o := .cells #[.int .i64 a0_0, .int .i64 a0_1, .string a0_2, .slice A0_3 l0_3.length c0_3, .slice (some ad173) l0_4.length c0_4] 26 (0, 0)) (by (with_reducible repeat (first | refine blk_drewN ?_ _ | refine blk_drew ?_ | refine blk_alloc ?_ _)); exact BK172.out)) : gb172 ≠ gb187)); have n9_ := Aside0.mk ((by rw [hg]; exact Nat.ne_of_gt (blk_lt (g := gb172) (o := .cells #[.int .i64 a0_0, .int .i64 a0_1, .string a0_2, .slice A0_3 l0_3.length c0_3, .slice (some ad173) l0_4.length c0_4] 26 (0, 0)) (by (with_reducible repeat (first | refine blk_drewN ?_ _ | refine blk_drew ?_ | refine blk_alloc ?_ _)); exact BK172.out)) : gb187 ≠ gb172)); have n10_ := Aside0.mk ((by rw [hg]; exact Nat.ne_of_lt (blk_lt (g := gb174) (o := .cells #[.int .i64 ((rd_T26 l0_4 x3_1).f0), .int .i64 ((rd_T26 l0_4 x3_1).f1), .string ((rd_T26 l0_4 x3_1).f2), .slice A173_3 ((rd_T26 l0_4 x3_1).f3).length c173_3, .slice A173_4 ((rd_T26 l0_4 x3_1).f4).length c173_4] 26 (0, 0)) (by (with_reducible repeat (first | refine blk_drewN ?_ _ | refine blk_drew ?_ | refine blk_alloc ?_ _)); exact BK174.out)) : gb174 ≠ gb187)); have n11_ := Aside0.mk ((by rw [hg]; exact Nat.ne_of_gt (blk_lt (g := gb174) (o := .cells #[.int .i64 ((rd_T26 l0_4 x3_1).f0), .int .i64 ((rd_T26 l0_4 x3_1).f1), .string ((rd_T26 l0_4 x3_1).f2), .slice A173_3 ((rd_T26 l0_4 x3_1).f3).length c173_3, .slice A173_4 ((rd_T26 l0_4 x3_1).f4).length c173_4] 26 (0, 0)) (by (with_reducible repeat (first | refine blk_drewN ?_ _ | refine blk_drew ?_ | refine blk_alloc ?_ _)); exact BK174.out)) : gb187 ≠ gb174)); clear HO183; clear HO186; clear BK172; clear BK174; clear HB; have HO183 := n0_; have HO186 := n1_; have BK172 := n2_; have BK174 := n3_; have HB := n4_; have BK187 := n5_; have GW187 := n6_; have GE187 := n7_; have NB172_187 := n8_; have NB187_172 := n9_; have NB174_187 := n10_; have NB187_174 := n11_; clear n0_ n1_ n2_ n3_ n4_ n5_ n6_ n7_ n8_ n9_ n10_ n11_; clear hb hbox hg; have hnb40 := NB187_172.out; have hnc40 := NB172_187.out; have hnb41 := NB187_174.out; have hnc41 := NB174_187.out; have hcz42_0 : w39.cell? ⟨gb187, 0, none⟩ = some (.int .i64 0) := (blk_cell BK187.out 0).trans rfl; have hcz42_1 : w39.cell? ⟨gb187, 1, none⟩ = some (.int .i64 0) := (blk_cell BK187.out 1).trans rfl; have hcz42_2 : w39.cell? ⟨gb187, 2, none⟩ = some (.string (⟨#[]⟩ : ByteArray)) := (blk_cell BK187.out 2).trans rfl; have hcz42_3 : w39.cell? ⟨gb187, 3, none⟩ = some (.slice none 0 0) := (blk_cell BK187.out 3).trans rfl; have hcz42_4 : w39.cell? ⟨gb187, 4, none⟩ = some (.slice none 0 0) := (blk_cell BK187.out 4).trans rfl; have hfz42_0 := blk_frozen BK187.out 0; have hfz42_1 := blk_frozen BK187.out 1; have hfz42_2 := blk_frozen BK187.out 2; have hfz42_3 := blk_frozen BK187.out 3; have hfz42_4 := blk_frozen BK187.out 4; obtain ⟨Ao43, co43, eo43⟩ := Kd.R_slice HO183.out; subst eo43; obtain ⟨Ao44, co44, eo44⟩ := Kd.R_slice HO186.out; subst eo44; have hcz45_0 : w39.cell? ⟨gb174, 0, none⟩ = some (.int .i64 ((rd_T26 l0_4 x3_1).f0)) := (blk_cell BK174.out 0).trans rfl; have hcz45_1 : w39.cell? ⟨gb174, 1, none⟩ = some (.int .i64 ((rd_T26 l0_4 x3_1).f1)) := (blk_cell BK174.out 1).trans rfl; have hcz45_2 : w39.cell? ⟨gb174, 2, none⟩ = some (.string ((rd_T26 l0_4 x3_1).f2)) := (blk_cell BK174.out 2).trans rfl; have hcz45_3 : w39.cell? ⟨gb174, 3, none⟩ = some (.slice A173_3 ((rd_T26 l0_4 x3_1).f3).length c173_3) := (blk_cell BK174.out 3).trans rfl; have hcz45_4 : w39.cell? ⟨gb174, 4, none⟩ = some (.slice A173_4 ((rd_T26 l0_4 x3_1).f4).length c173_4) := (blk_cell BK174.out 4).trans rfl; have hfz45_0 := blk_frozen BK174.out 0; have hfz45_1 := blk_frozen BK174.out 1; have hfz45_2 := blk_frozen BK174.out 2; have hfz45_3 := blk_frozen BK174.out 3; have hfz45_4 := blk_frozen BK174.out 4) | (go_at_call 28; (with_reducible refine (spec_sayName.calls kj4 t177 true _ A33.out).mono ?_); rintro e w' ⟨rfl, ⟨nd, rfl⟩⟩))
                      go_roundg kj4
                      case measure => have := HK1.out; have := HJ4.out; omega
                      case rel => exact ⟨(wrap64 (x3_1 + 1)), (by first | rfl | (simp; done) | (simp [*]; done)), H', ⟨by have := HK1.out; have := HJ4.out; omega⟩, ⟨by (with_reducible repeat (first | refine blk_drewN ?_ _ | refine blk_drew ?_ | refine blk_alloc ?_ _)); refine blk_far ?_ NB172_187.out _; (with_reducible repeat (first | refine blk_drewN ?_ _ | refine blk_drew ?_ | refine blk_alloc ?_ _)); refine blk_far ?_ NB172_187.out _; (with_reducible repeat (first | refine blk_drewN ?_ _ | refine blk_drew ?_ | refine blk_alloc ?_ _)); refine blk_far ?_ NB172_187.out _; (with_reducible repeat (first | refine blk_drewN ?_ _ | refine blk_drew ?_ | refine blk_alloc ?_ _)); refine blk_far ?_ NB172_187.out _; (with_reducible repeat (first | refine blk_drewN ?_ _ | refine blk_drew ?_ | refine blk_alloc ?_ _)); refine blk_far ?_ NB172_187.out _; (with_reducible repeat (first | refine blk_drewN ?_ _ | refine blk_drew ?_ | refine blk_alloc ?_ _)); exact BK172.out⟩, ⟨by repeat (first | (with_reducible first | exact HB.out | apply below_alloc | apply pw_below_drewN | apply below_drew1 | refine below_set ?_ GE172.out | refine below_set ?_ GE174.out | refine below_set ?_ GE187.out) | exact HB.out)⟩⟩
                    · replace c34 := Bool.eq_false_iff.mpr c34
                      subst c34
                      have H1 : (some false) = some r := by rw [if_neg (show ¬ (false = true) by decide)] at H; exact H
                      clear H
                      have H := H1
                      clear H1
                      obtain rfl := Option.some.inj H
                      have hnb46 := NB172_174.out
                      have hnc46 := NB174_172.out
                      have hcz47_0 : wc.cell? ⟨gb172, 0, none⟩ = some (.int .i64 a0_0) := (blk_cell BK172.out 0).trans rfl
                      have hcz47_1 : wc.cell? ⟨gb172, 1, none⟩ = some (.int .i64 a0_1) := (blk_cell BK172.out 1).trans rfl
                      have hcz47_2 : wc.cell? ⟨gb172, 2, none⟩ = some (.string a0_2) := (blk_cell BK172.out 2).trans rfl
                      have hcz47_3 : wc.cell? ⟨gb172, 3, none⟩ = some (.slice A0_3 l0_3.length c0_3) := (blk_cell BK172.out 3).trans rfl
                      have hcz47_4 : wc.cell? ⟨gb172, 4, none⟩ = some (.slice (some ad173) l0_4.length c0_4) := (blk_cell BK172.out 4).trans rfl
                      have hfz47_0 := blk_frozen BK172.out 0
                      have hfz47_1 := blk_frozen BK172.out 1
                      have hfz47_2 := blk_frozen BK172.out 2
                      have hfz47_3 := blk_frozen BK172.out 3
                      have hfz47_4 := blk_frozen BK172.out 4
                      have hcz48_0 : wc.cell? ⟨gb174, 0, none⟩ = some (.int .i64 ((rd_T26 l0_4 x3_1).f0)) := (blk_cell BK174.out 0).trans rfl
                      have hcz48_1 : wc.cell? ⟨gb174, 1, none⟩ = some (.int .i64 ((rd_T26 l0_4 x3_1).f1)) := (blk_cell BK174.out 1).trans rfl
                      have hcz48_2 : wc.cell? ⟨gb174, 2, none⟩ = some (.string ((rd_T26 l0_4 x3_1).f2)) := (blk_cell BK174.out 2).trans rfl
                      have hcz48_3 : wc.cell? ⟨gb174, 3, none⟩ = some (.slice A173_3 ((rd_T26 l0_4 x3_1).f3).length c173_3) := (blk_cell BK174.out 3).trans rfl
                      have hcz48_4 : wc.cell? ⟨gb174, 4, none⟩ = some (.slice A173_4 ((rd_T26 l0_4 x3_1).f4).length c173_4) := (blk_cell BK174.out 4).trans rfl
                      have hfz48_0 := blk_frozen BK174.out 0
                      have hfz48_1 := blk_frozen BK174.out 1
                      have hfz48_2 := blk_frozen BK174.out 2
                      have hfz48_3 := blk_frozen BK174.out 3
                      have hfz48_4 := blk_frozen BK174.out 4
                      go_wp2_with (first | ((with_reducible refine gate_callee (f := 32) rfl ?_); refine goesL_ (some 52) rfl rfl Tryz.func32 (by kernel_rfl) rfl #[.string ((rd_T26 l0_4 x3_1).f2)] rfl (by (try simp only [List.map_toArray, List.map_cons, List.map_nil]); first | done | rfl | (simp only [List.length_drop, List.length_take]; rfl)) ?_; (with_reducible refine (spec_mergeSplit.calls kj4 ((rd_T26 l0_4 x3_1).f2) t177 t178 t179 t180 t181 t184 _ A31.out).mono ?_); rintro e w49 ⟨v182, v185, rfl, ho0, ho1, hb⟩; refine ⟨_, rfl, ?_⟩; have n0_ := Aside0.mk (Kd.R_lower ho0 (below_size (by repeat (first | (with_reducible first | exact HB.out | apply below_alloc | apply pw_below_drewN | apply below_drew1 | refine below_set ?_ GE172.out | refine below_set ?_ GE174.out) | exact HB.out)))); have n1_ := Aside0.mk (Kd.R_lower (Kd.R_newB (Kd.R_newB ho1 (g := gb172) (o := .cells #[.int .i64 a0_0, .int .i64 a0_1, .string a0_2, .slice A0_3 l0_3.length c0_3, .slice (some ad173) l0_4.length c0_4] 26 (0, 0)) (by (with_reducible repeat (first | refine blk_drewN ?_ _ | refine blk_drew ?_ | refine blk_alloc ?_ _)); exact BK172.out)) (g := gb174) (o := .cells #[.int .i64 ((rd_T26 l0_4 x3_1).f0), .int .i64 ((rd_T26 l0_4 x3_1).f1), .string ((rd_T26 l0_4 x3_1).f2), .slice A173_3 ((rd_T26 l0_4 x3_1).f3).length c173_3, .slice A173_4 ((rd_T26 l0_4 x3_1).f4).length c173_4] 26 (0, 0)) (by (with_reducible repeat (first | refine blk_drewN ?_ _ | refine blk_drew ?_ | refine blk_alloc ?_ _)); exact BK174.out)) (below_size (by repeat (first | (with_reducible first | exact HB.out | apply below_alloc | apply pw_below_drewN | apply below_drew1 | refine below_set ?_ GE172.out | refine below_set ?_ GE174.out) | exact HB.out)))); have n2_ := Aside0.mk (blk_below (g := gb172) (o := .cells #[.int .i64 a0_0, .int .i64 a0_1, .string a0_2, .slice A0_3 l0_3.length c0_3, .slice (some ad173) l0_4.length c0_4] 26 (0, 0)) (by (with_reducible repeat (first | refine blk_drewN ?_ _ | refine blk_drew ?_ | refine blk_alloc ?_ _)); exact BK172.out) hb); have n3_ := Aside0.mk (blk_below (g := gb174) (o := .cells #[.int .i64 ((rd_T26 l0_4 x3_1).f0), .int .i64 ((rd_T26 l0_4 x3_1).f1), .string ((rd_T26 l0_4 x3_1).f2), .slice A173_3 ((rd_T26 l0_4 x3_1).f3).length c173_3, .slice A173_4 ((rd_T26 l0_4 x3_1).f4).length c173_4] 26 (0, 0)) (by (with_reducible repeat (first | refine blk_drewN ?_ _ | refine blk_drew ?_ | refine blk_alloc ?_ _)); exact BK174.out) hb); have n4_ := Aside0.mk (below_step (by repeat (first | (with_reducible first | exact HB.out | apply below_alloc | apply pw_below_drewN | apply below_drew1 | refine below_set ?_ GE172.out | refine below_set ?_ GE174.out) | exact HB.out)) hb); clear BK172; clear BK174; clear HB; have HO183 := n0_; have HO186 := n1_; have BK172 := n2_; have BK174 := n3_; have HB := n4_; clear n0_ n1_ n2_ n3_ n4_; (try clear hb); (try clear hb2); (try clear hk); (try clear hi); (try clear ho0); (try clear ho1)) | ((with_reducible refine gate_dst (N := 6) rfl ?_); (try (refine gate_guard (by rfl) ?_; dsimp only)); refine box_event ?hg (N := 6) ?hd (cs := #[.int .i64 0, .int .i64 0, .string (⟨#[]⟩ : ByteArray), .slice none 0 0, .slice none 0 0]) (t := 26) ?hr ?_; (case hd => rfl); (case hg => rfl); (case hr => first | (go_simp; done) | (go_simp; rfl)); intro gb187 hg w50 hbox hb; have n0_ := Aside0.mk (Kd.R_below (by (with_reducible repeat (first | apply Kd.R_alloc | apply Kd.R_drewN | apply Kd.R_drew)); exact HO183.out) hb); have n1_ := Aside0.mk (Kd.R_below (Kd.R_elderB (by (with_reducible repeat (first | apply Kd.R_alloc | apply Kd.R_drewN | apply Kd.R_drew)); exact HO186.out) gb187 (Nat.le_of_eq hg.symm)) hb); have n2_ := Aside0.mk (blk_below (g := gb172) (o := .cells #[.int .i64 a0_0, .int .i64 a0_1, .string a0_2, .slice A0_3 l0_3.length c0_3, .slice (some ad173) l0_4.length c0_4] 26 (0, 0)) (by (with_reducible repeat (first | refine blk_drewN ?_ _ | refine blk_drew ?_ | refine blk_alloc ?_ _)); exact BK172.out) hb); have n3_ := Aside0.mk (blk_below (g := gb174) (o := .cells #[.int .i64 ((rd_T26 l0_4 x3_1).f0), .int .i64 ((rd_T26 l0_4 x3_1).f1), .string ((rd_T26 l0_4 x3_1).f2), .slice A173_3 ((rd_T26 l0_4 x3_1).f3).length c173_3, .slice A173_4 ((rd_T26 l0_4 x3_1).f4).length c173_4] 26 (0, 0)) (by (with_reducible repeat (first | refine blk_drewN ?_ _ | refine blk_drew ?_ | refine blk_alloc ?_ _)); exact BK174.out) hb); have n4_ := Aside0.mk (below_step (by repeat (first | (with_reducible first | exact HB.out | apply below_alloc | apply pw_below_drewN | apply below_drew1 | refine below_set ?_ GE172.out | refine below_set ?_ GE174.out) | exact HB.out)) hb); have n5_ := Aside0.mk (hbox); have n6_ := Aside0.mk ((by rw [hg]; exact (below_size (by repeat (first | (with_reducible first | exact HB.out | apply below_alloc | apply pw_below_drewN | apply below_drew1 | refine below_set ?_ GE172.out | refine below_set ?_ GE174.out) | exact HB.out))) : w.heap.size ≤ gb187)); have n7_ := Aside0.mk ((by rw [hg]; exact (below_size (by repeat (first | (with_reducible first | exact HB.out | apply below_alloc | apply pw_below_drewN | apply below_drew1 | refine below_set ?_ GE172.out | refine below_set ?_ GE174.out) | exact HB.out))) : w.heap.size ≤ gb187)); have n8_ := Aside0.mk ((by rw [hg]; exact Nat.ne_of_lt (blk_lt (g := gb172) (o := .cells #[.int .i64 a0_0, .int .i64 a0_1, .string a0_2, .slice A0_3 l0_3.length c0_3, .slice (some ad173) l0_4.length c0_4] 26 (0, 0)) (by (with_reducible repeat (first | refine blk_drewN ?_ _ | refine blk_drew ?_ | refine blk_alloc ?_ _)); exact BK172.out)) : gb172 ≠ gb187)); have n9_ := Aside0.mk ((by rw [hg]; exact Nat.ne_of_gt (blk_lt (g := gb172) (o := .cells #[.int .i64 a0_0, .int .i64 a0_1, .string a0_2, .slice A0_3 l0_3.length c0_3, .slice (some ad173) l0_4.length c0_4] 26 (0, 0)) (by (with_reducible repeat (first | refine blk_drewN ?_ _ | refine blk_drew ?_ | refine blk_alloc ?_ _)); exact BK172.out)) : gb187 ≠ gb172)); have n10_ := Aside0.mk ((by rw [hg]; exact Nat.ne_of_lt (blk_lt (g := gb174) (o := .cells #[.int .i64 ((rd_T26 l0_4 x3_1).f0), .int .i64 ((rd_T26 l0_4 x3_1).f1), .string ((rd_T26 l0_4 x3_1).f2), .slice A173_3 ((rd_T26 l0_4 x3_1).f3).length c173_3, .slice A173_4 ((rd_T26 l0_4 x3_1).f4).length c173_4] 26 (0, 0)) (by (with_reducible repeat (first | refine blk_drewN ?_ _ | refine blk_drew ?_ | refine blk_alloc ?_ _)); exact BK174.out)) : gb174 ≠ gb187)); have n11_ := Aside0.mk ((by rw [hg]; exact Nat.ne_of_gt (blk_lt (g := gb174) (o := .cells #[.int .i64 ((rd_T26 l0_4 x3_1).f0), .int .i64 ((rd_T26 l0_4 x3_1).f1), .string ((rd_T26 l0_4 x3_1).f2), .slice A173_3 ((rd_T26 l0_4 x3_1).f3).length c173_3, .slice A173_4 ((rd_T26 l0_4 x3_1).f4).length c173_4] 26 (0, 0)) (by (with_reducible repeat (first | refine blk_drewN ?_ _ | refine blk_drew ?_ | refine blk_alloc ?_ _)); exact BK174.out)) : gb187 ≠ gb174)); clear HO183; clear HO186; clear BK172; clear BK174; clear HB; have HO183 := n0_; have HO186 := n1_; have BK172 := n2_; have BK174 := n3_; have HB := n4_; have BK187 := n5_; have GW187 := n6_; have GE187 := n7_; have NB172_187 := n8_; have NB187_172 := n9_; have NB174_187 := n10_; have NB187_174 := n11_; clear n0_ n1_ n2_ n3_ n4_ n5_ n6_ n7_ n8_ n9_ n10_ n11_; clear hb hbox hg; have hnb51 := NB187_172.out; have hnc51 := NB172_187.out; have hnb52 := NB187_174.out; have hnc52 := NB174_187.out; have hcz53_0 : w50.cell? ⟨gb187, 0, none⟩ = some (.int .i64 0) := (blk_cell BK187.out 0).trans rfl; have hcz53_1 : w50.cell? ⟨gb187, 1, none⟩ = some (.int .i64 0) := (blk_cell BK187.out 1).trans rfl; have hcz53_2 : w50.cell? ⟨gb187, 2, none⟩ = some (.string (⟨#[]⟩ : ByteArray)) := (blk_cell BK187.out 2).trans rfl; have hcz53_3 : w50.cell? ⟨gb187, 3, none⟩ = some (.slice none 0 0) := (blk_cell BK187.out 3).trans rfl; have hcz53_4 : w50.cell? ⟨gb187, 4, none⟩ = some (.slice none 0 0) := (blk_cell BK187.out 4).trans rfl; have hfz53_0 := blk_frozen BK187.out 0; have hfz53_1 := blk_frozen BK187.out 1; have hfz53_2 := blk_frozen BK187.out 2; have hfz53_3 := blk_frozen BK187.out 3; have hfz53_4 := blk_frozen BK187.out 4; obtain ⟨Ao54, co54, eo54⟩ := Kd.R_slice HO183.out; subst eo54; obtain ⟨Ao55, co55, eo55⟩ := Kd.R_slice HO186.out; subst eo55; have hcz56_0 : w50.cell? ⟨gb174, 0, none⟩ = some (.int .i64 ((rd_T26 l0_4 x3_1).f0)) := (blk_cell BK174.out 0).trans rfl; have hcz56_1 : w50.cell? ⟨gb174, 1, none⟩ = some (.int .i64 ((rd_T26 l0_4 x3_1).f1)) := (blk_cell BK174.out 1).trans rfl; have hcz56_2 : w50.cell? ⟨gb174, 2, none⟩ = some (.string ((rd_T26 l0_4 x3_1).f2)) := (blk_cell BK174.out 2).trans rfl; have hcz56_3 : w50.cell? ⟨gb174, 3, none⟩ = some (.slice A173_3 ((rd_T26 l0_4 x3_1).f3).length c173_3) := (blk_cell BK174.out 3).trans rfl; have hcz56_4 : w50.cell? ⟨gb174, 4, none⟩ = some (.slice A173_4 ((rd_T26 l0_4 x3_1).f4).length c173_4) := (blk_cell BK174.out 4).trans rfl; have hfz56_0 := blk_frozen BK174.out 0; have hfz56_1 := blk_frozen BK174.out 1; have hfz56_2 := blk_frozen BK174.out 2; have hfz56_3 := blk_frozen BK174.out 3; have hfz56_4 := blk_frozen BK174.out 4) | (go_at_call 28; (with_reducible refine (spec_sayName.calls kj4 t177 false _ A33.out).mono ?_); rintro e w' ⟨rfl, ⟨nd, rfl⟩⟩))
                      go_ret
                      exact ⟨by first | rfl | (simp [errW_none, errW_some] <;> rfl) | (simp [*, errW_none, errW_some] <;> rfl), by repeat (first | (with_reducible first | exact HB.out | apply below_alloc | apply pw_below_drewN | apply below_drew1 | refine below_set ?_ GE172.out | refine below_set ?_ GE174.out | refine below_set ?_ GE187.out) | exact HB.out)⟩
                  · rw [if_neg c32] at H
                    have c32b0 : (((rd_T26 l0_4 x3_1).f0) == 3) = false := beq_eq_false_iff_ne.mpr c32
                    have c32b1 : (((rd_T26 l0_4 x3_1).f0) != 3) = true := bne_iff_ne.mpr c32
                    obtain rfl := Option.some.inj H
                    have hnb57 := NB172_174.out
                    have hnc57 := NB174_172.out
                    have hcz58_0 : wc.cell? ⟨gb172, 0, none⟩ = some (.int .i64 a0_0) := (blk_cell BK172.out 0).trans rfl
                    have hcz58_1 : wc.cell? ⟨gb172, 1, none⟩ = some (.int .i64 a0_1) := (blk_cell BK172.out 1).trans rfl
                    have hcz58_2 : wc.cell? ⟨gb172, 2, none⟩ = some (.string a0_2) := (blk_cell BK172.out 2).trans rfl
                    have hcz58_3 : wc.cell? ⟨gb172, 3, none⟩ = some (.slice A0_3 l0_3.length c0_3) := (blk_cell BK172.out 3).trans rfl
                    have hcz58_4 : wc.cell? ⟨gb172, 4, none⟩ = some (.slice (some ad173) l0_4.length c0_4) := (blk_cell BK172.out 4).trans rfl
                    have hfz58_0 := blk_frozen BK172.out 0
                    have hfz58_1 := blk_frozen BK172.out 1
                    have hfz58_2 := blk_frozen BK172.out 2
                    have hfz58_3 := blk_frozen BK172.out 3
                    have hfz58_4 := blk_frozen BK172.out 4
                    have hcz59_0 : wc.cell? ⟨gb174, 0, none⟩ = some (.int .i64 ((rd_T26 l0_4 x3_1).f0)) := (blk_cell BK174.out 0).trans rfl
                    have hcz59_1 : wc.cell? ⟨gb174, 1, none⟩ = some (.int .i64 ((rd_T26 l0_4 x3_1).f1)) := (blk_cell BK174.out 1).trans rfl
                    have hcz59_2 : wc.cell? ⟨gb174, 2, none⟩ = some (.string ((rd_T26 l0_4 x3_1).f2)) := (blk_cell BK174.out 2).trans rfl
                    have hcz59_3 : wc.cell? ⟨gb174, 3, none⟩ = some (.slice A173_3 ((rd_T26 l0_4 x3_1).f3).length c173_3) := (blk_cell BK174.out 3).trans rfl
                    have hcz59_4 : wc.cell? ⟨gb174, 4, none⟩ = some (.slice A173_4 ((rd_T26 l0_4 x3_1).f4).length c173_4) := (blk_cell BK174.out 4).trans rfl
                    have hfz59_0 := blk_frozen BK174.out 0
                    have hfz59_1 := blk_frozen BK174.out 1
                    have hfz59_2 := blk_frozen BK174.out 2
                    have hfz59_3 := blk_frozen BK174.out 3
                    have hfz59_4 := blk_frozen BK174.out 4
                    go_wp2_with (first | ((with_reducible refine gate_callee (f := 32) rfl ?_); refine goesL_ (some 52) rfl rfl Tryz.func32 (by kernel_rfl) rfl #[.string ((rd_T26 l0_4 x3_1).f2)] rfl (by (try simp only [List.map_toArray, List.map_cons, List.map_nil]); first | done | rfl | (simp only [List.length_drop, List.length_take]; rfl)) ?_; (with_reducible refine (spec_mergeSplit.calls kj4 ((rd_T26 l0_4 x3_1).f2) t177 t178 t179 t180 t181 t184 _ A31.out).mono ?_); rintro e w60 ⟨v182, v185, rfl, ho0, ho1, hb⟩; refine ⟨_, rfl, ?_⟩; have n0_ := Aside0.mk (Kd.R_lower ho0 (below_size (by repeat (first | (with_reducible first | exact HB.out | apply below_alloc | apply pw_below_drewN | apply below_drew1 | refine below_set ?_ GE172.out | refine below_set ?_ GE174.out) | exact HB.out)))); have n1_ := Aside0.mk (Kd.R_lower (Kd.R_newB (Kd.R_newB ho1 (g := gb172) (o := .cells #[.int .i64 a0_0, .int .i64 a0_1, .string a0_2, .slice A0_3 l0_3.length c0_3, .slice (some ad173) l0_4.length c0_4] 26 (0, 0)) (by (with_reducible repeat (first | refine blk_drewN ?_ _ | refine blk_drew ?_ | refine blk_alloc ?_ _)); exact BK172.out)) (g := gb174) (o := .cells #[.int .i64 ((rd_T26 l0_4 x3_1).f0), .int .i64 ((rd_T26 l0_4 x3_1).f1), .string ((rd_T26 l0_4 x3_1).f2), .slice A173_3 ((rd_T26 l0_4 x3_1).f3).length c173_3, .slice A173_4 ((rd_T26 l0_4 x3_1).f4).length c173_4] 26 (0, 0)) (by (with_reducible repeat (first | refine blk_drewN ?_ _ | refine blk_drew ?_ | refine blk_alloc ?_ _)); exact BK174.out)) (below_size (by repeat (first | (with_reducible first | exact HB.out | apply below_alloc | apply pw_below_drewN | apply below_drew1 | refine below_set ?_ GE172.out | refine below_set ?_ GE174.out) | exact HB.out)))); have n2_ := Aside0.mk (blk_below (g := gb172) (o := .cells #[.int .i64 a0_0, .int .i64 a0_1, .string a0_2, .slice A0_3 l0_3.length c0_3, .slice (some ad173) l0_4.length c0_4] 26 (0, 0)) (by (with_reducible repeat (first | refine blk_drewN ?_ _ | refine blk_drew ?_ | refine blk_alloc ?_ _)); exact BK172.out) hb); have n3_ := Aside0.mk (blk_below (g := gb174) (o := .cells #[.int .i64 ((rd_T26 l0_4 x3_1).f0), .int .i64 ((rd_T26 l0_4 x3_1).f1), .string ((rd_T26 l0_4 x3_1).f2), .slice A173_3 ((rd_T26 l0_4 x3_1).f3).length c173_3, .slice A173_4 ((rd_T26 l0_4 x3_1).f4).length c173_4] 26 (0, 0)) (by (with_reducible repeat (first | refine blk_drewN ?_ _ | refine blk_drew ?_ | refine blk_alloc ?_ _)); exact BK174.out) hb); have n4_ := Aside0.mk (below_step (by repeat (first | (with_reducible first | exact HB.out | apply below_alloc | apply pw_below_drewN | apply below_drew1 | refine below_set ?_ GE172.out | refine below_set ?_ GE174.out) | exact HB.out)) hb); clear BK172; clear BK174; clear HB; have HO183 := n0_; have HO186 := n1_; have BK172 := n2_; have BK174 := n3_; have HB := n4_; clear n0_ n1_ n2_ n3_ n4_; (try clear hb); (try clear hb2); (try clear hk); (try clear hi); (try clear ho0); (try clear ho1)) | ((with_reducible refine gate_dst (N := 6) rfl ?_); (try (refine gate_guard (by rfl) ?_; dsimp only)); refine box_event ?hg (N := 6) ?hd (cs := #[.int .i64 0, .int .i64 0, .string (⟨#[]⟩ : ByteArray), .slice none 0 0, .slice none 0 0]) (t := 26) ?hr ?_; (case hd => rfl); (case hg => rfl); (case hr => first | (go_simp; done) | (go_simp; rfl)); intro gb187 hg w61 hbox hb; have n0_ := Aside0.mk (Kd.R_below (by (with_reducible repeat (first | apply Kd.R_alloc | apply Kd.R_drewN | apply Kd.R_drew)); exact HO183.out) hb); have n1_ := Aside0.mk (Kd.R_below (Kd.R_elderB (by (with_reducible repeat (first | apply Kd.R_alloc | apply Kd.R_drewN | apply Kd.R_drew)); exact HO186.out) gb187 (Nat.le_of_eq hg.symm)) hb); have n2_ := Aside0.mk (blk_below (g := gb172) (o := .cells #[.int .i64 a0_0, .int .i64 a0_1, .string a0_2, .slice A0_3 l0_3.length c0_3, .slice (some ad173) l0_4.length c0_4] 26 (0, 0)) (by (with_reducible repeat (first | refine blk_drewN ?_ _ | refine blk_drew ?_ | refine blk_alloc ?_ _)); exact BK172.out) hb); have n3_ := Aside0.mk (blk_below (g := gb174) (o := .cells #[.int .i64 ((rd_T26 l0_4 x3_1).f0), .int .i64 ((rd_T26 l0_4 x3_1).f1), .string ((rd_T26 l0_4 x3_1).f2), .slice A173_3 ((rd_T26 l0_4 x3_1).f3).length c173_3, .slice A173_4 ((rd_T26 l0_4 x3_1).f4).length c173_4] 26 (0, 0)) (by (with_reducible repeat (first | refine blk_drewN ?_ _ | refine blk_drew ?_ | refine blk_alloc ?_ _)); exact BK174.out) hb); have n4_ := Aside0.mk (below_step (by repeat (first | (with_reducible first | exact HB.out | apply below_alloc | apply pw_below_drewN | apply below_drew1 | refine below_set ?_ GE172.out | refine below_set ?_ GE174.out) | exact HB.out)) hb); have n5_ := Aside0.mk (hbox); have n6_ := Aside0.mk ((by rw [hg]; exact (below_size (by repeat (first | (with_reducible first | exact HB.out | apply below_alloc | apply pw_below_drewN | apply below_drew1 | refine below_set ?_ GE172.out | refine below_set ?_ GE174.out) | exact HB.out))) : w.heap.size ≤ gb187)); have n7_ := Aside0.mk ((by rw [hg]; exact (below_size (by repeat (first | (with_reducible first | exact HB.out | apply below_alloc | apply pw_below_drewN | apply below_drew1 | refine below_set ?_ GE172.out | refine below_set ?_ GE174.out) | exact HB.out))) : w.heap.size ≤ gb187)); have n8_ := Aside0.mk ((by rw [hg]; exact Nat.ne_of_lt (blk_lt (g := gb172) (o := .cells #[.int .i64 a0_0, .int .i64 a0_1, .string a0_2, .slice A0_3 l0_3.length c0_3, .slice (some ad173) l0_4.length c0_4] 26 (0, 0)) (by (with_reducible repeat (first | refine blk_drewN ?_ _ | refine blk_drew ?_ | refine blk_alloc ?_ _)); exact BK172.out)) : gb172 ≠ gb187)); have n9_ := Aside0.mk ((by rw [hg]; exact Nat.ne_of_gt (blk_lt (g := gb172) (o := .cells #[.int .i64 a0_0, .int .i64 a0_1, .string a0_2, .slice A0_3 l0_3.length c0_3, .slice (some ad173) l0_4.length c0_4] 26 (0, 0)) (by (with_reducible repeat (first | refine blk_drewN ?_ _ | refine blk_drew ?_ | refine blk_alloc ?_ _)); exact BK172.out)) : gb187 ≠ gb172)); have n10_ := Aside0.mk ((by rw [hg]; exact Nat.ne_of_lt (blk_lt (g := gb174) (o := .cells #[.int .i64 ((rd_T26 l0_4 x3_1).f0), .int .i64 ((rd_T26 l0_4 x3_1).f1), .string ((rd_T26 l0_4 x3_1).f2), .slice A173_3 ((rd_T26 l0_4 x3_1).f3).length c173_3, .slice A173_4 ((rd_T26 l0_4 x3_1).f4).length c173_4] 26 (0, 0)) (by (with_reducible repeat (first | refine blk_drewN ?_ _ | refine blk_drew ?_ | refine blk_alloc ?_ _)); exact BK174.out)) : gb174 ≠ gb187)); have n11_ := Aside0.mk ((by rw [hg]; exact Nat.ne_of_gt (blk_lt (g := gb174) (o := .cells #[.int .i64 ((rd_T26 l0_4 x3_1).f0), .int .i64 ((rd_T26 l0_4 x3_1).f1), .string ((rd_T26 l0_4 x3_1).f2), .slice A173_3 ((rd_T26 l0_4 x3_1).f3).length c173_3, .slice A173_4 ((rd_T26 l0_4 x3_1).f4).length c173_4] 26 (0, 0)) (by (with_reducible repeat (first | refine blk_drewN ?_ _ | refine blk_drew ?_ | refine blk_alloc ?_ _)); exact BK174.out)) : gb187 ≠ gb174)); clear HO183; clear HO186; clear BK172; clear BK174; clear HB; have HO183 := n0_; have HO186 := n1_; have BK172 := n2_; have BK174 := n3_; have HB := n4_; have BK187 := n5_; have GW187 := n6_; have GE187 := n7_; have NB172_187 := n8_; have NB187_172 := n9_; have NB174_187 := n10_; have NB187_174 := n11_; clear n0_ n1_ n2_ n3_ n4_ n5_ n6_ n7_ n8_ n9_ n10_ n11_; clear hb hbox hg; have hnb62 := NB187_172.out; have hnc62 := NB172_187.out; have hnb63 := NB187_174.out; have hnc63 := NB174_187.out; have hcz64_0 : w61.cell? ⟨gb187, 0, none⟩ = some (.int .i64 0) := (blk_cell BK187.out 0).trans rfl; have hcz64_1 : w61.cell? ⟨gb187, 1, none⟩ = some (.int .i64 0) := (blk_cell BK187.out 1).trans rfl; have hcz64_2 : w61.cell? ⟨gb187, 2, none⟩ = some (.string (⟨#[]⟩ : ByteArray)) := (blk_cell BK187.out 2).trans rfl; have hcz64_3 : w61.cell? ⟨gb187, 3, none⟩ = some (.slice none 0 0) := (blk_cell BK187.out 3).trans rfl; have hcz64_4 : w61.cell? ⟨gb187, 4, none⟩ = some (.slice none 0 0) := (blk_cell BK187.out 4).trans rfl; have hfz64_0 := blk_frozen BK187.out 0; have hfz64_1 := blk_frozen BK187.out 1; have hfz64_2 := blk_frozen BK187.out 2; have hfz64_3 := blk_frozen BK187.out 3; have hfz64_4 := blk_frozen BK187.out 4; obtain ⟨Ao65, co65, eo65⟩ := Kd.R_slice HO183.out; subst eo65; obtain ⟨Ao66, co66, eo66⟩ := Kd.R_slice HO186.out; subst eo66; have hcz67_0 : w61.cell? ⟨gb174, 0, none⟩ = some (.int .i64 ((rd_T26 l0_4 x3_1).f0)) := (blk_cell BK174.out 0).trans rfl; have hcz67_1 : w61.cell? ⟨gb174, 1, none⟩ = some (.int .i64 ((rd_T26 l0_4 x3_1).f1)) := (blk_cell BK174.out 1).trans rfl; have hcz67_2 : w61.cell? ⟨gb174, 2, none⟩ = some (.string ((rd_T26 l0_4 x3_1).f2)) := (blk_cell BK174.out 2).trans rfl; have hcz67_3 : w61.cell? ⟨gb174, 3, none⟩ = some (.slice A173_3 ((rd_T26 l0_4 x3_1).f3).length c173_3) := (blk_cell BK174.out 3).trans rfl; have hcz67_4 : w61.cell? ⟨gb174, 4, none⟩ = some (.slice A173_4 ((rd_T26 l0_4 x3_1).f4).length c173_4) := (blk_cell BK174.out 4).trans rfl; have hfz67_0 := blk_frozen BK174.out 0; have hfz67_1 := blk_frozen BK174.out 1; have hfz67_2 := blk_frozen BK174.out 2; have hfz67_3 := blk_frozen BK174.out 3; have hfz67_4 := blk_frozen BK174.out 4))
                    go_ret
                    exact ⟨by first | rfl | (simp [errW_none, errW_some] <;> rfl) | (simp [*, errW_none, errW_some] <;> rfl), by repeat (first | (with_reducible first | exact HB.out | apply below_alloc | apply pw_below_drewN | apply below_drew1 | refine below_set ?_ GE172.out | refine below_set ?_ GE174.out | refine below_set ?_ GE187.out) | exact HB.out)⟩
                · rw [if_neg c30] at H
                  have c30b0 : (a0_0 == 4) = false := beq_eq_false_iff_ne.mpr c30
                  have c30b1 : (a0_0 != 4) = true := bne_iff_ne.mpr c30
                  have H' := Aside0.mk H
                  clear H
                  have hnb68 := NB172_174.out
                  have hnc68 := NB174_172.out
                  have hcz69_0 : wc.cell? ⟨gb172, 0, none⟩ = some (.int .i64 a0_0) := (blk_cell BK172.out 0).trans rfl
                  have hcz69_1 : wc.cell? ⟨gb172, 1, none⟩ = some (.int .i64 a0_1) := (blk_cell BK172.out 1).trans rfl
                  have hcz69_2 : wc.cell? ⟨gb172, 2, none⟩ = some (.string a0_2) := (blk_cell BK172.out 2).trans rfl
                  have hcz69_3 : wc.cell? ⟨gb172, 3, none⟩ = some (.slice A0_3 l0_3.length c0_3) := (blk_cell BK172.out 3).trans rfl
                  have hcz69_4 : wc.cell? ⟨gb172, 4, none⟩ = some (.slice (some ad173) l0_4.length c0_4) := (blk_cell BK172.out 4).trans rfl
                  have hfz69_0 := blk_frozen BK172.out 0
                  have hfz69_1 := blk_frozen BK172.out 1
                  have hfz69_2 := blk_frozen BK172.out 2
                  have hfz69_3 := blk_frozen BK172.out 3
                  have hfz69_4 := blk_frozen BK172.out 4
                  go_wp2
                  go_roundg kj4
                  case measure => have := HK1.out; have := HJ4.out; omega
                  case rel => exact ⟨(wrap64 (x3_1 + 1)), (by first | rfl | (simp; done) | (simp [*]; done)), H', ⟨by have := HK1.out; have := HJ4.out; omega⟩, ⟨by (with_reducible repeat (first | refine blk_drewN ?_ _ | refine blk_drew ?_ | refine blk_alloc ?_ _)); exact BK172.out⟩, ⟨by repeat (first | (with_reducible first | exact HB.out | apply below_alloc | apply pw_below_drewN | apply below_drew1 | refine below_set ?_ GE172.out | refine below_set ?_ GE174.out) | exact HB.out)⟩⟩
        · rw [if_neg c4] at H
          exact absurd H (by simp)
      · rw [if_neg c3] at H
        have c3b0 : decide (x3_1 < (l0_4.length : Int)) = false := decide_eq_false c3
        clear c3
        by_cases c70 : a0_0 = 5
        · rw [if_pos c70] at H
          have c70b0 : (a0_0 == 5) = true := beq_iff_eq.mpr c70
          have c70b1 : (a0_0 != 5) = false := bne_eq_false_iff_eq.mpr c70
          clear c70
          obtain rfl := Option.some.inj H
          have hcz71_0 : wr.cell? ⟨gb172, 0, none⟩ = some (.int .i64 a0_0) := (blk_cell BK172.out 0).trans rfl
          have hcz71_1 : wr.cell? ⟨gb172, 1, none⟩ = some (.int .i64 a0_1) := (blk_cell BK172.out 1).trans rfl
          have hcz71_2 : wr.cell? ⟨gb172, 2, none⟩ = some (.string a0_2) := (blk_cell BK172.out 2).trans rfl
          have hcz71_3 : wr.cell? ⟨gb172, 3, none⟩ = some (.slice A0_3 l0_3.length c0_3) := (blk_cell BK172.out 3).trans rfl
          have hcz71_4 : wr.cell? ⟨gb172, 4, none⟩ = some (.slice A0_4 l0_4.length c0_4) := (blk_cell BK172.out 4).trans rfl
          have hfz71_0 := blk_frozen BK172.out 0
          have hfz71_1 := blk_frozen BK172.out 1
          have hfz71_2 := blk_frozen BK172.out 2
          have hfz71_3 := blk_frozen BK172.out 3
          have hfz71_4 := blk_frozen BK172.out 4
          go_wp2
          go_ret
          exact ⟨by first | rfl | (simp [errW_none, errW_some] <;> rfl) | (simp [*, errW_none, errW_some] <;> rfl), by repeat (first | (with_reducible first | exact HB.out | apply below_alloc | apply pw_below_drewN | apply below_drew1 | refine below_set ?_ GE172.out) | exact HB.out)⟩
        · rw [if_neg c70] at H
          have c70b0 : (a0_0 == 5) = false := beq_eq_false_iff_ne.mpr c70
          have c70b1 : (a0_0 != 5) = true := bne_iff_ne.mpr c70
          by_cases c72 : a0_0 = 4
          · rw [if_pos c72] at H
            have c72b0 : (a0_0 == 4) = true := beq_iff_eq.mpr c72
            have c72b1 : (a0_0 != 4) = false := bne_eq_false_iff_eq.mpr c72
            clear c72
            obtain rfl := Option.some.inj H
            have hcz73_0 : wr.cell? ⟨gb172, 0, none⟩ = some (.int .i64 a0_0) := (blk_cell BK172.out 0).trans rfl
            have hcz73_1 : wr.cell? ⟨gb172, 1, none⟩ = some (.int .i64 a0_1) := (blk_cell BK172.out 1).trans rfl
            have hcz73_2 : wr.cell? ⟨gb172, 2, none⟩ = some (.string a0_2) := (blk_cell BK172.out 2).trans rfl
            have hcz73_3 : wr.cell? ⟨gb172, 3, none⟩ = some (.slice A0_3 l0_3.length c0_3) := (blk_cell BK172.out 3).trans rfl
            have hcz73_4 : wr.cell? ⟨gb172, 4, none⟩ = some (.slice A0_4 l0_4.length c0_4) := (blk_cell BK172.out 4).trans rfl
            have hfz73_0 := blk_frozen BK172.out 0
            have hfz73_1 := blk_frozen BK172.out 1
            have hfz73_2 := blk_frozen BK172.out 2
            have hfz73_3 := blk_frozen BK172.out 3
            have hfz73_4 := blk_frozen BK172.out 4
            go_wp2
            go_ret
            exact ⟨by first | rfl | (simp [errW_none, errW_some] <;> rfl) | (simp [*, errW_none, errW_some] <;> rfl), by repeat (first | (with_reducible first | exact HB.out | apply below_alloc | apply pw_below_drewN | apply below_drew1 | refine below_set ?_ GE172.out) | exact HB.out)⟩
          · rw [if_neg c72] at H
            have c72b0 : (a0_0 == 4) = false := beq_eq_false_iff_ne.mpr c72
            have c72b1 : (a0_0 != 4) = true := bne_iff_ne.mpr c72
            obtain rfl := Option.some.inj H
            have hcz74_0 : wr.cell? ⟨gb172, 0, none⟩ = some (.int .i64 a0_0) := (blk_cell BK172.out 0).trans rfl
            have hcz74_1 : wr.cell? ⟨gb172, 1, none⟩ = some (.int .i64 a0_1) := (blk_cell BK172.out 1).trans rfl
            have hcz74_2 : wr.cell? ⟨gb172, 2, none⟩ = some (.string a0_2) := (blk_cell BK172.out 2).trans rfl
            have hcz74_3 : wr.cell? ⟨gb172, 3, none⟩ = some (.slice A0_3 l0_3.length c0_3) := (blk_cell BK172.out 3).trans rfl
            have hcz74_4 : wr.cell? ⟨gb172, 4, none⟩ = some (.slice A0_4 l0_4.length c0_4) := (blk_cell BK172.out 4).trans rfl
            have hfz74_0 := blk_frozen BK172.out 0
            have hfz74_1 := blk_frozen BK172.out 1
            have hfz74_2 := blk_frozen BK172.out 2
            have hfz74_3 := blk_frozen BK172.out 3
            have hfz74_4 := blk_frozen BK172.out 4
            go_wp2
            go_ret
            exact ⟨by first | rfl | (simp [errW_none, errW_some] <;> rfl) | (simp [*, errW_none, errW_some] <;> rfl), by repeat (first | (with_reducible first | exact HB.out | apply below_alloc | apply pw_below_drewN | apply below_drew1 | refine below_set ?_ GE172.out) | exact HB.out)⟩

end Go.Proofs.YtiamiagjkfioiaaGreatDoor.PT
