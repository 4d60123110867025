-- Written by a program over the translation (xprint.py). Lean checks it.
import Derived.Test.YtgeamhmenmomhaaPTx0
import Derived.Test.YtgeamhmenmomhaaPTx4
import Derived.Test.YtgeamhmenmomhaaPTx5
namespace Go.Proofs.Ytgeamhmenmomhaa.PT
open Go.RowKit Go.Proofs.YtgeamhmenmomhaaW.PrintWords Go.Proofs.YtgeamhmenmomhaaW.PrintLast Go.Proofs.YtgeamhmenmomhaaW.PrintMore
attribute [local go_sem] max2_int min2_int max_two min_two max_three min_three max_four min_four   -- for this text's walks alone
set_option linter.unusedVariables false
set_option linter.unusedSimpArgs false

/-! ### spec_sayNames: function 25 -/
def spec_sayNames.l0 : Nat → Int → Int → Int → ByteArray → List ByteArray → List (S25) → Option (Bool)
  | 0, _, _, _, _, _, _ => none
  | k + 1, x3, x160000, x160001, x160002, x160003, x160004 => if x3 < (x160004.length : Int) then (if 0 ≤ x3 then (if ((rd_T25 x160004 x3).f0) = 3 then ((spec_sayName.f k ((rd_T25 x160004 x3).f2)).bind fun t162 => (if t162 = true then (spec_sayNames.l0 k (wrap64 (x3 + 1)) x160000 x160001 x160002 x160003 x160004) else (some false))) else (some false)) else (none)) else (if x160000 = 4 then (some (decide ((x160004.length : Int) > 0))) else (some false))
def spec_sayNames.f (k : Nat) (a0_0 : Int) (a0_1 : Int) (a0_2 : ByteArray) (l0_3 : List ByteArray) (l0_4 : List (S25)) : Option (Bool) := spec_sayNames.l0 k 0 a0_0 a0_1 a0_2 l0_3 l0_4
set_option maxHeartbeats 8000000 in
set_option maxRecDepth 100000 in
theorem spec_sayNames.calls (k : Nat) (a0_0 : Int) (a0_1 : Int) (a0_2 : ByteArray) (A0_3 : Option Addr) (c0_3 : Nat) (l0_3 : List ByteArray) (A0_4 : Option Addr) (c0_4 : Nat) (l0_4 : List (S25)) (r : Bool) (w : World) (hr0_3 : Kd.C Kd.string w A0_3 l0_3.length l0_3) (hc0_3 : l0_3.length ≤ c0_3) (hr0_4 : Kd.C k25 w A0_4 l0_4.length l0_4) (hc0_4 : l0_4.length ≤ c0_4) (h : spec_sayNames.f k a0_0 a0_1 a0_2 l0_3 l0_4 = some r) :
    Calls Try.prog 25 #[.agg #[.int .i64 a0_0, .int .i64 a0_1, .string a0_2, .slice A0_3 l0_3.length c0_3, .slice A0_4 l0_4.length c0_4]] w fun e w' => e = .returned (.bool r) ∧ Below w.heap.size w w' := by
  have hu25 := Try.underlying25
  have HR0_3 := Aside0.mk hr0_3
  have HC0_3 := Aside0.mk hc0_3
  clear hr0_3 hc0_3
  have HR0_4 := Aside0.mk hr0_4
  have HC0_4 := Aside0.mk hc0_4
  clear hr0_4 hc0_4
  have HB := Aside0.mk (Below.refl w.heap.size w)
  have H : (spec_sayNames.l0 k 0 a0_0 a0_1 a0_2 l0_3 l0_4) = some r := h
  clear h
  have H' := Aside0.mk H
  clear H
  go_enter Try.func25, Try.ntmps25
  go_wp2_with (first | ((with_reducible refine gate_dst (N := 1) rfl ?_); (try (refine gate_guard (by rfl) ?_; dsimp only)); refine box_event ?hg (N := 1) ?hd (cs := #[.int .i64 a0_0, .int .i64 a0_1, .string a0_2, .slice A0_3 l0_3.length c0_3, .slice A0_4 l0_4.length c0_4]) (t := 25) ?hr ?_; (case hd => rfl); (case hg => rfl); (case hr => first | (go_simp; done) | (go_simp; rfl)); intro gb159 hg w2 hbox hb; have n0_ := Aside0.mk (below_step (by repeat (first | (with_reducible first | exact HB.out | apply below_alloc | apply pw_below_drewN | apply below_drew1) | exact HB.out)) hb); have n1_ := Aside0.mk (hbox); have n2_ := Aside0.mk ((by rw [hg]; exact (below_size (by repeat (first | (with_reducible first | exact HB.out | apply below_alloc | apply pw_below_drewN | apply below_drew1) | exact HB.out))) : w.heap.size ≤ gb159)); have n3_ := Aside0.mk ((by rw [hg]; exact (below_size (by repeat (first | (with_reducible first | exact HB.out | apply below_alloc | apply pw_below_drewN | apply below_drew1) | exact HB.out))) : w.heap.size ≤ gb159)); clear HB; have HB := n0_; have BK159 := n1_; have GW159 := n2_; have GE159 := n3_; clear n0_ n1_ n2_ n3_; clear hb hbox hg))
  go_loopg [3] k (fun kq v3 w' => ∃ (x3_1 : Int), v3 = .int .i64 x3_1 ∧ Aside0 (spec_sayNames.l0 kq x3_1 a0_0 a0_1 a0_2 l0_3 l0_4 = some r) ∧ Aside0 (kq ≤ k) ∧ Aside0 (w'.heap[gb159]? = some (.cells #[.int .i64 a0_0, .int .i64 a0_1, .string a0_2, (.slice A0_3 l0_3.length c0_3), (.slice A0_4 l0_4.length c0_4)] 25 (0, 0))) ∧ Aside0 (Below w.heap.size w w'))
  case atStart => exact ⟨(0), (by first | rfl | (simp; done) | (simp [*]; done)), H', ⟨Nat.le_refl _⟩, ⟨by (with_reducible repeat (first | refine blk_drewN ?_ _ | refine blk_drew ?_ | refine blk_alloc ?_ _)); exact BK159.out⟩, ⟨by repeat (first | (with_reducible first | exact HB.out | apply below_alloc | apply pw_below_drewN | apply below_drew1 | refine below_set ?_ GE159.out) | exact HB.out)⟩⟩
  case round =>
    clear H'
    try clear c2
    try clear p2
    obtain ⟨x3_1, rfl, HA, HK1, BK159, HB⟩ := hrel
    cases gk with
    | zero => exact absurd HA.out (by simp [spec_sayNames.l0])
    | succ k1 =>
      have H := HA.out
      clear HA
      simp only [spec_sayNames.l0] at H
      by_cases c3 : x3_1 < (l0_4.length : Int)
      · rw [if_pos c3] at H
        have c3b0 : decide (x3_1 < (l0_4.length : Int)) = true := decide_eq_true c3
        clear c3
        by_cases c4 : 0 ≤ x3_1
        · rw [if_pos c4] at H
          have c4b0 : decide (0 ≤ x3_1) = true := decide_eq_true c4
          clear c4
          by_cases c5 : ((rd_T25 l0_4 x3_1).f0) = 3
          · rw [if_pos c5] at H
            have c5b0 : (((rd_T25 l0_4 x3_1).f0) == 3) = true := beq_iff_eq.mpr c5
            have c5b1 : (((rd_T25 l0_4 x3_1).f0) != 3) = false := bne_eq_false_iff_eq.mpr c5
            clear c5
            replace H := Option.bind_eq_some_iff.mp H
            obtain ⟨t162, A60, H⟩ := H
            replace H : (if t162 = true then (spec_sayNames.l0 k1 (wrap64 (x3_1 + 1)) a0_0 a0_1 a0_2 l0_3 l0_4) else (some false)) = some r := H
            have A6 := Aside0.mk A60
            clear A60
            by_cases c7 : t162 = true
            · subst c7
              have H1 : (spec_sayNames.l0 k1 (wrap64 (x3_1 + 1)) a0_0 a0_1 a0_2 l0_3 l0_4) = some r := by rw [if_pos rfl] at H; exact H
              clear H
              have H := H1
              clear H1
              have H' := Aside0.mk H
              clear H
              have hcz8_0 : wr.cell? ⟨gb159, 0, none⟩ = some (.int .i64 a0_0) := (blk_cell BK159.out 0).trans rfl
              have hcz8_1 : wr.cell? ⟨gb159, 1, none⟩ = some (.int .i64 a0_1) := (blk_cell BK159.out 1).trans rfl
              have hcz8_2 : wr.cell? ⟨gb159, 2, none⟩ = some (.string a0_2) := (blk_cell BK159.out 2).trans rfl
              have hcz8_3 : wr.cell? ⟨gb159, 3, none⟩ = some (.slice A0_3 l0_3.length c0_3) := (blk_cell BK159.out 3).trans rfl
              have hcz8_4 : wr.cell? ⟨gb159, 4, none⟩ = some (.slice A0_4 l0_4.length c0_4) := (blk_cell BK159.out 4).trans rfl
              have hfz8_0 := blk_frozen BK159.out 0
              have hfz8_1 := blk_frozen BK159.out 1
              have hfz8_2 := blk_frozen BK159.out 2
              have hfz8_3 := blk_frozen BK159.out 3
              have hfz8_4 := blk_frozen BK159.out 4
              have p160 : 0 ≤ (x3_1 : Int) := of_decide_eq_true (by first | (with_reducible assumption) | assumption)
              have q160 : x3_1 < (l0_4.length : Int) := of_decide_eq_true (by first | (with_reducible assumption) | assumption)
              obtain ⟨ad160, A160_3, c160_3, A160_4, c160_4, e160, hx160_0, hx160_1, hx160_2, hx160_3, hx160_4, hl160_3, hi160_3, hl160_4, hi160_4⟩ := at_T25 HR0_4.out x3_1 p160 q160
              cases e160
              replace hx160_0 := (HB.out.cell (World.block_lt_of_cell? w _ hx160_0)).trans hx160_0
              replace hx160_1 := (HB.out.cell (World.block_lt_of_cell? w _ hx160_1)).trans hx160_1
              replace hx160_2 := (HB.out.cell (World.block_lt_of_cell? w _ hx160_2)).trans hx160_2
              replace hx160_3 := (HB.out.cell (World.block_lt_of_cell? w _ hx160_3)).trans hx160_3
              replace hx160_4 := (HB.out.cell (World.block_lt_of_cell? w _ hx160_4)).trans hx160_4
              have HR160_3 := Aside0.mk hi160_3
              have HC160_3 := Aside0.mk hl160_3
              clear hi160_3 hl160_3
              have HR160_4 := Aside0.mk hi160_4
              have HC160_4 := Aside0.mk hl160_4
              clear hi160_4 hl160_4
              replace p160 := eq_true p160
              replace q160 := eq_true q160
              have p161 : 0 ≤ (x3_1 : Int) := of_decide_eq_true (by first | (with_reducible assumption) | assumption)
              have q161 : x3_1 < (l0_4.length : Int) := of_decide_eq_true (by first | (with_reducible assumption) | assumption)
              obtain ⟨ad161, A161_3, c161_3, A161_4, c161_4, e161, hx161_0, hx161_1, hx161_2, hx161_3, hx161_4, hl161_3, hi161_3, hl161_4, hi161_4⟩ := at_T25 HR0_4.out x3_1 p161 q161
              obtain rfl : ad160 = ad161 := (by injection e161)
              replace hx161_0 := (HB.out.cell (World.block_lt_of_cell? w _ hx161_0)).trans hx161_0
              replace hx161_1 := (HB.out.cell (World.block_lt_of_cell? w _ hx161_1)).trans hx161_1
              replace hx161_2 := (HB.out.cell (World.block_lt_of_cell? w _ hx161_2)).trans hx161_2
              replace hx161_3 := (HB.out.cell (World.block_lt_of_cell? w _ hx161_3)).trans hx161_3
              replace hx161_4 := (HB.out.cell (World.block_lt_of_cell? w _ hx161_4)).trans hx161_4
              have HR161_3 := Aside0.mk hi161_3
              have HC161_3 := Aside0.mk hl161_3
              clear hi161_3 hl161_3
              have HR161_4 := Aside0.mk hi161_4
              have HC161_4 := Aside0.mk hl161_4
              clear hi161_4 hl161_4
              replace p161 := eq_true p161
              replace q161 := eq_true q161
              have ea_ := Option.some.inj (hx160_3.symm.trans hx161_3)
              injection ea_ with ea_ en_ ec_
              subst ea_
              subst ec_
              clear en_
              have ea_ := Option.some.inj (hx160_4.symm.trans hx161_4)
              injection ea_ with ea_ en_ ec_
              subst ea_
              subst ec_
              clear en_
              go_wp2_with (first | (go_at_call 27; (with_reducible refine (spec_sayName.calls k1 ((rd_T25 l0_4 x3_1).f2) true _ A6.out).mono ?_); rintro e w' ⟨rfl, ⟨nd, rfl⟩⟩))
              go_roundg k1
              case measure => have := HK1.out; omega
              case rel => exact ⟨(wrap64 (x3_1 + 1)), (by first | rfl | (simp; done) | (simp [*]; done)), H', ⟨by have := HK1.out; omega⟩, ⟨by (with_reducible repeat (first | refine blk_drewN ?_ _ | refine blk_drew ?_ | refine blk_alloc ?_ _)); exact BK159.out⟩, ⟨by repeat (first | (with_reducible first | exact HB.out | apply below_alloc | apply pw_below_drewN | apply below_drew1 | refine below_set ?_ GE159.out) | exact HB.out)⟩⟩
            · replace c7 := Bool.eq_false_iff.mpr c7
              subst c7
              have H1 : (some false) = some r := by rw [if_neg (show ¬ (false = true) by decide)] at H; exact H
              clear H
              have H := H1
              clear H1
              obtain rfl := Option.some.inj H
              have hcz9_0 : wr.cell? ⟨gb159, 0, none⟩ = some (.int .i64 a0_0) := (blk_cell BK159.out 0).trans rfl
              have hcz9_1 : wr.cell? ⟨gb159, 1, none⟩ = some (.int .i64 a0_1) := (blk_cell BK159.out 1).trans rfl
              have hcz9_2 : wr.cell? ⟨gb159, 2, none⟩ = some (.string a0_2) := (blk_cell BK159.out 2).trans rfl
              have hcz9_3 : wr.cell? ⟨gb159, 3, none⟩ = some (.slice A0_3 l0_3.length c0_3) := (blk_cell BK159.out 3).trans rfl
              have hcz9_4 : wr.cell? ⟨gb159, 4, none⟩ = some (.slice A0_4 l0_4.length c0_4) := (blk_cell BK159.out 4).trans rfl
              have hfz9_0 := blk_frozen BK159.out 0
              have hfz9_1 := blk_frozen BK159.out 1
              have hfz9_2 := blk_frozen BK159.out 2
              have hfz9_3 := blk_frozen BK159.out 3
              have hfz9_4 := blk_frozen BK159.out 4
              have p160 : 0 ≤ (x3_1 : Int) := of_decide_eq_true (by first | (with_reducible assumption) | assumption)
              have q160 : x3_1 < (l0_4.length : Int) := of_decide_eq_true (by first | (with_reducible assumption) | assumption)
              obtain ⟨ad160, A160_3, c160_3, A160_4, c160_4, e160, hx160_0, hx160_1, hx160_2, hx160_3, hx160_4, hl160_3, hi160_3, hl160_4, hi160_4⟩ := at_T25 HR0_4.out x3_1 p160 q160
              cases e160
              replace hx160_0 := (HB.out.cell (World.block_lt_of_cell? w _ hx160_0)).trans hx160_0
              replace hx160_1 := (HB.out.cell (World.block_lt_of_cell? w _ hx160_1)).trans hx160_1
              replace hx160_2 := (HB.out.cell (World.block_lt_of_cell? w _ hx160_2)).trans hx160_2
              replace hx160_3 := (HB.out.cell (World.block_lt_of_cell? w _ hx160_3)).trans hx160_3
              replace hx160_4 := (HB.out.cell (World.block_lt_of_cell? w _ hx160_4)).trans hx160_4
              have HR160_3 := Aside0.mk hi160_3
              have HC160_3 := Aside0.mk hl160_3
              clear hi160_3 hl160_3
              have HR160_4 := Aside0.mk hi160_4
              have HC160_4 := Aside0.mk hl160_4
              clear hi160_4 hl160_4
              replace p160 := eq_true p160
              replace q160 := eq_true q160
              have p161 : 0 ≤ (x3_1 : Int) := of_decide_eq_true (by first | (with_reducible assumption) | assumption)
              have q161 : x3_1 < (l0_4.length : Int) := of_decide_eq_true (by first | (with_reducible assumption) | assumption)
              obtain ⟨ad161, A161_3, c161_3, A161_4, c161_4, e161, hx161_0, hx161_1, hx161_2, hx161_3, hx161_4, hl161_3, hi161_3, hl161_4, hi161_4⟩ := at_T25 HR0_4.out x3_1 p161 q161
              obtain rfl : ad160 = ad161 := (by injection e161)
              replace hx161_0 := (HB.out.cell (World.block_lt_of_cell? w _ hx161_0)).trans hx161_0
              replace hx161_1 := (HB.out.cell (World.block_lt_of_cell? w _ hx161_1)).trans hx161_1
              replace hx161_2 := (HB.out.cell (World.block_lt_of_cell? w _ hx161_2)).trans hx161_2
              replace hx161_3 := (HB.out.cell (World.block_lt_of_cell? w _ hx161_3)).trans hx161_3
              replace hx161_4 := (HB.out.cell (World.block_lt_of_cell? w _ hx161_4)).trans hx161_4
              have HR161_3 := Aside0.mk hi161_3
              have HC161_3 := Aside0.mk hl161_3
              clear hi161_3 hl161_3
              have HR161_4 := Aside0.mk hi161_4
              have HC161_4 := Aside0.mk hl161_4
              clear hi161_4 hl161_4
              replace p161 := eq_true p161
              replace q161 := eq_true q161
              have ea_ := Option.some.inj (hx160_3.symm.trans hx161_3)
              injection ea_ with ea_ en_ ec_
              subst ea_
              subst ec_
              clear en_
              have ea_ := Option.some.inj (hx160_4.symm.trans hx161_4)
              injection ea_ with ea_ en_ ec_
              subst ea_
              subst ec_
              clear en_
              go_wp2_with (first | (go_at_call 27; (with_reducible refine (spec_sayName.calls k1 ((rd_T25 l0_4 x3_1).f2) false _ A6.out).mono ?_); rintro e w' ⟨rfl, ⟨nd, rfl⟩⟩))
              go_ret
              exact ⟨by first | rfl | (simp [errW_none, errW_some] <;> rfl) | (simp [*, errW_none, errW_some] <;> rfl), by repeat (first | (with_reducible first | exact HB.out | apply below_alloc | apply pw_below_drewN | apply below_drew1 | refine below_set ?_ GE159.out) | exact HB.out)⟩
          · rw [if_neg c5] at H
            have c5b0 : (((rd_T25 l0_4 x3_1).f0) == 3) = false := beq_eq_false_iff_ne.mpr c5
            have c5b1 : (((rd_T25 l0_4 x3_1).f0) != 3) = true := bne_iff_ne.mpr c5
            obtain rfl := Option.some.inj H
            have hcz10_0 : wr.cell? ⟨gb159, 0, none⟩ = some (.int .i64 a0_0) := (blk_cell BK159.out 0).trans rfl
            have hcz10_1 : wr.cell? ⟨gb159, 1, none⟩ = some (.int .i64 a0_1) := (blk_cell BK159.out 1).trans rfl
            have hcz10_2 : wr.cell? ⟨gb159, 2, none⟩ = some (.string a0_2) := (blk_cell BK159.out 2).trans rfl
            have hcz10_3 : wr.cell? ⟨gb159, 3, none⟩ = some (.slice A0_3 l0_3.length c0_3) := (blk_cell BK159.out 3).trans rfl
            have hcz10_4 : wr.cell? ⟨gb159, 4, none⟩ = some (.slice A0_4 l0_4.length c0_4) := (blk_cell BK159.out 4).trans rfl
            have hfz10_0 := blk_frozen BK159.out 0
            have hfz10_1 := blk_frozen BK159.out 1
            have hfz10_2 := blk_frozen BK159.out 2
            have hfz10_3 := blk_frozen BK159.out 3
            have hfz10_4 := blk_frozen BK159.out 4
            have p160 : 0 ≤ (x3_1 : Int) := of_decide_eq_true (by first | (with_reducible assumption) | assumption)
            have q160 : x3_1 < (l0_4.length : Int) := of_decide_eq_true (by first | (with_reducible assumption) | assumption)
            obtain ⟨ad160, A160_3, c160_3, A160_4, c160_4, e160, hx160_0, hx160_1, hx160_2, hx160_3, hx160_4, hl160_3, hi160_3, hl160_4, hi160_4⟩ := at_T25 HR0_4.out x3_1 p160 q160
            cases e160
            replace hx160_0 := (HB.out.cell (World.block_lt_of_cell? w _ hx160_0)).trans hx160_0
            replace hx160_1 := (HB.out.cell (World.block_lt_of_cell? w _ hx160_1)).trans hx160_1
            replace hx160_2 := (HB.out.cell (World.block_lt_of_cell? w _ hx160_2)).trans hx160_2
            replace hx160_3 := (HB.out.cell (World.block_lt_of_cell? w _ hx160_3)).trans hx160_3
            replace hx160_4 := (HB.out.cell (World.block_lt_of_cell? w _ hx160_4)).trans hx160_4
            have HR160_3 := Aside0.mk hi160_3
            have HC160_3 := Aside0.mk hl160_3
            clear hi160_3 hl160_3
            have HR160_4 := Aside0.mk hi160_4
            have HC160_4 := Aside0.mk hl160_4
            clear hi160_4 hl160_4
            replace p160 := eq_true p160
            replace q160 := eq_true q160
            go_wp2
            go_ret
            exact ⟨by first | rfl | (simp [errW_none, errW_some] <;> rfl) | (simp [*, errW_none, errW_some] <;> rfl), by repeat (first | (with_reducible first | exact HB.out | apply below_alloc | apply pw_below_drewN | apply below_drew1 | refine below_set ?_ GE159.out) | exact HB.out)⟩
        · rw [if_neg c4] at H
          exact absurd H (by simp)
      · rw [if_neg c3] at H
        have c3b0 : decide (x3_1 < (l0_4.length : Int)) = false := decide_eq_false c3
        clear c3
        by_cases c11 : a0_0 = 4
        · rw [if_pos c11] at H
          have c11b0 : (a0_0 == 4) = true := beq_iff_eq.mpr c11
          have c11b1 : (a0_0 != 4) = false := bne_eq_false_iff_eq.mpr c11
          clear c11
          obtain rfl := Option.some.inj H
          have hcz12_0 : wr.cell? ⟨gb159, 0, none⟩ = some (.int .i64 a0_0) := (blk_cell BK159.out 0).trans rfl
          have hcz12_1 : wr.cell? ⟨gb159, 1, none⟩ = some (.int .i64 a0_1) := (blk_cell BK159.out 1).trans rfl
          have hcz12_2 : wr.cell? ⟨gb159, 2, none⟩ = some (.string a0_2) := (blk_cell BK159.out 2).trans rfl
          have hcz12_3 : wr.cell? ⟨gb159, 3, none⟩ = some (.slice A0_3 l0_3.length c0_3) := (blk_cell BK159.out 3).trans rfl
          have hcz12_4 : wr.cell? ⟨gb159, 4, none⟩ = some (.slice A0_4 l0_4.length c0_4) := (blk_cell BK159.out 4).trans rfl
          have hfz12_0 := blk_frozen BK159.out 0
          have hfz12_1 := blk_frozen BK159.out 1
          have hfz12_2 := blk_frozen BK159.out 2
          have hfz12_3 := blk_frozen BK159.out 3
          have hfz12_4 := blk_frozen BK159.out 4
          go_wp2
          go_ret
          exact ⟨by first | rfl | (simp [errW_none, errW_some] <;> rfl) | (simp [*, errW_none, errW_some] <;> rfl), by repeat (first | (with_reducible first | exact HB.out | apply below_alloc | apply pw_below_drewN | apply below_drew1 | refine below_set ?_ GE159.out) | exact HB.out)⟩
        · rw [if_neg c11] at H
          have c11b0 : (a0_0 == 4) = false := beq_eq_false_iff_ne.mpr c11
          have c11b1 : (a0_0 != 4) = true := bne_iff_ne.mpr c11
          obtain rfl := Option.some.inj H
          have hcz13_0 : wr.cell? ⟨gb159, 0, none⟩ = some (.int .i64 a0_0) := (blk_cell BK159.out 0).trans rfl
          have hcz13_1 : wr.cell? ⟨gb159, 1, none⟩ = some (.int .i64 a0_1) := (blk_cell BK159.out 1).trans rfl
          have hcz13_2 : wr.cell? ⟨gb159, 2, none⟩ = some (.string a0_2) := (blk_cell BK159.out 2).trans rfl
          have hcz13_3 : wr.cell? ⟨gb159, 3, none⟩ = some (.slice A0_3 l0_3.length c0_3) := (blk_cell BK159.out 3).trans rfl
          have hcz13_4 : wr.cell? ⟨gb159, 4, none⟩ = some (.slice A0_4 l0_4.length c0_4) := (blk_cell BK159.out 4).trans rfl
          have hfz13_0 := blk_frozen BK159.out 0
          have hfz13_1 := blk_frozen BK159.out 1
          have hfz13_2 := blk_frozen BK159.out 2
          have hfz13_3 := blk_frozen BK159.out 3
          have hfz13_4 := blk_frozen BK159.out 4
          go_wp2
          go_ret
          exact ⟨by first | rfl | (simp [errW_none, errW_some] <;> rfl) | (simp [*, errW_none, errW_some] <;> rfl), by repeat (first | (with_reducible first | exact HB.out | apply below_alloc | apply pw_below_drewN | apply below_drew1 | refine below_set ?_ GE159.out) | exact HB.out)⟩

/-! ### spec_sayWord: function 41 -/
def spec_sayWord.l0 : Nat → ByteArray → Int → Option (Bool)
  | 0, _, _ => none
  | k + 1, x0, x3 => if x3 < (x0.size : Int) then (if 0 ≤ x3 then (if (bt x0 x3) < 33 then (some false) else (if (bt x0 x3) > 126 then (some false) else ((spec_sayIn.f k (strOfNums (([bt x0 x3] : List Int))) (([(⟨#[61]⟩ : ByteArray), (⟨#[36]⟩ : ByteArray), (⟨#[58]⟩ : ByteArray), (⟨#[34]⟩ : ByteArray), (⟨#[39]⟩ : ByteArray), (⟨#[92]⟩ : ByteArray), (⟨#[126]⟩ : ByteArray)] : List ByteArray))).bind fun t169 => (if t169 = true then (some false) else (spec_sayWord.l0 k x0 (wrap64 (x3 + 1))))))) else (none)) else (some (x0.toList != ([] : List UInt8)))
def spec_sayWord.f (k : Nat) (a0 : ByteArray) : Option (Bool) := spec_sayWord.l0 k a0 0
set_option maxHeartbeats 8000000 in
set_option maxRecDepth 100000 in
theorem spec_sayWord.calls (k : Nat) (a0 : ByteArray) (r : Bool) (w : World) (h : spec_sayWord.f k a0 = some r) :
    Calls Try.prog 41 #[.string a0] w fun e w' => e = .returned (.bool r) ∧ Below w.heap.size w w' := by
  have HB := Aside0.mk (Below.refl w.heap.size w)
  have H : (spec_sayWord.l0 k a0 0) = some r := h
  clear h
  have H' := Aside0.mk H
  clear H
  go_enter Try.func41, Try.ntmps41
  go_wp2
  go_loopg [3] k (fun kq v3 w' => ∃ (x3_1 : Int), v3 = .int .i64 x3_1 ∧ Aside0 (spec_sayWord.l0 kq a0 x3_1 = some r) ∧ Aside0 (kq ≤ k) ∧ Aside0 (Below w.heap.size w w'))
  case atStart => exact ⟨(0), (by first | rfl | (simp; done) | (simp [*]; done)), H', ⟨Nat.le_refl _⟩, ⟨by repeat (first | (with_reducible first | exact HB.out | apply below_alloc | apply pw_below_drewN | apply below_drew1) | exact HB.out)⟩⟩
  case round =>
    clear H'
    obtain ⟨x3_1, rfl, HA, HK1, HB⟩ := hrel
    cases gk with
    | zero => exact absurd HA.out (by simp [spec_sayWord.l0])
    | succ k1 =>
      have H := HA.out
      clear HA
      simp only [spec_sayWord.l0] at H
      by_cases c2 : x3_1 < (a0.size : Int)
      · rw [if_pos c2] at H
        have c2b0 : decide (x3_1 < (a0.size : Int)) = true := decide_eq_true c2
        clear c2
        by_cases c3 : 0 ≤ x3_1
        · rw [if_pos c3] at H
          have c3b0 : decide (0 ≤ x3_1) = true := decide_eq_true c3
          clear c3
          by_cases c5 : (bt a0 x3_1) < 33
          · rw [if_pos c5] at H
            have c5b0 : decide ((bt a0 x3_1) < 33) = true := decide_eq_true c5
            clear c5
            obtain rfl := Option.some.inj H
            have p4 : 0 ≤ (x3_1 : Int) := of_decide_eq_true (by first | (with_reducible assumption) | assumption)
            have q4 : x3_1 < (a0.size : Int) := of_decide_eq_true (by first | (with_reducible assumption) | assumption)
            have hx4 := bt_at a0 x3_1
            replace p4 := eq_true p4
            replace q4 := eq_true q4
            go_wp2
            go_ret
            exact ⟨by first | rfl | (simp [errW_none, errW_some] <;> rfl) | (simp [*, errW_none, errW_some] <;> rfl), by repeat (first | (with_reducible first | exact HB.out | apply below_alloc | apply pw_below_drewN | apply below_drew1) | exact HB.out)⟩
          · rw [if_neg c5] at H
            have c5b0 : decide ((bt a0 x3_1) < 33) = false := decide_eq_false c5
            clear c5
            by_cases c6 : (bt a0 x3_1) > 126
            · rw [if_pos c6] at H
              have c6b0 : decide (126 < (bt a0 x3_1)) = true := decide_eq_true c6
              clear c6
              obtain rfl := Option.some.inj H
              have p4 : 0 ≤ (x3_1 : Int) := of_decide_eq_true (by first | (with_reducible assumption) | assumption)
              have q4 : x3_1 < (a0.size : Int) := of_decide_eq_true (by first | (with_reducible assumption) | assumption)
              have hx4 := bt_at a0 x3_1
              replace p4 := eq_true p4
              replace q4 := eq_true q4
              go_wp2
              go_ret
              exact ⟨by first | rfl | (simp [errW_none, errW_some] <;> rfl) | (simp [*, errW_none, errW_some] <;> rfl), by repeat (first | (with_reducible first | exact HB.out | apply below_alloc | apply pw_below_drewN | apply below_drew1) | exact HB.out)⟩
            · rw [if_neg c6] at H
              have c6b0 : decide (126 < (bt a0 x3_1)) = false := decide_eq_false c6
              clear c6
              obtain ⟨y163, hy163⟩ : ∃ y_ : List Int, y_ = (([bt a0 x3_1] : List Int)) := ⟨_, rfl⟩
              replace H : ((spec_sayIn.f k1 (strOfNums y163) (([(⟨#[61]⟩ : ByteArray), (⟨#[36]⟩ : ByteArray), (⟨#[58]⟩ : ByteArray), (⟨#[34]⟩ : ByteArray), (⟨#[39]⟩ : ByteArray), (⟨#[92]⟩ : ByteArray), (⟨#[126]⟩ : ByteArray)] : List ByteArray))).bind fun t169 => (if t169 = true then (some false) else (spec_sayWord.l0 k1 a0 (wrap64 (x3_1 + 1))))) = some r := by first | (rw [hy163]; with_reducible exact H) | (have H2_ := (Option.bind_some _ _).symm.trans H; rw [hy163]; with_reducible exact H2_) | (have H2_ := (Option.bind_some _ _).symm.trans H; with_reducible exact H2_) | with_reducible exact H | (rw [hy163]; exact H) | exact H
              have Ny163 := Aside0.mk hy163
              clear hy163
              obtain ⟨y166, hy166⟩ : ∃ y_ : List ByteArray, y_ = (([(⟨#[61]⟩ : ByteArray), (⟨#[36]⟩ : ByteArray), (⟨#[58]⟩ : ByteArray), (⟨#[34]⟩ : ByteArray), (⟨#[39]⟩ : ByteArray), (⟨#[92]⟩ : ByteArray), (⟨#[126]⟩ : ByteArray)] : List ByteArray)) := ⟨_, rfl⟩
              replace H : ((spec_sayIn.f k1 (strOfNums y163) y166).bind fun t169 => (if t169 = true then (some false) else (spec_sayWord.l0 k1 a0 (wrap64 (x3_1 + 1))))) = some r := by first | (rw [hy166]; with_reducible exact H) | (have H2_ := (Option.bind_some _ _).symm.trans H; rw [hy166]; with_reducible exact H2_) | (have H2_ := (Option.bind_some _ _).symm.trans H; with_reducible exact H2_) | with_reducible exact H | (rw [hy166]; exact H) | exact H
              have Ny166 := Aside0.mk hy166
              clear hy166
              replace H := Option.bind_eq_some_iff.mp H
              obtain ⟨t169, A70, H⟩ := H
              replace H : (if t169 = true then (some false) else (spec_sayWord.l0 k1 a0 (wrap64 (x3_1 + 1)))) = some r := H
              have A7 := Aside0.mk A70
              clear A70
              by_cases c8 : t169 = true
              · subst c8
                have H1 : (some false) = some r := by rw [if_pos rfl] at H; exact H
                clear H
                have H := H1
                clear H1
                obtain rfl := Option.some.inj H
                have p4 : 0 ≤ (x3_1 : Int) := of_decide_eq_true (by first | (with_reducible assumption) | assumption)
                have q4 : x3_1 < (a0.size : Int) := of_decide_eq_true (by first | (with_reducible assumption) | assumption)
                have hx4 := bt_at a0 x3_1
                replace p4 := eq_true p4
                replace q4 := eq_true q4
                go_wp2_with (first | ((with_reducible refine gate_dst (N := 22) rfl ?_); (try (refine gate_guard (by rfl) ?_; dsimp only)); refine Kd.R_lit (Kd.int .u8) _ 5 ?hg (N := 22) ?hd (xs := ([bt a0 x3_1] : List Int)) (inner := [.int .u8 (bt a0 x3_1)]) (ok := fun _ => True) (okp := fun _ => True) ?hr ?hp (fun _ hk => hk) trivial (Below.refl _ _) (Nat.le_refl _) (by simp) ?_; (case hd => rfl); (case hg => rfl); (case hr => first | (go_simp; done) | (go_simp; rfl)); (case hp => exact (Reps.one (show Kd.M (Kd.int .u8) _ _ _ (bt a0 x3_1) [.int .u8 (bt a0 x3_1)] from rfl) (Reps.none _ _))); intro v164 w9 ho10 hb hg_ hnew_; clear hg_ hnew_; (first | rw [← Ny163.out] at ho10 | (simp only [Int.reduceToNat] at ho10; rw [← Ny163.out] at ho10)); have n0_ := Aside0.mk (Kd.R_lower ho10 (below_size (by repeat (first | (with_reducible first | exact HB.out | apply below_alloc | apply pw_below_drewN | apply below_drew1) | exact HB.out)))); have n1_ := Aside0.mk (below_step (by repeat (first | (with_reducible first | exact HB.out | apply below_alloc | apply pw_below_drewN | apply below_drew1) | exact HB.out)) hb); clear HB; have HO165 := n0_; have HB := n1_; clear n0_ n1_; clear hb ho10; have hcv11 := own_string (P := Try.prog) Try.underlying78 Try.underlying5 Try.underlying9 (Kd.own_of_R HO165.out)) | ((with_reducible refine gate_dst (N := 24) rfl ?_); (try (refine gate_guard (by rfl) ?_; dsimp only)); refine Kd.R_lit Kd.string _ 9 ?hg (N := 24) ?hd (xs := ([(⟨#[61]⟩ : ByteArray), (⟨#[36]⟩ : ByteArray), (⟨#[58]⟩ : ByteArray), (⟨#[34]⟩ : ByteArray), (⟨#[39]⟩ : ByteArray), (⟨#[92]⟩ : ByteArray), (⟨#[126]⟩ : ByteArray)] : List ByteArray)) (inner := [.string (⟨#[61]⟩ : ByteArray), .string (⟨#[36]⟩ : ByteArray), .string (⟨#[58]⟩ : ByteArray), .string (⟨#[34]⟩ : ByteArray), .string (⟨#[39]⟩ : ByteArray), .string (⟨#[92]⟩ : ByteArray), .string (⟨#[126]⟩ : ByteArray)]) (ok := fun _ => True) (okp := fun _ => True) ?hr ?hp (fun _ hk => hk) trivial (Below.refl _ _) (Nat.le_refl _) (by simp) ?_; (case hd => rfl); (case hg => rfl); (case hr => first | (go_simp; done) | (go_simp; rfl)); (case hp => exact (Reps.one (show Kd.M Kd.string _ _ _ (⟨#[61]⟩ : ByteArray) [.string (⟨#[61]⟩ : ByteArray)] from rfl) (Reps.one (show Kd.M Kd.string _ _ _ (⟨#[36]⟩ : ByteArray) [.string (⟨#[36]⟩ : ByteArray)] from rfl) (Reps.one (show Kd.M Kd.string _ _ _ (⟨#[58]⟩ : ByteArray) [.string (⟨#[58]⟩ : ByteArray)] from rfl) (Reps.one (show Kd.M Kd.string _ _ _ (⟨#[34]⟩ : ByteArray) [.string (⟨#[34]⟩ : ByteArray)] from rfl) (Reps.one (show Kd.M Kd.string _ _ _ (⟨#[39]⟩ : ByteArray) [.string (⟨#[39]⟩ : ByteArray)] from rfl) (Reps.one (show Kd.M Kd.string _ _ _ (⟨#[92]⟩ : ByteArray) [.string (⟨#[92]⟩ : ByteArray)] from rfl) (Reps.one (show Kd.M Kd.string _ _ _ (⟨#[126]⟩ : ByteArray) [.string (⟨#[126]⟩ : ByteArray)] from rfl) (Reps.none _ _))))))))); intro v167 w12 ho13 hb hg_ hnew_; clear hg_ hnew_; (first | rw [← Ny166.out] at ho13 | (simp only [Int.reduceToNat] at ho13; rw [← Ny166.out] at ho13)); have n0_ := Aside0.mk (Kd.R_below (by (with_reducible repeat (first | apply Kd.R_alloc | apply Kd.R_drewN | apply Kd.R_drew)); exact HO165.out) hb); have n1_ := Aside0.mk (Kd.R_lower ho13 (below_size (by repeat (first | (with_reducible first | exact HB.out | apply below_alloc | apply pw_below_drewN | apply below_drew1) | exact HB.out)))); have n2_ := Aside0.mk (below_step (by repeat (first | (with_reducible first | exact HB.out | apply below_alloc | apply pw_below_drewN | apply below_drew1) | exact HB.out)) hb); clear HO165; clear HB; have HO165 := n0_; have HO168 := n1_; have HB := n2_; clear n0_ n1_ n2_; clear hb ho13; obtain ⟨Ao14, co14, eo14⟩ := Kd.R_slice HO168.out; subst eo14) | (go_at_call 29; (with_reducible refine (spec_sayIn.calls k1 (strOfNums y163) _ _ y166 true _ ?side1 ?side2 A7.out).mono ?_); (case side1 => repeat (first | exact (Kd.R_reads' HO168.out).2.2 | (with_reducible refine Kd.C_alloc ?_ _) | (with_reducible refine Kd.C_drewN ?_ _) | (with_reducible refine Kd.C_drew ?_))); (case side2 => exact (Kd.R_reads' HO168.out).2.1); rintro e w' ⟨rfl, ⟨nd, rfl⟩⟩))
                go_ret
                exact ⟨by first | rfl | (simp [errW_none, errW_some] <;> rfl) | (simp [*, errW_none, errW_some] <;> rfl), by repeat (first | (with_reducible first | exact HB.out | apply below_alloc | apply pw_below_drewN | apply below_drew1) | exact HB.out)⟩
              · replace c8 := Bool.eq_false_iff.mpr c8
                subst c8
                have H1 : (spec_sayWord.l0 k1 a0 (wrap64 (x3_1 + 1))) = some r := by rw [if_neg (show ¬ (false = true) by decide)] at H; exact H
                clear H
                have H := H1
                clear H1
                have H' := Aside0.mk H
                clear H
                have p4 : 0 ≤ (x3_1 : Int) := of_decide_eq_true (by first | (with_reducible assumption) | assumption)
                have q4 : x3_1 < (a0.size : Int) := of_decide_eq_true (by first | (with_reducible assumption) | assumption)
                have hx4 := bt_at a0 x3_1
                replace p4 := eq_true p4
                replace q4 := eq_true q4
                go_wp2_with (first | ((with_reducible refine gate_dst (N := 22) rfl ?_); (try (refine gate_guard (by rfl) ?_; dsimp only)); refine Kd.R_lit (Kd.int .u8) _ 5 ?hg (N := 22) ?hd (xs := ([bt a0 x3_1] : List Int)) (inner := [.int .u8 (bt a0 x3_1)]) (ok := fun _ => True) (okp := fun _ => True) ?hr ?hp (fun _ hk => hk) trivial (Below.refl _ _) (Nat.le_refl _) (by simp) ?_; (case hd => rfl); (case hg => rfl); (case hr => first | (go_simp; done) | (go_simp; rfl)); (case hp => exact (Reps.one (show Kd.M (Kd.int .u8) _ _ _ (bt a0 x3_1) [.int .u8 (bt a0 x3_1)] from rfl) (Reps.none _ _))); intro v164 w15 ho16 hb hg_ hnew_; clear hg_ hnew_; (first | rw [← Ny163.out] at ho16 | (simp only [Int.reduceToNat] at ho16; rw [← Ny163.out] at ho16)); have n0_ := Aside0.mk (Kd.R_lower ho16 (below_size (by repeat (first | (with_reducible first | exact HB.out | apply below_alloc | apply pw_below_drewN | apply below_drew1) | exact HB.out)))); have n1_ := Aside0.mk (below_step (by repeat (first | (with_reducible first | exact HB.out | apply below_alloc | apply pw_below_drewN | apply below_drew1) | exact HB.out)) hb); clear HB; have HO165 := n0_; have HB := n1_; clear n0_ n1_; clear hb ho16; have hcv17 := own_string (P := Try.prog) Try.underlying78 Try.underlying5 Try.underlying9 (Kd.own_of_R HO165.out)) | ((with_reducible refine gate_dst (N := 24) rfl ?_); (try (refine gate_guard (by rfl) ?_; dsimp only)); refine Kd.R_lit Kd.string _ 9 ?hg (N := 24) ?hd (xs := ([(⟨#[61]⟩ : ByteArray), (⟨#[36]⟩ : ByteArray), (⟨#[58]⟩ : ByteArray), (⟨#[34]⟩ : ByteArray), (⟨#[39]⟩ : ByteArray), (⟨#[92]⟩ : ByteArray), (⟨#[126]⟩ : ByteArray)] : List ByteArray)) (inner := [.string (⟨#[61]⟩ : ByteArray), .string (⟨#[36]⟩ : ByteArray), .string (⟨#[58]⟩ : ByteArray), .string (⟨#[34]⟩ : ByteArray), .string (⟨#[39]⟩ : ByteArray), .string (⟨#[92]⟩ : ByteArray), .string (⟨#[126]⟩ : ByteArray)]) (ok := fun _ => True) (okp := fun _ => True) ?hr ?hp (fun _ hk => hk) trivial (Below.refl _ _) (Nat.le_refl _) (by simp) ?_; (case hd => rfl); (case hg => rfl); (case hr => first | (go_simp; done) | (go_simp; rfl)); (case hp => exact (Reps.one (show Kd.M Kd.string _ _ _ (⟨#[61]⟩ : ByteArray) [.string (⟨#[61]⟩ : ByteArray)] from rfl) (Reps.one (show Kd.M Kd.string _ _ _ (⟨#[36]⟩ : ByteArray) [.string (⟨#[36]⟩ : ByteArray)] from rfl) (Reps.one (show Kd.M Kd.string _ _ _ (⟨#[58]⟩ : ByteArray) [.string (⟨#[58]⟩ : ByteArray)] from rfl) (Reps.one (show Kd.M Kd.string _ _ _ (⟨#[34]⟩ : ByteArray) [.string (⟨#[34]⟩ : ByteArray)] from rfl) (Reps.one (show Kd.M Kd.string _ _ _ (⟨#[39]⟩ : ByteArray) [.string (⟨#[39]⟩ : ByteArray)] from rfl) (Reps.one (show Kd.M Kd.string _ _ _ (⟨#[92]⟩ : ByteArray) [.string (⟨#[92]⟩ : ByteArray)] from rfl) (Reps.one (show Kd.M Kd.string _ _ _ (⟨#[126]⟩ : ByteArray) [.string (⟨#[126]⟩ : ByteArray)] from rfl) (Reps.none _ _))))))))); intro v167 w18 ho19 hb hg_ hnew_; clear hg_ hnew_; (first | rw [← Ny166.out] at ho19 | (simp only [Int.reduceToNat] at ho19; rw [← Ny166.out] at ho19)); have n0_ := Aside0.mk (Kd.R_below (by (with_reducible repeat (first | apply Kd.R_alloc | apply Kd.R_drewN | apply Kd.R_drew)); exact HO165.out) hb); have n1_ := Aside0.mk (Kd.R_lower ho19 (below_size (by repeat (first | (with_reducible first | exact HB.out | apply below_alloc | apply pw_below_drewN | apply below_drew1) | exact HB.out)))); have n2_ := Aside0.mk (below_step (by repeat (first | (with_reducible first | exact HB.out | apply below_alloc | apply pw_below_drewN | apply below_drew1) | exact HB.out)) hb); clear HO165; clear HB; have HO165 := n0_; have HO168 := n1_; have HB := n2_; clear n0_ n1_ n2_; clear hb ho19; obtain ⟨Ao20, co20, eo20⟩ := Kd.R_slice HO168.out; subst eo20) | (go_at_call 29; (with_reducible refine (spec_sayIn.calls k1 (strOfNums y163) _ _ y166 false _ ?side1 ?side2 A7.out).mono ?_); (case side1 => repeat (first | exact (Kd.R_reads' HO168.out).2.2 | (with_reducible refine Kd.C_alloc ?_ _) | (with_reducible refine Kd.C_drewN ?_ _) | (with_reducible refine Kd.C_drew ?_))); (case side2 => exact (Kd.R_reads' HO168.out).2.1); rintro e w' ⟨rfl, ⟨nd, rfl⟩⟩))
                go_roundg k1
                case measure => have := HK1.out; omega
                case rel => exact ⟨(wrap64 (x3_1 + 1)), (by first | rfl | (simp; done) | (simp [*]; done)), H', ⟨by have := HK1.out; omega⟩, ⟨by repeat (first | (with_reducible first | exact HB.out | apply below_alloc | apply pw_below_drewN | apply below_drew1) | exact HB.out)⟩⟩
        · rw [if_neg c3] at H
          exact absurd H (by simp)
      · rw [if_neg c2] at H
        have c2b0 : decide (x3_1 < (a0.size : Int)) = false := decide_eq_false c2
        clear c2
        obtain rfl := Option.some.inj H
        go_wp2
        go_ret
        exact ⟨by first | rfl | (cases hh : a0.toList <;> simp [hh] <;> rfl) | (cases hh : a0.toList <;> simp [hh]), by repeat (first | (with_reducible first | exact HB.out | apply below_alloc | apply pw_below_drewN | apply below_drew1) | exact HB.out)⟩

/-! ### spec_sayText: function 36 -/
def spec_sayText.f (k : Nat) (a0_0 : Int) (a0_1 : Int) (a0_2 : ByteArray) (l0_3 : List ByteArray) (l0_4 : List (S25)) : Option (Bool) := if a0_0 = 3 then ((spec_sayWord.f k a0_2).bind fun t171 => (some t171)) else (some false)
set_option maxHeartbeats 8000000 in
set_option maxRecDepth 100000 in
theorem spec_sayText.calls (k : Nat) (a0_0 : Int) (a0_1 : Int) (a0_2 : ByteArray) (A0_3 : Option Addr) (c0_3 : Nat) (l0_3 : List ByteArray) (A0_4 : Option Addr) (c0_4 : Nat) (l0_4 : List (S25)) (r : Bool) (w : World) (hr0_3 : Kd.C Kd.string w A0_3 l0_3.length l0_3) (hc0_3 : l0_3.length ≤ c0_3) (hr0_4 : Kd.C k25 w A0_4 l0_4.length l0_4) (hc0_4 : l0_4.length ≤ c0_4) (h : spec_sayText.f k a0_0 a0_1 a0_2 l0_3 l0_4 = some r) :
    Calls Try.prog 36 #[.agg #[.int .i64 a0_0, .int .i64 a0_1, .string a0_2, .slice A0_3 l0_3.length c0_3, .slice A0_4 l0_4.length c0_4]] w fun e w' => e = .returned (.bool r) ∧ Below w.heap.size w w' := by
  have hu25 := Try.underlying25
  have HR0_3 := Aside0.mk hr0_3
  have HC0_3 := Aside0.mk hc0_3
  clear hr0_3 hc0_3
  have HR0_4 := Aside0.mk hr0_4
  have HC0_4 := Aside0.mk hc0_4
  clear hr0_4 hc0_4
  have HB := Aside0.mk (Below.refl w.heap.size w)
  have H : (if a0_0 = 3 then ((spec_sayWord.f k a0_2).bind fun t171 => (some t171)) else (some false)) = some r := h
  clear h
  by_cases c2 : a0_0 = 3
  · rw [if_pos c2] at H
    have c2b0 : (a0_0 == 3) = true := beq_iff_eq.mpr c2
    have c2b1 : (a0_0 != 3) = false := bne_eq_false_iff_eq.mpr c2
    clear c2
    replace H := Option.bind_eq_some_iff.mp H
    obtain ⟨t171, A30, H⟩ := H
    replace H : (some t171) = some r := H
    have A3 := Aside0.mk A30
    clear A30
    obtain rfl := Option.some.inj H
    go_enter Try.func36, Try.ntmps36
    go_wp2_with (first | ((with_reducible refine gate_dst (N := 1) rfl ?_); refine box_event ?hg (N := 1) ?hd (cs := #[.int .i64 a0_0, .int .i64 a0_1, .string a0_2, .slice A0_3 l0_3.length c0_3, .slice A0_4 l0_4.length c0_4]) (t := 25) ?hr ?_; (case hd => rfl); (case hg => rfl); (case hr => first | (go_simp; done) | (go_simp; rfl)); intro gb170 hg w4 hbox hb; have n0_ := Aside0.mk (below_step (by repeat (first | (with_reducible first | exact HB.out | apply below_alloc | apply pw_below_drewN | apply below_drew1) | exact HB.out)) hb); have n1_ := Aside0.mk (hbox); have n2_ := Aside0.mk ((by rw [hg]; exact (below_size (by repeat (first | (with_reducible first | exact HB.out | apply below_alloc | apply pw_below_drewN | apply below_drew1) | exact HB.out))) : w.heap.size ≤ gb170)); have n3_ := Aside0.mk ((by rw [hg]; exact (below_size (by repeat (first | (with_reducible first | exact HB.out | apply below_alloc | apply pw_below_drewN | apply below_drew1) | exact HB.out))) : w.heap.size ≤ gb170)); clear HB; have HB := n0_; have BK170 := n1_; have GW170 := n2_; have GE170 := n3_; clear n0_ n1_ n2_ n3_; clear hb hbox hg; have hcz5_0 : w4.cell? ⟨gb170, 0, none⟩ = some (.int .i64 a0_0) := (blk_cell BK170.out 0).trans rfl; have hcz5_1 : w4.cell? ⟨gb170, 1, none⟩ = some (.int .i64 a0_1) := (blk_cell BK170.out 1).trans rfl; have hcz5_2 : w4.cell? ⟨gb170, 2, none⟩ = some (.string a0_2) := (blk_cell BK170.out 2).trans rfl; have hcz5_3 : w4.cell? ⟨gb170, 3, none⟩ = some (.slice A0_3 l0_3.length c0_3) := (blk_cell BK170.out 3).trans rfl; have hcz5_4 : w4.cell? ⟨gb170, 4, none⟩ = some (.slice A0_4 l0_4.length c0_4) := (blk_cell BK170.out 4).trans rfl; have hfz5_0 := blk_frozen BK170.out 0; have hfz5_1 := blk_frozen BK170.out 1; have hfz5_2 := blk_frozen BK170.out 2; have hfz5_3 := blk_frozen BK170.out 3; have hfz5_4 := blk_frozen BK170.out 4) | (go_at_call 41; (with_reducible refine (spec_sayWord.calls k a0_2 t171 _ A3.out).mono ?_); rintro e w6 ⟨rfl, hb⟩; have n0_ := Aside0.mk (blk_below (g := gb170) (o := .cells #[.int .i64 a0_0, .int .i64 a0_1, .string a0_2, .slice A0_3 l0_3.length c0_3, .slice A0_4 l0_4.length c0_4] 25 (0, 0)) (by (with_reducible repeat (first | refine blk_drewN ?_ _ | refine blk_drew ?_ | refine blk_alloc ?_ _)); exact BK170.out) hb); have n1_ := Aside0.mk (below_step (by repeat (first | (with_reducible first | exact HB.out | apply below_alloc | apply pw_below_drewN | apply below_drew1 | refine below_set ?_ GE170.out) | exact HB.out)) hb); clear BK170; clear HB; have BK170 := n0_; have HB := n1_; clear n0_ n1_; (try clear hb); (try clear hb2); (try clear hk); (try clear hi)))
    go_ret
    exact ⟨by first | rfl | (simp [errW_none, errW_some] <;> rfl) | (simp [*, errW_none, errW_some] <;> rfl), by repeat (first | (with_reducible first | exact HB.out | apply below_alloc | apply pw_below_drewN | apply below_drew1 | refine below_set ?_ GE170.out) | exact HB.out)⟩
  · rw [if_neg c2] at H
    have c2b0 : (a0_0 == 3) = false := beq_eq_false_iff_ne.mpr c2
    have c2b1 : (a0_0 != 3) = true := bne_iff_ne.mpr c2
    obtain rfl := Option.some.inj H
    go_enter Try.func36, Try.ntmps36
    go_wp2_with (first | ((with_reducible refine gate_dst (N := 1) rfl ?_); refine box_event ?hg (N := 1) ?hd (cs := #[.int .i64 a0_0, .int .i64 a0_1, .string a0_2, .slice A0_3 l0_3.length c0_3, .slice A0_4 l0_4.length c0_4]) (t := 25) ?hr ?_; (case hd => rfl); (case hg => rfl); (case hr => first | (go_simp; done) | (go_simp; rfl)); intro gb170 hg w7 hbox hb; have n0_ := Aside0.mk (below_step (by repeat (first | (with_reducible first | exact HB.out | apply below_alloc | apply pw_below_drewN | apply below_drew1) | exact HB.out)) hb); have n1_ := Aside0.mk (hbox); have n2_ := Aside0.mk ((by rw [hg]; exact (below_size (by repeat (first | (with_reducible first | exact HB.out | apply below_alloc | apply pw_below_drewN | apply below_drew1) | exact HB.out))) : w.heap.size ≤ gb170)); have n3_ := Aside0.mk ((by rw [hg]; exact (below_size (by repeat (first | (with_reducible first | exact HB.out | apply below_alloc | apply pw_below_drewN | apply below_drew1) | exact HB.out))) : w.heap.size ≤ gb170)); clear HB; have HB := n0_; have BK170 := n1_; have GW170 := n2_; have GE170 := n3_; clear n0_ n1_ n2_ n3_; clear hb hbox hg; have hcz8_0 : w7.cell? ⟨gb170, 0, none⟩ = some (.int .i64 a0_0) := (blk_cell BK170.out 0).trans rfl; have hcz8_1 : w7.cell? ⟨gb170, 1, none⟩ = some (.int .i64 a0_1) := (blk_cell BK170.out 1).trans rfl; have hcz8_2 : w7.cell? ⟨gb170, 2, none⟩ = some (.string a0_2) := (blk_cell BK170.out 2).trans rfl; have hcz8_3 : w7.cell? ⟨gb170, 3, none⟩ = some (.slice A0_3 l0_3.length c0_3) := (blk_cell BK170.out 3).trans rfl; have hcz8_4 : w7.cell? ⟨gb170, 4, none⟩ = some (.slice A0_4 l0_4.length c0_4) := (blk_cell BK170.out 4).trans rfl; have hfz8_0 := blk_frozen BK170.out 0; have hfz8_1 := blk_frozen BK170.out 1; have hfz8_2 := blk_frozen BK170.out 2; have hfz8_3 := blk_frozen BK170.out 3; have hfz8_4 := blk_frozen BK170.out 4))
    go_ret
    exact ⟨by first | rfl | (simp [errW_none, errW_some] <;> rfl) | (simp [*, errW_none, errW_some] <;> rfl), by repeat (first | (with_reducible first | exact HB.out | apply below_alloc | apply pw_below_drewN | apply below_drew1 | refine below_set ?_ GE170.out) | exact HB.out)⟩

/-! ### spec_sayKnown: function 28 -/
def spec_sayKnown.l0 : Nat → List ByteArray → List ByteArray → Int → Int → Int → ByteArray → List ByteArray → List (S25) → Option (Bool)
  | 0, _, _, _, _, _, _, _, _ => none
  | k + 1, x1, x2, x7, x173000, x173001, x173002, x173003, x173004 => if x7 < (x173003.length : Int) then (if 0 ≤ x7 then ((spec_sayIn.f k (rdOf ByteArray.empty x173003 x7) x1).bind fun t174 => (if t174 = true then (if x7 < (x173004.length : Int) then ((spec_sayText.f k ((rd_T25 x173004 x7).f0) ((rd_T25 x173004 x7).f1) ((rd_T25 x173004 x7).f2) ((rd_T25 x173004 x7).f3) ((rd_T25 x173004 x7).f4)).bind fun t176 => (if t176 = true then (spec_sayKnown.l0 k x1 x2 (wrap64 (x7 + 1)) x173000 x173001 x173002 x173003 x173004) else ((spec_sayIn.f k (rdOf ByteArray.empty x173003 x7) x2).bind fun t178 => (if t178 = true then (if (((rd_T25 x173004 x7).f0) = 1) then (spec_sayKnown.l0 k x1 x2 (wrap64 (x7 + 1)) x173000 x173001 x173002 x173003 x173004) else (some false)) else (some false))))) else (none)) else ((spec_sayIn.f k (rdOf ByteArray.empty x173003 x7) x2).bind fun t181 => (if t181 = true then (if x7 < (x173004.length : Int) then (if (((rd_T25 x173004 x7).f0) = 1) then (spec_sayKnown.l0 k x1 x2 (wrap64 (x7 + 1)) x173000 x173001 x173002 x173003 x173004) else (some false)) else (none)) else (some false))))) else (none)) else (if x173000 = 5 then (some (decide ((x173003.length : Int) > 0))) else (some false))
def spec_sayKnown.f (k : Nat) (a0_0 : Int) (a0_1 : Int) (a0_2 : ByteArray) (l0_3 : List ByteArray) (l0_4 : List (S25)) (l1 : List ByteArray) (l2 : List ByteArray) : Option (Bool) := spec_sayKnown.l0 k l1 l2 0 a0_0 a0_1 a0_2 l0_3 l0_4
set_option maxHeartbeats 8000000 in
set_option maxRecDepth 100000 in
theorem spec_sayKnown.calls (k : Nat) (a0_0 : Int) (a0_1 : Int) (a0_2 : ByteArray) (A0_3 : Option Addr) (c0_3 : Nat) (l0_3 : List ByteArray) (A0_4 : Option Addr) (c0_4 : Nat) (l0_4 : List (S25)) (A1 : Option Addr) (c1 : Nat) (l1 : List ByteArray) (A2 : Option Addr) (c2 : Nat) (l2 : List ByteArray) (r : Bool) (w : World) (hr0_3 : Kd.C Kd.string w A0_3 l0_3.length l0_3) (hc0_3 : l0_3.length ≤ c0_3) (hr0_4 : Kd.C k25 w A0_4 l0_4.length l0_4) (hc0_4 : l0_4.length ≤ c0_4) (hr1 : Kd.C Kd.string w A1 l1.length l1) (hc1 : l1.length ≤ c1) (hr2 : Kd.C Kd.string w A2 l2.length l2) (hc2 : l2.length ≤ c2) (h : spec_sayKnown.f k a0_0 a0_1 a0_2 l0_3 l0_4 l1 l2 = some r) :
    Calls Try.prog 28 #[.agg #[.int .i64 a0_0, .int .i64 a0_1, .string a0_2, .slice A0_3 l0_3.length c0_3, .slice A0_4 l0_4.length c0_4], .slice A1 l1.length c1, .slice A2 l2.length c2] w fun e w' => e = .returned (.bool r) ∧ Below w.heap.size w w' := by
  have hu25 := Try.underlying25
  have HR0_3 := Aside0.mk hr0_3
  have HC0_3 := Aside0.mk hc0_3
  clear hr0_3 hc0_3
  have HR0_4 := Aside0.mk hr0_4
  have HC0_4 := Aside0.mk hc0_4
  clear hr0_4 hc0_4
  have HR1 := Aside0.mk hr1
  have HC1 := Aside0.mk hc1
  clear hr1 hc1
  have HR2 := Aside0.mk hr2
  have HC2 := Aside0.mk hc2
  clear hr2 hc2
  have HB := Aside0.mk (Below.refl w.heap.size w)
  have H : (spec_sayKnown.l0 k l1 l2 0 a0_0 a0_1 a0_2 l0_3 l0_4) = some r := h
  clear h
  have H' := Aside0.mk H
  clear H
  go_enter Try.func28, Try.ntmps28
  go_wp2_with (first | ((with_reducible refine gate_dst (N := 3) rfl ?_); (try (refine gate_guard (by rfl) ?_; dsimp only)); refine box_event ?hg (N := 3) ?hd (cs := #[.int .i64 a0_0, .int .i64 a0_1, .string a0_2, .slice A0_3 l0_3.length c0_3, .slice A0_4 l0_4.length c0_4]) (t := 25) ?hr ?_; (case hd => rfl); (case hg => rfl); (case hr => first | (go_simp; done) | (go_simp; rfl)); intro gb172 hg w4 hbox hb; have n0_ := Aside0.mk (below_step (by repeat (first | (with_reducible first | exact HB.out | apply below_alloc | apply pw_below_drewN | apply below_drew1) | exact HB.out)) hb); have n1_ := Aside0.mk (hbox); have n2_ := Aside0.mk ((by rw [hg]; exact (below_size (by repeat (first | (with_reducible first | exact HB.out | apply below_alloc | apply pw_below_drewN | apply below_drew1) | exact HB.out))) : w.heap.size ≤ gb172)); have n3_ := Aside0.mk ((by rw [hg]; exact (below_size (by repeat (first | (with_reducible first | exact HB.out | apply below_alloc | apply pw_below_drewN | apply below_drew1) | exact HB.out))) : w.heap.size ≤ gb172)); clear HB; have HB := n0_; have BK172 := n1_; have GW172 := n2_; have GE172 := n3_; clear n0_ n1_ n2_ n3_; clear hb hbox hg))
  go_loopg [7] k (fun kq v7 w' => ∃ (x7_1 : Int), v7 = .int .i64 x7_1 ∧ Aside0 (spec_sayKnown.l0 kq l1 l2 x7_1 a0_0 a0_1 a0_2 l0_3 l0_4 = some r) ∧ Aside0 (kq ≤ k) ∧ Aside0 (w'.heap[gb172]? = some (.cells #[.int .i64 a0_0, .int .i64 a0_1, .string a0_2, (.slice A0_3 l0_3.length c0_3), (.slice A0_4 l0_4.length c0_4)] 25 (0, 0))) ∧ Aside0 (Below w.heap.size w w'))
  case atStart => exact ⟨(0), (by first | rfl | (simp; done) | (simp [*]; done)), H', ⟨Nat.le_refl _⟩, ⟨by (with_reducible repeat (first | refine blk_drewN ?_ _ | refine blk_drew ?_ | refine blk_alloc ?_ _)); exact BK172.out⟩, ⟨by repeat (first | (with_reducible first | exact HB.out | apply below_alloc | apply pw_below_drewN | apply below_drew1 | refine below_set ?_ GE172.out) | exact HB.out)⟩⟩
  case round =>
    clear H'
    try clear c1
    try clear c2
    try clear p2
    obtain ⟨x7_1, rfl, HA, HK1, BK172, HB⟩ := hrel
    cases gk with
    | zero => exact absurd HA.out (by simp [spec_sayKnown.l0])
    | succ k1 =>
      have H := HA.out
      clear HA
      simp only [spec_sayKnown.l0] at H
      by_cases c5 : x7_1 < (l0_3.length : Int)
      · rw [if_pos c5] at H
        have c5b0 : decide (x7_1 < (l0_3.length : Int)) = true := decide_eq_true c5
        clear c5
        by_cases c6 : 0 ≤ x7_1
        · rw [if_pos c6] at H
          have c6b0 : decide (0 ≤ x7_1) = true := decide_eq_true c6
          clear c6
          replace H := Option.bind_eq_some_iff.mp H
          obtain ⟨t174, A70, H⟩ := H
          replace H : (if t174 = true then (if x7_1 < (l0_4.length : Int) then ((spec_sayText.f k1 ((rd_T25 l0_4 x7_1).f0) ((rd_T25 l0_4 x7_1).f1) ((rd_T25 l0_4 x7_1).f2) ((rd_T25 l0_4 x7_1).f3) ((rd_T25 l0_4 x7_1).f4)).bind fun t176 => (if t176 = true then (spec_sayKnown.l0 k1 l1 l2 (wrap64 (x7_1 + 1)) a0_0 a0_1 a0_2 l0_3 l0_4) else ((spec_sayIn.f k1 (rdOf ByteArray.empty l0_3 x7_1) l2).bind fun t178 => (if t178 = true then (if (((rd_T25 l0_4 x7_1).f0) = 1) then (spec_sayKnown.l0 k1 l1 l2 (wrap64 (x7_1 + 1)) a0_0 a0_1 a0_2 l0_3 l0_4) else (some false)) else (some false))))) else (none)) else ((spec_sayIn.f k1 (rdOf ByteArray.empty l0_3 x7_1) l2).bind fun t181 => (if t181 = true then (if x7_1 < (l0_4.length : Int) then (if (((rd_T25 l0_4 x7_1).f0) = 1) then (spec_sayKnown.l0 k1 l1 l2 (wrap64 (x7_1 + 1)) a0_0 a0_1 a0_2 l0_3 l0_4) else (some false)) else (none)) else (some false)))) = some r := H
          have A7 := Aside0.mk A70
          clear A70
          by_cases c8 : t174 = true
          · subst c8
            have H1 : (if x7_1 < (l0_4.length : Int) then ((spec_sayText.f k1 ((rd_T25 l0_4 x7_1).f0) ((rd_T25 l0_4 x7_1).f1) ((rd_T25 l0_4 x7_1).f2) ((rd_T25 l0_4 x7_1).f3) ((rd_T25 l0_4 x7_1).f4)).bind fun t176 => (if t176 = true then (spec_sayKnown.l0 k1 l1 l2 (wrap64 (x7_1 + 1)) a0_0 a0_1 a0_2 l0_3 l0_4) else ((spec_sayIn.f k1 (rdOf ByteArray.empty l0_3 x7_1) l2).bind fun t178 => (if t178 = true then (if (((rd_T25 l0_4 x7_1).f0) = 1) then (spec_sayKnown.l0 k1 l1 l2 (wrap64 (x7_1 + 1)) a0_0 a0_1 a0_2 l0_3 l0_4) else (some false)) else (some false))))) else (none)) = some r := by rw [if_pos rfl] at H; exact H
            clear H
            have H := H1
            clear H1
            by_cases c9 : x7_1 < (l0_4.length : Int)
            · rw [if_pos c9] at H
              have c9b0 : decide (x7_1 < (l0_4.length : Int)) = true := decide_eq_true c9
              clear c9
              replace H := Option.bind_eq_some_iff.mp H
              obtain ⟨t176, A100, H⟩ := H
              replace H : (if t176 = true then (spec_sayKnown.l0 k1 l1 l2 (wrap64 (x7_1 + 1)) a0_0 a0_1 a0_2 l0_3 l0_4) else ((spec_sayIn.f k1 (rdOf ByteArray.empty l0_3 x7_1) l2).bind fun t178 => (if t178 = true then (if (((rd_T25 l0_4 x7_1).f0) = 1) then (spec_sayKnown.l0 k1 l1 l2 (wrap64 (x7_1 + 1)) a0_0 a0_1 a0_2 l0_3 l0_4) else (some false)) else (some false)))) = some r := H
              have A10 := Aside0.mk A100
              clear A100
              by_cases c11 : t176 = true
              · subst c11
                have H1 : (spec_sayKnown.l0 k1 l1 l2 (wrap64 (x7_1 + 1)) a0_0 a0_1 a0_2 l0_3 l0_4) = some r := by rw [if_pos rfl] at H; exact H
                clear H
                have H := H1
                clear H1
                have H' := Aside0.mk H
                clear H
                have hcz12_0 : wr.cell? ⟨gb172, 0, none⟩ = some (.int .i64 a0_0) := (blk_cell BK172.out 0).trans rfl
                have hcz12_1 : wr.cell? ⟨gb172, 1, none⟩ = some (.int .i64 a0_1) := (blk_cell BK172.out 1).trans rfl
                have hcz12_2 : wr.cell? ⟨gb172, 2, none⟩ = some (.string a0_2) := (blk_cell BK172.out 2).trans rfl
                have hcz12_3 : wr.cell? ⟨gb172, 3, none⟩ = some (.slice A0_3 l0_3.length c0_3) := (blk_cell BK172.out 3).trans rfl
                have hcz12_4 : wr.cell? ⟨gb172, 4, none⟩ = some (.slice A0_4 l0_4.length c0_4) := (blk_cell BK172.out 4).trans rfl
                have hfz12_0 := blk_frozen BK172.out 0
                have hfz12_1 := blk_frozen BK172.out 1
                have hfz12_2 := blk_frozen BK172.out 2
                have hfz12_3 := blk_frozen BK172.out 3
                have hfz12_4 := blk_frozen BK172.out 4
                have p173 : 0 ≤ (x7_1 : Int) := of_decide_eq_true (by first | (with_reducible assumption) | assumption)
                have q173 : x7_1 < (l0_3.length : Int) := of_decide_eq_true (by first | (with_reducible assumption) | assumption)
                obtain ⟨ad173, e173, hx173_0⟩ := Kd.at_string HR0_3.out x7_1 p173 q173
                cases e173
                replace hx173_0 := (HB.out.cell (World.block_lt_of_cell? w _ hx173_0)).trans hx173_0
                replace p173 := eq_true p173
                replace q173 := eq_true q173
                go_wp2_with (first | ((with_reducible refine gate_callee (f := 29) rfl ?_); refine goesL_ (some 21) rfl rfl Try.func29 (by kernel_rfl) rfl #[.string (rdOf ByteArray.empty l0_3 x7_1), .slice A1 l1.length c1] rfl (by (try simp only [List.map_toArray, List.map_cons, List.map_nil]); first | done | rfl | (simp only [List.length_drop, List.length_take]; rfl)) ?_; (with_reducible refine (spec_sayIn.calls k1 (rdOf ByteArray.empty l0_3 x7_1) _ _ l1 true _ ?side1 ?side2 A7.out).mono ?_); (case side1 => repeat (first | exact (Kd.C_below HR1.out HB.out) | (with_reducible refine Kd.C_alloc ?_ _) | (with_reducible refine Kd.C_drewN ?_ _) | (with_reducible refine Kd.C_drew ?_))); (case side2 => exact HC1.out); rintro e w' ⟨rfl, ⟨nd, rfl⟩⟩; refine ⟨_, rfl, ?_⟩; have p175 : 0 ≤ (x7_1 : Int) := of_decide_eq_true (by first | (with_reducible assumption) | assumption); have q175 : x7_1 < (l0_4.length : Int) := of_decide_eq_true (by first | (with_reducible assumption) | assumption); obtain ⟨ad175, A175_3, c175_3, A175_4, c175_4, e175, hx175_0, hx175_1, hx175_2, hx175_3, hx175_4, hl175_3, hi175_3, hl175_4, hi175_4⟩ := at_T25 HR0_4.out x7_1 p175 q175; cases e175; replace hx175_0 := (HB.out.cell (World.block_lt_of_cell? w _ hx175_0)).trans hx175_0; replace hx175_1 := (HB.out.cell (World.block_lt_of_cell? w _ hx175_1)).trans hx175_1; replace hx175_2 := (HB.out.cell (World.block_lt_of_cell? w _ hx175_2)).trans hx175_2; replace hx175_3 := (HB.out.cell (World.block_lt_of_cell? w _ hx175_3)).trans hx175_3; replace hx175_4 := (HB.out.cell (World.block_lt_of_cell? w _ hx175_4)).trans hx175_4; have HR175_3 := Aside0.mk hi175_3; have HC175_3 := Aside0.mk hl175_3; clear hi175_3 hl175_3; have HR175_4 := Aside0.mk hi175_4; have HC175_4 := Aside0.mk hl175_4; clear hi175_4 hl175_4; replace p175 := eq_true p175; replace q175 := eq_true q175) | (go_at_call 36; (with_reducible refine (spec_sayText.calls k1 ((rd_T25 l0_4 x7_1).f0) ((rd_T25 l0_4 x7_1).f1) ((rd_T25 l0_4 x7_1).f2) _ _ ((rd_T25 l0_4 x7_1).f3) _ _ ((rd_T25 l0_4 x7_1).f4) true _ ?side1 ?side2 ?side3 ?side4 A10.out).mono ?_); (case side1 => repeat (first | exact (Kd.C_below HR175_3.out (by repeat (first | (with_reducible first | exact HB.out | apply below_alloc | apply pw_below_drewN | apply below_drew1 | refine below_set ?_ GE172.out) | exact HB.out))) | (with_reducible refine Kd.C_alloc ?_ _) | (with_reducible refine Kd.C_drewN ?_ _) | (with_reducible refine Kd.C_drew ?_))); (case side2 => exact HC175_3.out); (case side3 => repeat (first | exact (Kd.C_below HR175_4.out (by repeat (first | (with_reducible first | exact HB.out | apply below_alloc | apply pw_below_drewN | apply below_drew1 | refine below_set ?_ GE172.out) | exact HB.out))) | (with_reducible refine Kd.C_alloc ?_ _) | (with_reducible refine Kd.C_drewN ?_ _) | (with_reducible refine Kd.C_drew ?_))); (case side4 => exact HC175_4.out); rintro e w13 ⟨rfl, hb⟩; have n0_ := Aside0.mk (blk_below (g := gb172) (o := .cells #[.int .i64 a0_0, .int .i64 a0_1, .string a0_2, .slice (some ad173) l0_3.length c0_3, .slice (some ad175) l0_4.length c0_4] 25 (0, 0)) (by (with_reducible repeat (first | refine blk_drewN ?_ _ | refine blk_drew ?_ | refine blk_alloc ?_ _)); exact BK172.out) hb); have n1_ := Aside0.mk (below_step (by repeat (first | (with_reducible first | exact HB.out | apply below_alloc | apply pw_below_drewN | apply below_drew1 | refine below_set ?_ GE172.out) | exact HB.out)) hb); clear BK172; clear HB; have BK172 := n0_; have HB := n1_; clear n0_ n1_; (try clear hb); (try clear hb2); (try clear hk); (try clear hi)))
                go_roundg k1
                case measure => have := HK1.out; omega
                case rel => exact ⟨(wrap64 (x7_1 + 1)), (by first | rfl | (simp; done) | (simp [*]; done)), H', ⟨by have := HK1.out; omega⟩, ⟨by (with_reducible repeat (first | refine blk_drewN ?_ _ | refine blk_drew ?_ | refine blk_alloc ?_ _)); exact BK172.out⟩, ⟨by repeat (first | (with_reducible first | exact HB.out | apply below_alloc | apply pw_below_drewN | apply below_drew1 | refine below_set ?_ GE172.out) | exact HB.out)⟩⟩
              · replace c11 := Bool.eq_false_iff.mpr c11
                subst c11
                have H1 : ((spec_sayIn.f k1 (rdOf ByteArray.empty l0_3 x7_1) l2).bind fun t178 => (if t178 = true then (if (((rd_T25 l0_4 x7_1).f0) = 1) then (spec_sayKnown.l0 k1 l1 l2 (wrap64 (x7_1 + 1)) a0_0 a0_1 a0_2 l0_3 l0_4) else (some false)) else (some false))) = some r := by rw [if_neg (show ¬ (false = true) by decide)] at H; exact H
                clear H
                have H := H1
                clear H1
                replace H := Option.bind_eq_some_iff.mp H
                obtain ⟨t178, A140, H⟩ := H
                replace H : (if t178 = true then (if (((rd_T25 l0_4 x7_1).f0) = 1) then (spec_sayKnown.l0 k1 l1 l2 (wrap64 (x7_1 + 1)) a0_0 a0_1 a0_2 l0_3 l0_4) else (some false)) else (some false)) = some r := H
                have A14 := Aside0.mk A140
                clear A140
                by_cases c15 : t178 = true
                · subst c15
                  have H1 : (if (((rd_T25 l0_4 x7_1).f0) = 1) then (spec_sayKnown.l0 k1 l1 l2 (wrap64 (x7_1 + 1)) a0_0 a0_1 a0_2 l0_3 l0_4) else (some false)) = some r := by rw [if_pos rfl] at H; exact H
                  clear H
                  have H := H1
                  clear H1
                  by_cases c16 : (((rd_T25 l0_4 x7_1).f0) = 1)
                  · rw [if_pos c16] at H
                    have c16b0 : (((rd_T25 l0_4 x7_1).f0) == 1) = true := beq_iff_eq.mpr c16
                    have c16b1 : (((rd_T25 l0_4 x7_1).f0) != 1) = false := bne_eq_false_iff_eq.mpr c16
                    clear c16
                    have H' := Aside0.mk H
                    clear H
                    have hcz17_0 : wr.cell? ⟨gb172, 0, none⟩ = some (.int .i64 a0_0) := (blk_cell BK172.out 0).trans rfl
                    have hcz17_1 : wr.cell? ⟨gb172, 1, none⟩ = some (.int .i64 a0_1) := (blk_cell BK172.out 1).trans rfl
                    have hcz17_2 : wr.cell? ⟨gb172, 2, none⟩ = some (.string a0_2) := (blk_cell BK172.out 2).trans rfl
                    have hcz17_3 : wr.cell? ⟨gb172, 3, none⟩ = some (.slice A0_3 l0_3.length c0_3) := (blk_cell BK172.out 3).trans rfl
                    have hcz17_4 : wr.cell? ⟨gb172, 4, none⟩ = some (.slice A0_4 l0_4.length c0_4) := (blk_cell BK172.out 4).trans rfl
                    have hfz17_0 := blk_frozen BK172.out 0
                    have hfz17_1 := blk_frozen BK172.out 1
                    have hfz17_2 := blk_frozen BK172.out 2
                    have hfz17_3 := blk_frozen BK172.out 3
                    have hfz17_4 := blk_frozen BK172.out 4
                    have p173 : 0 ≤ (x7_1 : Int) := of_decide_eq_true (by first | (with_reducible assumption) | assumption)
                    have q173 : x7_1 < (l0_3.length : Int) := of_decide_eq_true (by first | (with_reducible assumption) | assumption)
                    obtain ⟨ad173, e173, hx173_0⟩ := Kd.at_string HR0_3.out x7_1 p173 q173
                    cases e173
                    replace hx173_0 := (HB.out.cell (World.block_lt_of_cell? w _ hx173_0)).trans hx173_0
                    replace p173 := eq_true p173
                    replace q173 := eq_true q173
                    go_wp2_with (first | ((with_reducible refine gate_callee (f := 29) rfl ?_); refine goesL_ (some 21) rfl rfl Try.func29 (by kernel_rfl) rfl #[.string (rdOf ByteArray.empty l0_3 x7_1), .slice A1 l1.length c1] rfl (by (try simp only [List.map_toArray, List.map_cons, List.map_nil]); first | done | rfl | (simp only [List.length_drop, List.length_take]; rfl)) ?_; (with_reducible refine (spec_sayIn.calls k1 (rdOf ByteArray.empty l0_3 x7_1) _ _ l1 true _ ?side1 ?side2 A7.out).mono ?_); (case side1 => repeat (first | exact (Kd.C_below HR1.out HB.out) | (with_reducible refine Kd.C_alloc ?_ _) | (with_reducible refine Kd.C_drewN ?_ _) | (with_reducible refine Kd.C_drew ?_))); (case side2 => exact HC1.out); rintro e w' ⟨rfl, ⟨nd, rfl⟩⟩; refine ⟨_, rfl, ?_⟩; have p175 : 0 ≤ (x7_1 : Int) := of_decide_eq_true (by first | (with_reducible assumption) | assumption); have q175 : x7_1 < (l0_4.length : Int) := of_decide_eq_true (by first | (with_reducible assumption) | assumption); obtain ⟨ad175, A175_3, c175_3, A175_4, c175_4, e175, hx175_0, hx175_1, hx175_2, hx175_3, hx175_4, hl175_3, hi175_3, hl175_4, hi175_4⟩ := at_T25 HR0_4.out x7_1 p175 q175; cases e175; replace hx175_0 := (HB.out.cell (World.block_lt_of_cell? w _ hx175_0)).trans hx175_0; replace hx175_1 := (HB.out.cell (World.block_lt_of_cell? w _ hx175_1)).trans hx175_1; replace hx175_2 := (HB.out.cell (World.block_lt_of_cell? w _ hx175_2)).trans hx175_2; replace hx175_3 := (HB.out.cell (World.block_lt_of_cell? w _ hx175_3)).trans hx175_3; replace hx175_4 := (HB.out.cell (World.block_lt_of_cell? w _ hx175_4)).trans hx175_4; have HR175_3 := Aside0.mk hi175_3; have HC175_3 := Aside0.mk hl175_3; clear hi175_3 hl175_3; have HR175_4 := Aside0.mk hi175_4; have HC175_4 := Aside0.mk hl175_4; clear hi175_4 hl175_4; replace p175 := eq_true p175; replace q175 := eq_true q175) | (go_at_call 36; (with_reducible refine (spec_sayText.calls k1 ((rd_T25 l0_4 x7_1).f0) ((rd_T25 l0_4 x7_1).f1) ((rd_T25 l0_4 x7_1).f2) _ _ ((rd_T25 l0_4 x7_1).f3) _ _ ((rd_T25 l0_4 x7_1).f4) false _ ?side1 ?side2 ?side3 ?side4 A10.out).mono ?_); (case side1 => repeat (first | exact (Kd.C_below HR175_3.out (by repeat (first | (with_reducible first | exact HB.out | apply below_alloc | apply pw_below_drewN | apply below_drew1 | refine below_set ?_ GE172.out) | exact HB.out))) | (with_reducible refine Kd.C_alloc ?_ _) | (with_reducible refine Kd.C_drewN ?_ _) | (with_reducible refine Kd.C_drew ?_))); (case side2 => exact HC175_3.out); (case side3 => repeat (first | exact (Kd.C_below HR175_4.out (by repeat (first | (with_reducible first | exact HB.out | apply below_alloc | apply pw_below_drewN | apply below_drew1 | refine below_set ?_ GE172.out) | exact HB.out))) | (with_reducible refine Kd.C_alloc ?_ _) | (with_reducible refine Kd.C_drewN ?_ _) | (with_reducible refine Kd.C_drew ?_))); (case side4 => exact HC175_4.out); rintro e w18 ⟨rfl, hb⟩; have n0_ := Aside0.mk (blk_below (g := gb172) (o := .cells #[.int .i64 a0_0, .int .i64 a0_1, .string a0_2, .slice (some ad173) l0_3.length c0_3, .slice (some ad175) l0_4.length c0_4] 25 (0, 0)) (by (with_reducible repeat (first | refine blk_drewN ?_ _ | refine blk_drew ?_ | refine blk_alloc ?_ _)); exact BK172.out) hb); have n1_ := Aside0.mk (below_step (by repeat (first | (with_reducible first | exact HB.out | apply below_alloc | apply pw_below_drewN | apply below_drew1 | refine below_set ?_ GE172.out) | exact HB.out)) hb); clear BK172; clear HB; have BK172 := n0_; have HB := n1_; clear n0_ n1_; (try clear hb); (try clear hb2); (try clear hk); (try clear hi); have hcz19_0 : w18.cell? ⟨gb172, 0, none⟩ = some (.int .i64 a0_0) := (blk_cell BK172.out 0).trans rfl; have hcz19_1 : w18.cell? ⟨gb172, 1, none⟩ = some (.int .i64 a0_1) := (blk_cell BK172.out 1).trans rfl; have hcz19_2 : w18.cell? ⟨gb172, 2, none⟩ = some (.string a0_2) := (blk_cell BK172.out 2).trans rfl; have hcz19_3 : w18.cell? ⟨gb172, 3, none⟩ = some (.slice (some ad173) l0_3.length c0_3) := (blk_cell BK172.out 3).trans rfl; have hcz19_4 : w18.cell? ⟨gb172, 4, none⟩ = some (.slice (some ad175) l0_4.length c0_4) := (blk_cell BK172.out 4).trans rfl; have hfz19_0 := blk_frozen BK172.out 0; have hfz19_1 := blk_frozen BK172.out 1; have hfz19_2 := blk_frozen BK172.out 2; have hfz19_3 := blk_frozen BK172.out 3; have hfz19_4 := blk_frozen BK172.out 4; have p177 : 0 ≤ (x7_1 : Int) := of_decide_eq_true (by first | (with_reducible assumption) | assumption); have q177 : x7_1 < (l0_3.length : Int) := of_decide_eq_true (by first | (with_reducible assumption) | assumption); obtain ⟨ad177, e177, hx177_0⟩ := Kd.at_string HR0_3.out x7_1 p177 q177; obtain rfl : ad173 = ad177 := (by injection e177); replace hx177_0 := (HB.out.cell (World.block_lt_of_cell? w _ hx177_0)).trans hx177_0; replace p177 := eq_true p177; replace q177 := eq_true q177) | (go_at_call 29; (with_reducible refine (spec_sayIn.calls k1 (rdOf ByteArray.empty l0_3 x7_1) _ _ l2 true _ ?side1 ?side2 A14.out).mono ?_); (case side1 => repeat (first | exact (Kd.C_below HR2.out HB.out) | (with_reducible refine Kd.C_alloc ?_ _) | (with_reducible refine Kd.C_drewN ?_ _) | (with_reducible refine Kd.C_drew ?_))); (case side2 => exact HC2.out); rintro e w' ⟨rfl, ⟨nd, rfl⟩⟩; have p179 : 0 ≤ (x7_1 : Int) := of_decide_eq_true (by first | (with_reducible assumption) | assumption); have q179 : x7_1 < (l0_4.length : Int) := of_decide_eq_true (by first | (with_reducible assumption) | assumption); obtain ⟨ad179, A179_3, c179_3, A179_4, c179_4, e179, hx179_0, hx179_1, hx179_2, hx179_3, hx179_4, hl179_3, hi179_3, hl179_4, hi179_4⟩ := at_T25 HR0_4.out x7_1 p179 q179; obtain rfl : ad175 = ad179 := (by injection e179); replace hx179_0 := (HB.out.cell (World.block_lt_of_cell? w _ hx179_0)).trans hx179_0; replace hx179_1 := (HB.out.cell (World.block_lt_of_cell? w _ hx179_1)).trans hx179_1; replace hx179_2 := (HB.out.cell (World.block_lt_of_cell? w _ hx179_2)).trans hx179_2; replace hx179_3 := (HB.out.cell (World.block_lt_of_cell? w _ hx179_3)).trans hx179_3; replace hx179_4 := (HB.out.cell (World.block_lt_of_cell? w _ hx179_4)).trans hx179_4; have HR179_3 := Aside0.mk hi179_3; have HC179_3 := Aside0.mk hl179_3; clear hi179_3 hl179_3; have HR179_4 := Aside0.mk hi179_4; have HC179_4 := Aside0.mk hl179_4; clear hi179_4 hl179_4; replace p179 := eq_true p179; replace q179 := eq_true q179))
                    go_roundg k1
                    case measure => have := HK1.out; omega
                    case rel => exact ⟨(wrap64 (x7_1 + 1)), (by first | rfl | (simp; done) | (simp [*]; done)), H', ⟨by have := HK1.out; omega⟩, ⟨by (with_reducible repeat (first | refine blk_drewN ?_ _ | refine blk_drew ?_ | refine blk_alloc ?_ _)); exact BK172.out⟩, ⟨by repeat (first | (with_reducible first | exact HB.out | apply below_alloc | apply pw_below_drewN | apply below_drew1 | refine below_set ?_ GE172.out) | exact HB.out)⟩⟩
                  · rw [if_neg c16] at H
                    have c16b0 : (((rd_T25 l0_4 x7_1).f0) == 1) = false := beq_eq_false_iff_ne.mpr c16
                    have c16b1 : (((rd_T25 l0_4 x7_1).f0) != 1) = true := bne_iff_ne.mpr c16
                    obtain rfl := Option.some.inj H
                    have hcz20_0 : wr.cell? ⟨gb172, 0, none⟩ = some (.int .i64 a0_0) := (blk_cell BK172.out 0).trans rfl
                    have hcz20_1 : wr.cell? ⟨gb172, 1, none⟩ = some (.int .i64 a0_1) := (blk_cell BK172.out 1).trans rfl
                    have hcz20_2 : wr.cell? ⟨gb172, 2, none⟩ = some (.string a0_2) := (blk_cell BK172.out 2).trans rfl
                    have hcz20_3 : wr.cell? ⟨gb172, 3, none⟩ = some (.slice A0_3 l0_3.length c0_3) := (blk_cell BK172.out 3).trans rfl
                    have hcz20_4 : wr.cell? ⟨gb172, 4, none⟩ = some (.slice A0_4 l0_4.length c0_4) := (blk_cell BK172.out 4).trans rfl
                    have hfz20_0 := blk_frozen BK172.out 0
                    have hfz20_1 := blk_frozen BK172.out 1
                    have hfz20_2 := blk_frozen BK172.out 2
                    have hfz20_3 := blk_frozen BK172.out 3
                    have hfz20_4 := blk_frozen BK172.out 4
                    have p173 : 0 ≤ (x7_1 : Int) := of_decide_eq_true (by first | (with_reducible assumption) | assumption)
                    have q173 : x7_1 < (l0_3.length : Int) := of_decide_eq_true (by first | (with_reducible assumption) | assumption)
                    obtain ⟨ad173, e173, hx173_0⟩ := Kd.at_string HR0_3.out x7_1 p173 q173
                    cases e173
                    replace hx173_0 := (HB.out.cell (World.block_lt_of_cell? w _ hx173_0)).trans hx173_0
                    replace p173 := eq_true p173
                    replace q173 := eq_true q173
                    go_wp2_with (first | ((with_reducible refine gate_callee (f := 29) rfl ?_); refine goesL_ (some 21) rfl rfl Try.func29 (by kernel_rfl) rfl #[.string (rdOf ByteArray.empty l0_3 x7_1), .slice A1 l1.length c1] rfl (by (try simp only [List.map_toArray, List.map_cons, List.map_nil]); first | done | rfl | (simp only [List.length_drop, List.length_take]; rfl)) ?_; (with_reducible refine (spec_sayIn.calls k1 (rdOf ByteArray.empty l0_3 x7_1) _ _ l1 true _ ?side1 ?side2 A7.out).mono ?_); (case side1 => repeat (first | exact (Kd.C_below HR1.out HB.out) | (with_reducible refine Kd.C_alloc ?_ _) | (with_reducible refine Kd.C_drewN ?_ _) | (with_reducible refine Kd.C_drew ?_))); (case side2 => exact HC1.out); rintro e w' ⟨rfl, ⟨nd, rfl⟩⟩; refine ⟨_, rfl, ?_⟩; have p175 : 0 ≤ (x7_1 : Int) := of_decide_eq_true (by first | (with_reducible assumption) | assumption); have q175 : x7_1 < (l0_4.length : Int) := of_decide_eq_true (by first | (with_reducible assumption) | assumption); obtain ⟨ad175, A175_3, c175_3, A175_4, c175_4, e175, hx175_0, hx175_1, hx175_2, hx175_3, hx175_4, hl175_3, hi175_3, hl175_4, hi175_4⟩ := at_T25 HR0_4.out x7_1 p175 q175; cases e175; replace hx175_0 := (HB.out.cell (World.block_lt_of_cell? w _ hx175_0)).trans hx175_0; replace hx175_1 := (HB.out.cell (World.block_lt_of_cell? w _ hx175_1)).trans hx175_1; replace hx175_2 := (HB.out.cell (World.block_lt_of_cell? w _ hx175_2)).trans hx175_2; replace hx175_3 := (HB.out.cell (World.block_lt_of_cell? w _ hx175_3)).trans hx175_3; replace hx175_4 := (HB.out.cell (World.block_lt_of_cell? w _ hx175_4)).trans hx175_4; have HR175_3 := Aside0.mk hi175_3; have HC175_3 := Aside0.mk hl175_3; clear hi175_3 hl175_3; have HR175_4 := Aside0.mk hi175_4; have HC175_4 := Aside0.mk hl175_4; clear hi175_4 hl175_4; replace p175 := eq_true p175; replace q175 := eq_true q175) | (go_at_call 36; (with_reducible refine (spec_sayText.calls k1 ((rd_T25 l0_4 x7_1).f0) ((rd_T25 l0_4 x7_1).f1) ((rd_T25 l0_4 x7_1).f2) _ _ ((rd_T25 l0_4 x7_1).f3) _ _ ((rd_T25 l0_4 x7_1).f4) false _ ?side1 ?side2 ?side3 ?side4 A10.out).mono ?_); (case side1 => repeat (first | exact (Kd.C_below HR175_3.out (by repeat (first | (with_reducible first | exact HB.out | apply below_alloc | apply pw_below_drewN | apply below_drew1 | refine below_set ?_ GE172.out) | exact HB.out))) | (with_reducible refine Kd.C_alloc ?_ _) | (with_reducible refine Kd.C_drewN ?_ _) | (with_reducible refine Kd.C_drew ?_))); (case side2 => exact HC175_3.out); (case side3 => repeat (first | exact (Kd.C_below HR175_4.out (by repeat (first | (with_reducible first | exact HB.out | apply below_alloc | apply pw_below_drewN | apply below_drew1 | refine below_set ?_ GE172.out) | exact HB.out))) | (with_reducible refine Kd.C_alloc ?_ _) | (with_reducible refine Kd.C_drewN ?_ _) | (with_reducible refine Kd.C_drew ?_))); (case side4 => exact HC175_4.out); rintro e w21 ⟨rfl, hb⟩; have n0_ := Aside0.mk (blk_below (g := gb172) (o := .cells #[.int .i64 a0_0, .int .i64 a0_1, .string a0_2, .slice (some ad173) l0_3.length c0_3, .slice (some ad175) l0_4.length c0_4] 25 (0, 0)) (by (with_reducible repeat (first | refine blk_drewN ?_ _ | refine blk_drew ?_ | refine blk_alloc ?_ _)); exact BK172.out) hb); have n1_ := Aside0.mk (below_step (by repeat (first | (with_reducible first | exact HB.out | apply below_alloc | apply pw_below_drewN | apply below_drew1 | refine below_set ?_ GE172.out) | exact HB.out)) hb); clear BK172; clear HB; have BK172 := n0_; have HB := n1_; clear n0_ n1_; (try clear hb); (try clear hb2); (try clear hk); (try clear hi); have hcz22_0 : w21.cell? ⟨gb172, 0, none⟩ = some (.int .i64 a0_0) := (blk_cell BK172.out 0).trans rfl; have hcz22_1 : w21.cell? ⟨gb172, 1, none⟩ = some (.int .i64 a0_1) := (blk_cell BK172.out 1).trans rfl; have hcz22_2 : w21.cell? ⟨gb172, 2, none⟩ = some (.string a0_2) := (blk_cell BK172.out 2).trans rfl; have hcz22_3 : w21.cell? ⟨gb172, 3, none⟩ = some (.slice (some ad173) l0_3.length c0_3) := (blk_cell BK172.out 3).trans rfl; have hcz22_4 : w21.cell? ⟨gb172, 4, none⟩ = some (.slice (some ad175) l0_4.length c0_4) := (blk_cell BK172.out 4).trans rfl; have hfz22_0 := blk_frozen BK172.out 0; have hfz22_1 := blk_frozen BK172.out 1; have hfz22_2 := blk_frozen BK172.out 2; have hfz22_3 := blk_frozen BK172.out 3; have hfz22_4 := blk_frozen BK172.out 4; have p177 : 0 ≤ (x7_1 : Int) := of_decide_eq_true (by first | (with_reducible assumption) | assumption); have q177 : x7_1 < (l0_3.length : Int) := of_decide_eq_true (by first | (with_reducible assumption) | assumption); obtain ⟨ad177, e177, hx177_0⟩ := Kd.at_string HR0_3.out x7_1 p177 q177; obtain rfl : ad173 = ad177 := (by injection e177); replace hx177_0 := (HB.out.cell (World.block_lt_of_cell? w _ hx177_0)).trans hx177_0; replace p177 := eq_true p177; replace q177 := eq_true q177) | (go_at_call 29; (with_reducible refine (spec_sayIn.calls k1 (rdOf ByteArray.empty l0_3 x7_1) _ _ l2 true _ ?side1 ?side2 A14.out).mono ?_); (case side1 => repeat (first | exact (Kd.C_below HR2.out HB.out) | (with_reducible refine Kd.C_alloc ?_ _) | (with_reducible refine Kd.C_drewN ?_ _) | (with_reducible refine Kd.C_drew ?_))); (case side2 => exact HC2.out); rintro e w' ⟨rfl, ⟨nd, rfl⟩⟩; have p179 : 0 ≤ (x7_1 : Int) := of_decide_eq_true (by first | (with_reducible assumption) | assumption); have q179 : x7_1 < (l0_4.length : Int) := of_decide_eq_true (by first | (with_reducible assumption) | assumption); obtain ⟨ad179, A179_3, c179_3, A179_4, c179_4, e179, hx179_0, hx179_1, hx179_2, hx179_3, hx179_4, hl179_3, hi179_3, hl179_4, hi179_4⟩ := at_T25 HR0_4.out x7_1 p179 q179; obtain rfl : ad175 = ad179 := (by injection e179); replace hx179_0 := (HB.out.cell (World.block_lt_of_cell? w _ hx179_0)).trans hx179_0; replace hx179_1 := (HB.out.cell (World.block_lt_of_cell? w _ hx179_1)).trans hx179_1; replace hx179_2 := (HB.out.cell (World.block_lt_of_cell? w _ hx179_2)).trans hx179_2; replace hx179_3 := (HB.out.cell (World.block_lt_of_cell? w _ hx179_3)).trans hx179_3; replace hx179_4 := (HB.out.cell (World.block_lt_of_cell? w _ hx179_4)).trans hx179_4; have HR179_3 := Aside0.mk hi179_3; have HC179_3 := Aside0.mk hl179_3; clear hi179_3 hl179_3; have HR179_4 := Aside0.mk hi179_4; have HC179_4 := Aside0.mk hl179_4; clear hi179_4 hl179_4; replace p179 := eq_true p179; replace q179 := eq_true q179))
                    go_ret
                    exact ⟨by first | rfl | (simp [errW_none, errW_some] <;> rfl) | (simp [*, errW_none, errW_some] <;> rfl), by repeat (first | (with_reducible first | exact HB.out | apply below_alloc | apply pw_below_drewN | apply below_drew1 | refine below_set ?_ GE172.out) | exact HB.out)⟩
                · replace c15 := Bool.eq_false_iff.mpr c15
                  subst c15
                  have H1 : (some false) = some r := by rw [if_neg (show ¬ (false = true) by decide)] at H; exact H
                  clear H
                  have H := H1
                  clear H1
                  obtain rfl := Option.some.inj H
                  have hcz23_0 : wr.cell? ⟨gb172, 0, none⟩ = some (.int .i64 a0_0) := (blk_cell BK172.out 0).trans rfl
                  have hcz23_1 : wr.cell? ⟨gb172, 1, none⟩ = some (.int .i64 a0_1) := (blk_cell BK172.out 1).trans rfl
                  have hcz23_2 : wr.cell? ⟨gb172, 2, none⟩ = some (.string a0_2) := (blk_cell BK172.out 2).trans rfl
                  have hcz23_3 : wr.cell? ⟨gb172, 3, none⟩ = some (.slice A0_3 l0_3.length c0_3) := (blk_cell BK172.out 3).trans rfl
                  have hcz23_4 : wr.cell? ⟨gb172, 4, none⟩ = some (.slice A0_4 l0_4.length c0_4) := (blk_cell BK172.out 4).trans rfl
                  have hfz23_0 := blk_frozen BK172.out 0
                  have hfz23_1 := blk_frozen BK172.out 1
                  have hfz23_2 := blk_frozen BK172.out 2
                  have hfz23_3 := blk_frozen BK172.out 3
                  have hfz23_4 := blk_frozen BK172.out 4
                  have p173 : 0 ≤ (x7_1 : Int) := of_decide_eq_true (by first | (with_reducible assumption) | assumption)
                  have q173 : x7_1 < (l0_3.length : Int) := of_decide_eq_true (by first | (with_reducible assumption) | assumption)
                  obtain ⟨ad173, e173, hx173_0⟩ := Kd.at_string HR0_3.out x7_1 p173 q173
                  cases e173
                  replace hx173_0 := (HB.out.cell (World.block_lt_of_cell? w _ hx173_0)).trans hx173_0
                  replace p173 := eq_true p173
                  replace q173 := eq_true q173
                  go_wp2_with (first | ((with_reducible refine gate_callee (f := 29) rfl ?_); refine goesL_ (some 21) rfl rfl Try.func29 (by kernel_rfl) rfl #[.string (rdOf ByteArray.empty l0_3 x7_1), .slice A1 l1.length c1] rfl (by (try simp only [List.map_toArray, List.map_cons, List.map_nil]); first | done | rfl | (simp only [List.length_drop, List.length_take]; rfl)) ?_; (with_reducible refine (spec_sayIn.calls k1 (rdOf ByteArray.empty l0_3 x7_1) _ _ l1 true _ ?side1 ?side2 A7.out).mono ?_); (case side1 => repeat (first | exact (Kd.C_below HR1.out HB.out) | (with_reducible refine Kd.C_alloc ?_ _) | (with_reducible refine Kd.C_drewN ?_ _) | (with_reducible refine Kd.C_drew ?_))); (case side2 => exact HC1.out); rintro e w' ⟨rfl, ⟨nd, rfl⟩⟩; refine ⟨_, rfl, ?_⟩; have p175 : 0 ≤ (x7_1 : Int) := of_decide_eq_true (by first | (with_reducible assumption) | assumption); have q175 : x7_1 < (l0_4.length : Int) := of_decide_eq_true (by first | (with_reducible assumption) | assumption); obtain ⟨ad175, A175_3, c175_3, A175_4, c175_4, e175, hx175_0, hx175_1, hx175_2, hx175_3, hx175_4, hl175_3, hi175_3, hl175_4, hi175_4⟩ := at_T25 HR0_4.out x7_1 p175 q175; cases e175; replace hx175_0 := (HB.out.cell (World.block_lt_of_cell? w _ hx175_0)).trans hx175_0; replace hx175_1 := (HB.out.cell (World.block_lt_of_cell? w _ hx175_1)).trans hx175_1; replace hx175_2 := (HB.out.cell (World.block_lt_of_cell? w _ hx175_2)).trans hx175_2; replace hx175_3 := (HB.out.cell (World.block_lt_of_cell? w _ hx175_3)).trans hx175_3; replace hx175_4 := (HB.out.cell (World.block_lt_of_cell? w _ hx175_4)).trans hx175_4; have HR175_3 := Aside0.mk hi175_3; have HC175_3 := Aside0.mk hl175_3; clear hi175_3 hl175_3; have HR175_4 := Aside0.mk hi175_4; have HC175_4 := Aside0.mk hl175_4; clear hi175_4 hl175_4; replace p175 := eq_true p175; replace q175 := eq_true q175) | (go_at_call 36; (with_reducible refine (spec_sayText.calls k1 ((rd_T25 l0_4 x7_1).f0) ((rd_T25 l0_4 x7_1).f1) ((rd_T25 l0_4 x7_1).f2) _ _ ((rd_T25 l0_4 x7_1).f3) _ _ ((rd_T25 l0_4 x7_1).f4) false _ ?side1 ?side2 ?side3 ?side4 A10.out).mono ?_); (case side1 => repeat (first | exact (Kd.C_below HR175_3.out (by repeat (first | (with_reducible first | exact HB.out | apply below_alloc | apply pw_below_drewN | apply below_drew1 | refine below_set ?_ GE172.out) | exact HB.out))) | (with_reducible refine Kd.C_alloc ?_ _) | (with_reducible refine Kd.C_drewN ?_ _) | (with_reducible refine Kd.C_drew ?_))); (case side2 => exact HC175_3.out); (case side3 => repeat (first | exact (Kd.C_below HR175_4.out (by repeat (first | (with_reducible first | exact HB.out | apply below_alloc | apply pw_below_drewN | apply below_drew1 | refine below_set ?_ GE172.out) | exact HB.out))) | (with_reducible refine Kd.C_alloc ?_ _) | (with_reducible refine Kd.C_drewN ?_ _) | (with_reducible refine Kd.C_drew ?_))); (case side4 => exact HC175_4.out); rintro e w24 ⟨rfl, hb⟩; have n0_ := Aside0.mk (blk_below (g := gb172) (o := .cells #[.int .i64 a0_0, .int .i64 a0_1, .string a0_2, .slice (some ad173) l0_3.length c0_3, .slice (some ad175) l0_4.length c0_4] 25 (0, 0)) (by (with_reducible repeat (first | refine blk_drewN ?_ _ | refine blk_drew ?_ | refine blk_alloc ?_ _)); exact BK172.out) hb); have n1_ := Aside0.mk (below_step (by repeat (first | (with_reducible first | exact HB.out | apply below_alloc | apply pw_below_drewN | apply below_drew1 | refine below_set ?_ GE172.out) | exact HB.out)) hb); clear BK172; clear HB; have BK172 := n0_; have HB := n1_; clear n0_ n1_; (try clear hb); (try clear hb2); (try clear hk); (try clear hi); have hcz25_0 : w24.cell? ⟨gb172, 0, none⟩ = some (.int .i64 a0_0) := (blk_cell BK172.out 0).trans rfl; have hcz25_1 : w24.cell? ⟨gb172, 1, none⟩ = some (.int .i64 a0_1) := (blk_cell BK172.out 1).trans rfl; have hcz25_2 : w24.cell? ⟨gb172, 2, none⟩ = some (.string a0_2) := (blk_cell BK172.out 2).trans rfl; have hcz25_3 : w24.cell? ⟨gb172, 3, none⟩ = some (.slice (some ad173) l0_3.length c0_3) := (blk_cell BK172.out 3).trans rfl; have hcz25_4 : w24.cell? ⟨gb172, 4, none⟩ = some (.slice (some ad175) l0_4.length c0_4) := (blk_cell BK172.out 4).trans rfl; have hfz25_0 := blk_frozen BK172.out 0; have hfz25_1 := blk_frozen BK172.out 1; have hfz25_2 := blk_frozen BK172.out 2; have hfz25_3 := blk_frozen BK172.out 3; have hfz25_4 := blk_frozen BK172.out 4; have p177 : 0 ≤ (x7_1 : Int) := of_decide_eq_true (by first | (with_reducible assumption) | assumption); have q177 : x7_1 < (l0_3.length : Int) := of_decide_eq_true (by first | (with_reducible assumption) | assumption); obtain ⟨ad177, e177, hx177_0⟩ := Kd.at_string HR0_3.out x7_1 p177 q177; obtain rfl : ad173 = ad177 := (by injection e177); replace hx177_0 := (HB.out.cell (World.block_lt_of_cell? w _ hx177_0)).trans hx177_0; replace p177 := eq_true p177; replace q177 := eq_true q177) | (go_at_call 29; (with_reducible refine (spec_sayIn.calls k1 (rdOf ByteArray.empty l0_3 x7_1) _ _ l2 false _ ?side1 ?side2 A14.out).mono ?_); (case side1 => repeat (first | exact (Kd.C_below HR2.out HB.out) | (with_reducible refine Kd.C_alloc ?_ _) | (with_reducible refine Kd.C_drewN ?_ _) | (with_reducible refine Kd.C_drew ?_))); (case side2 => exact HC2.out); rintro e w' ⟨rfl, ⟨nd, rfl⟩⟩))
                  go_ret
                  exact ⟨by first | rfl | (simp [errW_none, errW_some] <;> rfl) | (simp [*, errW_none, errW_some] <;> rfl), by repeat (first | (with_reducible first | exact HB.out | apply below_alloc | apply pw_below_drewN | apply below_drew1 | refine below_set ?_ GE172.out) | exact HB.out)⟩
            · rw [if_neg c9] at H
              exact absurd H (by simp)
          · replace c8 := Bool.eq_false_iff.mpr c8
            subst c8
            have H1 : ((spec_sayIn.f k1 (rdOf ByteArray.empty l0_3 x7_1) l2).bind fun t181 => (if t181 = true then (if x7_1 < (l0_4.length : Int) then (if (((rd_T25 l0_4 x7_1).f0) = 1) then (spec_sayKnown.l0 k1 l1 l2 (wrap64 (x7_1 + 1)) a0_0 a0_1 a0_2 l0_3 l0_4) else (some false)) else (none)) else (some false))) = some r := by rw [if_neg (show ¬ (false = true) by decide)] at H; exact H
            clear H
            have H := H1
            clear H1
            replace H := Option.bind_eq_some_iff.mp H
            obtain ⟨t181, A260, H⟩ := H
            replace H : (if t181 = true then (if x7_1 < (l0_4.length : Int) then (if (((rd_T25 l0_4 x7_1).f0) = 1) then (spec_sayKnown.l0 k1 l1 l2 (wrap64 (x7_1 + 1)) a0_0 a0_1 a0_2 l0_3 l0_4) else (some false)) else (none)) else (some false)) = some r := H
            have A26 := Aside0.mk A260
            clear A260
            by_cases c27 : t181 = true
            · subst c27
              have H1 : (if x7_1 < (l0_4.length : Int) then (if (((rd_T25 l0_4 x7_1).f0) = 1) then (spec_sayKnown.l0 k1 l1 l2 (wrap64 (x7_1 + 1)) a0_0 a0_1 a0_2 l0_3 l0_4) else (some false)) else (none)) = some r := by rw [if_pos rfl] at H; exact H
              clear H
              have H := H1
              clear H1
              by_cases c28 : x7_1 < (l0_4.length : Int)
              · rw [if_pos c28] at H
                have c28b0 : decide (x7_1 < (l0_4.length : Int)) = true := decide_eq_true c28
                clear c28
                by_cases c29 : (((rd_T25 l0_4 x7_1).f0) = 1)
                · rw [if_pos c29] at H
                  have c29b0 : (((rd_T25 l0_4 x7_1).f0) == 1) = true := beq_iff_eq.mpr c29
                  have c29b1 : (((rd_T25 l0_4 x7_1).f0) != 1) = false := bne_eq_false_iff_eq.mpr c29
                  clear c29
                  have H' := Aside0.mk H
                  clear H
                  have hcz30_0 : wr.cell? ⟨gb172, 0, none⟩ = some (.int .i64 a0_0) := (blk_cell BK172.out 0).trans rfl
                  have hcz30_1 : wr.cell? ⟨gb172, 1, none⟩ = some (.int .i64 a0_1) := (blk_cell BK172.out 1).trans rfl
                  have hcz30_2 : wr.cell? ⟨gb172, 2, none⟩ = some (.string a0_2) := (blk_cell BK172.out 2).trans rfl
                  have hcz30_3 : wr.cell? ⟨gb172, 3, none⟩ = some (.slice A0_3 l0_3.length c0_3) := (blk_cell BK172.out 3).trans rfl
                  have hcz30_4 : wr.cell? ⟨gb172, 4, none⟩ = some (.slice A0_4 l0_4.length c0_4) := (blk_cell BK172.out 4).trans rfl
                  have hfz30_0 := blk_frozen BK172.out 0
                  have hfz30_1 := blk_frozen BK172.out 1
                  have hfz30_2 := blk_frozen BK172.out 2
                  have hfz30_3 := blk_frozen BK172.out 3
                  have hfz30_4 := blk_frozen BK172.out 4
                  have p173 : 0 ≤ (x7_1 : Int) := of_decide_eq_true (by first | (with_reducible assumption) | assumption)
                  have q173 : x7_1 < (l0_3.length : Int) := of_decide_eq_true (by first | (with_reducible assumption) | assumption)
                  obtain ⟨ad173, e173, hx173_0⟩ := Kd.at_string HR0_3.out x7_1 p173 q173
                  cases e173
                  replace hx173_0 := (HB.out.cell (World.block_lt_of_cell? w _ hx173_0)).trans hx173_0
                  replace p173 := eq_true p173
                  replace q173 := eq_true q173
                  go_wp2_with (first | ((with_reducible refine gate_callee (f := 29) rfl ?_); refine goesL_ (some 21) rfl rfl Try.func29 (by kernel_rfl) rfl #[.string (rdOf ByteArray.empty l0_3 x7_1), .slice A1 l1.length c1] rfl (by (try simp only [List.map_toArray, List.map_cons, List.map_nil]); first | done | rfl | (simp only [List.length_drop, List.length_take]; rfl)) ?_; (with_reducible refine (spec_sayIn.calls k1 (rdOf ByteArray.empty l0_3 x7_1) _ _ l1 false _ ?side1 ?side2 A7.out).mono ?_); (case side1 => repeat (first | exact (Kd.C_below HR1.out HB.out) | (with_reducible refine Kd.C_alloc ?_ _) | (with_reducible refine Kd.C_drewN ?_ _) | (with_reducible refine Kd.C_drew ?_))); (case side2 => exact HC1.out); rintro e w' ⟨rfl, ⟨nd, rfl⟩⟩; refine ⟨_, rfl, ?_⟩; have p180 : 0 ≤ (x7_1 : Int) := of_decide_eq_true (by first | (with_reducible assumption) | assumption); have q180 : x7_1 < (l0_3.length : Int) := of_decide_eq_true (by first | (with_reducible assumption) | assumption); obtain ⟨ad180, e180, hx180_0⟩ := Kd.at_string HR0_3.out x7_1 p180 q180; obtain rfl : ad173 = ad180 := (by injection e180); replace hx180_0 := (HB.out.cell (World.block_lt_of_cell? w _ hx180_0)).trans hx180_0; replace p180 := eq_true p180; replace q180 := eq_true q180) | (go_at_call 29; (with_reducible refine (spec_sayIn.calls k1 (rdOf ByteArray.empty l0_3 x7_1) _ _ l2 true _ ?side1 ?side2 A26.out).mono ?_); (case side1 => repeat (first | exact (Kd.C_below HR2.out (by repeat (first | (with_reducible first | exact HB.out | apply below_alloc | apply pw_below_drewN | apply below_drew1 | refine below_set ?_ GE172.out) | exact HB.out))) | (with_reducible refine Kd.C_alloc ?_ _) | (with_reducible refine Kd.C_drewN ?_ _) | (with_reducible refine Kd.C_drew ?_))); (case side2 => exact HC2.out); rintro e w' ⟨rfl, ⟨nd, rfl⟩⟩; have p182 : 0 ≤ (x7_1 : Int) := of_decide_eq_true (by first | (with_reducible assumption) | assumption); have q182 : x7_1 < (l0_4.length : Int) := of_decide_eq_true (by first | (with_reducible assumption) | assumption); obtain ⟨ad182, A182_3, c182_3, A182_4, c182_4, e182, hx182_0, hx182_1, hx182_2, hx182_3, hx182_4, hl182_3, hi182_3, hl182_4, hi182_4⟩ := at_T25 HR0_4.out x7_1 p182 q182; cases e182; replace hx182_0 := (HB.out.cell (World.block_lt_of_cell? w _ hx182_0)).trans hx182_0; replace hx182_1 := (HB.out.cell (World.block_lt_of_cell? w _ hx182_1)).trans hx182_1; replace hx182_2 := (HB.out.cell (World.block_lt_of_cell? w _ hx182_2)).trans hx182_2; replace hx182_3 := (HB.out.cell (World.block_lt_of_cell? w _ hx182_3)).trans hx182_3; replace hx182_4 := (HB.out.cell (World.block_lt_of_cell? w _ hx182_4)).trans hx182_4; have HR182_3 := Aside0.mk hi182_3; have HC182_3 := Aside0.mk hl182_3; clear hi182_3 hl182_3; have HR182_4 := Aside0.mk hi182_4; have HC182_4 := Aside0.mk hl182_4; clear hi182_4 hl182_4; replace p182 := eq_true p182; replace q182 := eq_true q182))
                  go_roundg k1
                  case measure => have := HK1.out; omega
                  case rel => exact ⟨(wrap64 (x7_1 + 1)), (by first | rfl | (simp; done) | (simp [*]; done)), H', ⟨by have := HK1.out; omega⟩, ⟨by (with_reducible repeat (first | refine blk_drewN ?_ _ | refine blk_drew ?_ | refine blk_alloc ?_ _)); exact BK172.out⟩, ⟨by repeat (first | (with_reducible first | exact HB.out | apply below_alloc | apply pw_below_drewN | apply below_drew1 | refine below_set ?_ GE172.out) | exact HB.out)⟩⟩
                · rw [if_neg c29] at H
                  have c29b0 : (((rd_T25 l0_4 x7_1).f0) == 1) = false := beq_eq_false_iff_ne.mpr c29
                  have c29b1 : (((rd_T25 l0_4 x7_1).f0) != 1) = true := bne_iff_ne.mpr c29
                  obtain rfl := Option.some.inj H
                  have hcz31_0 : wr.cell? ⟨gb172, 0, none⟩ = some (.int .i64 a0_0) := (blk_cell BK172.out 0).trans rfl
                  have hcz31_1 : wr.cell? ⟨gb172, 1, none⟩ = some (.int .i64 a0_1) := (blk_cell BK172.out 1).trans rfl
                  have hcz31_2 : wr.cell? ⟨gb172, 2, none⟩ = some (.string a0_2) := (blk_cell BK172.out 2).trans rfl
                  have hcz31_3 : wr.cell? ⟨gb172, 3, none⟩ = some (.slice A0_3 l0_3.length c0_3) := (blk_cell BK172.out 3).trans rfl
                  have hcz31_4 : wr.cell? ⟨gb172, 4, none⟩ = some (.slice A0_4 l0_4.length c0_4) := (blk_cell BK172.out 4).trans rfl
                  have hfz31_0 := blk_frozen BK172.out 0
                  have hfz31_1 := blk_frozen BK172.out 1
                  have hfz31_2 := blk_frozen BK172.out 2
                  have hfz31_3 := blk_frozen BK172.out 3
                  have hfz31_4 := blk_frozen BK172.out 4
                  have p173 : 0 ≤ (x7_1 : Int) := of_decide_eq_true (by first | (with_reducible assumption) | assumption)
                  have q173 : x7_1 < (l0_3.length : Int) := of_decide_eq_true (by first | (with_reducible assumption) | assumption)
                  obtain ⟨ad173, e173, hx173_0⟩ := Kd.at_string HR0_3.out x7_1 p173 q173
                  cases e173
                  replace hx173_0 := (HB.out.cell (World.block_lt_of_cell? w _ hx173_0)).trans hx173_0
                  replace p173 := eq_true p173
                  replace q173 := eq_true q173
                  go_wp2_with (first | ((with_reducible refine gate_callee (f := 29) rfl ?_); refine goesL_ (some 21) rfl rfl Try.func29 (by kernel_rfl) rfl #[.string (rdOf ByteArray.empty l0_3 x7_1), .slice A1 l1.length c1] rfl (by (try simp only [List.map_toArray, List.map_cons, List.map_nil]); first | done | rfl | (simp only [List.length_drop, List.length_take]; rfl)) ?_; (with_reducible refine (spec_sayIn.calls k1 (rdOf ByteArray.empty l0_3 x7_1) _ _ l1 false _ ?side1 ?side2 A7.out).mono ?_); (case side1 => repeat (first | exact (Kd.C_below HR1.out HB.out) | (with_reducible refine Kd.C_alloc ?_ _) | (with_reducible refine Kd.C_drewN ?_ _) | (with_reducible refine Kd.C_drew ?_))); (case side2 => exact HC1.out); rintro e w' ⟨rfl, ⟨nd, rfl⟩⟩; refine ⟨_, rfl, ?_⟩; have p180 : 0 ≤ (x7_1 : Int) := of_decide_eq_true (by first | (with_reducible assumption) | assumption); have q180 : x7_1 < (l0_3.length : Int) := of_decide_eq_true (by first | (with_reducible assumption) | assumption); obtain ⟨ad180, e180, hx180_0⟩ := Kd.at_string HR0_3.out x7_1 p180 q180; obtain rfl : ad173 = ad180 := (by injection e180); replace hx180_0 := (HB.out.cell (World.block_lt_of_cell? w _ hx180_0)).trans hx180_0; replace p180 := eq_true p180; replace q180 := eq_true q180) | (go_at_call 29; (with_reducible refine (spec_sayIn.calls k1 (rdOf ByteArray.empty l0_3 x7_1) _ _ l2 true _ ?side1 ?side2 A26.out).mono ?_); (case side1 => repeat (first | exact (Kd.C_below HR2.out (by repeat (first | (with_reducible first | exact HB.out | apply below_alloc | apply pw_below_drewN | apply below_drew1 | refine below_set ?_ GE172.out) | exact HB.out))) | (with_reducible refine Kd.C_alloc ?_ _) | (with_reducible refine Kd.C_drewN ?_ _) | (with_reducible refine Kd.C_drew ?_))); (case side2 => exact HC2.out); rintro e w' ⟨rfl, ⟨nd, rfl⟩⟩; have p182 : 0 ≤ (x7_1 : Int) := of_decide_eq_true (by first | (with_reducible assumption) | assumption); have q182 : x7_1 < (l0_4.length : Int) := of_decide_eq_true (by first | (with_reducible assumption) | assumption); obtain ⟨ad182, A182_3, c182_3, A182_4, c182_4, e182, hx182_0, hx182_1, hx182_2, hx182_3, hx182_4, hl182_3, hi182_3, hl182_4, hi182_4⟩ := at_T25 HR0_4.out x7_1 p182 q182; cases e182; replace hx182_0 := (HB.out.cell (World.block_lt_of_cell? w _ hx182_0)).trans hx182_0; replace hx182_1 := (HB.out.cell (World.block_lt_of_cell? w _ hx182_1)).trans hx182_1; replace hx182_2 := (HB.out.cell (World.block_lt_of_cell? w _ hx182_2)).trans hx182_2; replace hx182_3 := (HB.out.cell (World.block_lt_of_cell? w _ hx182_3)).trans hx182_3; replace hx182_4 := (HB.out.cell (World.block_lt_of_cell? w _ hx182_4)).trans hx182_4; have HR182_3 := Aside0.mk hi182_3; have HC182_3 := Aside0.mk hl182_3; clear hi182_3 hl182_3; have HR182_4 := Aside0.mk hi182_4; have HC182_4 := Aside0.mk hl182_4; clear hi182_4 hl182_4; replace p182 := eq_true p182; replace q182 := eq_true q182))
                  go_ret
                  exact ⟨by first | rfl | (simp [errW_none, errW_some] <;> rfl) | (simp [*, errW_none, errW_some] <;> rfl), by repeat (first | (with_reducible first | exact HB.out | apply below_alloc | apply pw_below_drewN | apply below_drew1 | refine below_set ?_ GE172.out) | exact HB.out)⟩
              · rw [if_neg c28] at H
                exact absurd H (by simp)
            · replace c27 := Bool.eq_false_iff.mpr c27
              subst c27
              have H1 : (some false) = some r := by rw [if_neg (show ¬ (false = true) by decide)] at H; exact H
              clear H
              have H := H1
              clear H1
              obtain rfl := Option.some.inj H
              have hcz32_0 : wr.cell? ⟨gb172, 0, none⟩ = some (.int .i64 a0_0) := (blk_cell BK172.out 0).trans rfl
              have hcz32_1 : wr.cell? ⟨gb172, 1, none⟩ = some (.int .i64 a0_1) := (blk_cell BK172.out 1).trans rfl
              have hcz32_2 : wr.cell? ⟨gb172, 2, none⟩ = some (.string a0_2) := (blk_cell BK172.out 2).trans rfl
              have hcz32_3 : wr.cell? ⟨gb172, 3, none⟩ = some (.slice A0_3 l0_3.length c0_3) := (blk_cell BK172.out 3).trans rfl
              have hcz32_4 : wr.cell? ⟨gb172, 4, none⟩ = some (.slice A0_4 l0_4.length c0_4) := (blk_cell BK172.out 4).trans rfl
              have hfz32_0 := blk_frozen BK172.out 0
              have hfz32_1 := blk_frozen BK172.out 1
              have hfz32_2 := blk_frozen BK172.out 2
              have hfz32_3 := blk_frozen BK172.out 3
              have hfz32_4 := blk_frozen BK172.out 4
              have p173 : 0 ≤ (x7_1 : Int) := of_decide_eq_true (by first | (with_reducible assumption) | assumption)
              have q173 : x7_1 < (l0_3.length : Int) := of_decide_eq_true (by first | (with_reducible assumption) | assumption)
              obtain ⟨ad173, e173, hx173_0⟩ := Kd.at_string HR0_3.out x7_1 p173 q173
              cases e173
              replace hx173_0 := (HB.out.cell (World.block_lt_of_cell? w _ hx173_0)).trans hx173_0
              replace p173 := eq_true p173
              replace q173 := eq_true q173
              go_wp2_with (first | ((with_reducible refine gate_callee (f := 29) rfl ?_); refine goesL_ (some 21) rfl rfl Try.func29 (by kernel_rfl) rfl #[.string (rdOf ByteArray.empty l0_3 x7_1), .slice A1 l1.length c1] rfl (by (try simp only [List.map_toArray, List.map_cons, List.map_nil]); first | done | rfl | (simp only [List.length_drop, List.length_take]; rfl)) ?_; (with_reducible refine (spec_sayIn.calls k1 (rdOf ByteArray.empty l0_3 x7_1) _ _ l1 false _ ?side1 ?side2 A7.out).mono ?_); (case side1 => repeat (first | exact (Kd.C_below HR1.out HB.out) | (with_reducible refine Kd.C_alloc ?_ _) | (with_reducible refine Kd.C_drewN ?_ _) | (with_reducible refine Kd.C_drew ?_))); (case side2 => exact HC1.out); rintro e w' ⟨rfl, ⟨nd, rfl⟩⟩; refine ⟨_, rfl, ?_⟩; have p180 : 0 ≤ (x7_1 : Int) := of_decide_eq_true (by first | (with_reducible assumption) | assumption); have q180 : x7_1 < (l0_3.length : Int) := of_decide_eq_true (by first | (with_reducible assumption) | assumption); obtain ⟨ad180, e180, hx180_0⟩ := Kd.at_string HR0_3.out x7_1 p180 q180; obtain rfl : ad173 = ad180 := (by injection e180); replace hx180_0 := (HB.out.cell (World.block_lt_of_cell? w _ hx180_0)).trans hx180_0; replace p180 := eq_true p180; replace q180 := eq_true q180) | (go_at_call 29; (with_reducible refine (spec_sayIn.calls k1 (rdOf ByteArray.empty l0_3 x7_1) _ _ l2 false _ ?side1 ?side2 A26.out).mono ?_); (case side1 => repeat (first | exact (Kd.C_below HR2.out (by repeat (first | (with_reducible first | exact HB.out | apply below_alloc | apply pw_below_drewN | apply below_drew1 | refine below_set ?_ GE172.out) | exact HB.out))) | (with_reducible refine Kd.C_alloc ?_ _) | (with_reducible refine Kd.C_drewN ?_ _) | (with_reducible refine Kd.C_drew ?_))); (case side2 => exact HC2.out); rintro e w' ⟨rfl, ⟨nd, rfl⟩⟩))
              go_ret
              exact ⟨by first | rfl | (simp [errW_none, errW_some] <;> rfl) | (simp [*, errW_none, errW_some] <;> rfl), by repeat (first | (with_reducible first | exact HB.out | apply below_alloc | apply pw_below_drewN | apply below_drew1 | refine below_set ?_ GE172.out) | exact HB.out)⟩
        · rw [if_neg c6] at H
          exact absurd H (by simp)
      · rw [if_neg c5] at H
        have c5b0 : decide (x7_1 < (l0_3.length : Int)) = false := decide_eq_false c5
        clear c5
        by_cases c33 : a0_0 = 5
        · rw [if_pos c33] at H
          have c33b0 : (a0_0 == 5) = true := beq_iff_eq.mpr c33
          have c33b1 : (a0_0 != 5) = false := bne_eq_false_iff_eq.mpr c33
          clear c33
          obtain rfl := Option.some.inj H
          have hcz34_0 : wr.cell? ⟨gb172, 0, none⟩ = some (.int .i64 a0_0) := (blk_cell BK172.out 0).trans rfl
          have hcz34_1 : wr.cell? ⟨gb172, 1, none⟩ = some (.int .i64 a0_1) := (blk_cell BK172.out 1).trans rfl
          have hcz34_2 : wr.cell? ⟨gb172, 2, none⟩ = some (.string a0_2) := (blk_cell BK172.out 2).trans rfl
          have hcz34_3 : wr.cell? ⟨gb172, 3, none⟩ = some (.slice A0_3 l0_3.length c0_3) := (blk_cell BK172.out 3).trans rfl
          have hcz34_4 : wr.cell? ⟨gb172, 4, none⟩ = some (.slice A0_4 l0_4.length c0_4) := (blk_cell BK172.out 4).trans rfl
          have hfz34_0 := blk_frozen BK172.out 0
          have hfz34_1 := blk_frozen BK172.out 1
          have hfz34_2 := blk_frozen BK172.out 2
          have hfz34_3 := blk_frozen BK172.out 3
          have hfz34_4 := blk_frozen BK172.out 4
          go_wp2
          go_ret
          exact ⟨by first | rfl | (simp [errW_none, errW_some] <;> rfl) | (simp [*, errW_none, errW_some] <;> rfl), by repeat (first | (with_reducible first | exact HB.out | apply below_alloc | apply pw_below_drewN | apply below_drew1 | refine below_set ?_ GE172.out) | exact HB.out)⟩
        · rw [if_neg c33] at H
          have c33b0 : (a0_0 == 5) = false := beq_eq_false_iff_ne.mpr c33
          have c33b1 : (a0_0 != 5) = true := bne_iff_ne.mpr c33
          obtain rfl := Option.some.inj H
          have hcz35_0 : wr.cell? ⟨gb172, 0, none⟩ = some (.int .i64 a0_0) := (blk_cell BK172.out 0).trans rfl
          have hcz35_1 : wr.cell? ⟨gb172, 1, none⟩ = some (.int .i64 a0_1) := (blk_cell BK172.out 1).trans rfl
          have hcz35_2 : wr.cell? ⟨gb172, 2, none⟩ = some (.string a0_2) := (blk_cell BK172.out 2).trans rfl
          have hcz35_3 : wr.cell? ⟨gb172, 3, none⟩ = some (.slice A0_3 l0_3.length c0_3) := (blk_cell BK172.out 3).trans rfl
          have hcz35_4 : wr.cell? ⟨gb172, 4, none⟩ = some (.slice A0_4 l0_4.length c0_4) := (blk_cell BK172.out 4).trans rfl
          have hfz35_0 := blk_frozen BK172.out 0
          have hfz35_1 := blk_frozen BK172.out 1
          have hfz35_2 := blk_frozen BK172.out 2
          have hfz35_3 := blk_frozen BK172.out 3
          have hfz35_4 := blk_frozen BK172.out 4
          go_wp2
          go_ret
          exact ⟨by first | rfl | (simp [errW_none, errW_some] <;> rfl) | (simp [*, errW_none, errW_some] <;> rfl), by repeat (first | (with_reducible first | exact HB.out | apply below_alloc | apply pw_below_drewN | apply below_drew1 | refine below_set ?_ GE172.out) | exact HB.out)⟩

end Go.Proofs.Ytgeamhmenmomhaa.PT
