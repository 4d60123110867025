-- Written by a program over the translation (xprint.py). Lean checks it.
import Derived.Test.YtgeamhmenmomhaaDoorPTx0
namespace Go.Proofs.YtgeamhmenmomhaaDoor.PT
open Go.RowKit Go.Proofs.YtgeamhmenmomhaaDoorW.PrintWords Go.Proofs.YtgeamhmenmomhaaDoorW.PrintLast Go.Proofs.YtgeamhmenmomhaaDoorW.PrintMore
attribute [local go_sem] max2_int min2_int max_two min_two max_three min_three max_four min_four   -- for this text's walks alone
set_option linter.unusedVariables false
set_option linter.unusedSimpArgs false

/-! ### laws_zzFits2: function 18 -/
def laws_zzFits2.l0 : Nat → List ByteArray → Int → Int → Option (Bool)
  | 0, _, _, _ => none
  | k + 1, x8, x9, x10 => if x10 < x9 then (if 0 ≤ x10 then (if x10 < (x8.length : Int) then (if ((rdOf ByteArray.empty x8 x10).size : Int) > 2147483647 then (some false) else (laws_zzFits2.l0 k x8 x9 (wrap64 (x10 + 1)))) else (none)) else (none)) else (some true)
def laws_zzFits2.f (k : Nat) (l0 : List ByteArray) : Option (Bool) := if (l0.length : Int) > 2147483647 then (some false) else (laws_zzFits2.l0 k l0 (l0.length : Int) 0)
theorem laws_zzFits2.mono_l : ∀ k, (∀ y0 y1 y2, LeO (laws_zzFits2.l0 k y0 y1 y2) (laws_zzFits2.l0 (k + 1) y0 y1 y2))
  | 0 => fun _ _ _ r h => by simp [laws_zzFits2.l0] at h
  | k + 1 => by
    have ih0 := laws_zzFits2.mono_l k
    · intro y0 y1 y2
      unfold laws_zzFits2.l0
      repeat' first
      | (with_reducible exact ih0 _ _ _)
      | (with_reducible exact LeO.refl _)
      | (with_reducible exact LeO.none _)
      | (with_reducible refine LeO.ite ?_ ?_)
      | (with_reducible refine LeO.bind ?_ (fun _ => ?_))
      | exact ih0 _ _ _
      | exact LeO.none _
      | refine LeO.ite ?_ ?_
      | refine LeO.bind ?_ (fun _ => ?_)
theorem laws_zzFits2.mono : ∀ a0 k, LeO (laws_zzFits2.f k a0) (laws_zzFits2.f (k + 1) a0) := by
  intro a0 k
  have ih0 := laws_zzFits2.mono_l k
  unfold laws_zzFits2.f
  repeat' first
      | (with_reducible exact ih0 _ _ _)
      | (with_reducible exact LeO.refl _)
      | (with_reducible exact LeO.none _)
      | (with_reducible refine LeO.ite ?_ ?_)
      | (with_reducible refine LeO.bind ?_ (fun _ => ?_))
      | exact ih0 _ _ _
      | exact LeO.none _
      | refine LeO.ite ?_ ?_
      | refine LeO.bind ?_ (fun _ => ?_)
set_option maxHeartbeats 8000000 in
set_option maxRecDepth 100000 in
theorem laws_zzFits2.calls (k : Nat) (A0 : Option Addr) (c0 : Nat) (l0 : List ByteArray) (r : Bool) (w : World) (hr0 : Kd.C Kd.string w A0 l0.length l0) (hc0 : l0.length ≤ c0) (h : laws_zzFits2.f k l0 = some r) :
    Calls Tryd.prog 18 #[.slice A0 l0.length c0] w fun e w' => e = .returned (.bool r) ∧ Drawn0 w w' := by
  have HR0 := Aside0.mk hr0
  have HC0 := Aside0.mk hc0
  clear hr0 hc0
  have H : (if (l0.length : Int) > 2147483647 then (some false) else (laws_zzFits2.l0 k l0 (l0.length : Int) 0)) = some r := h
  clear h
  by_cases c2 : (l0.length : Int) > 2147483647
  · rw [if_pos c2] at H
    have c2b0 : decide (2147483647 < (l0.length : Int)) = true := decide_eq_true c2
    have c2b1 : decide (2147483647 < l0.length) = true := decide_eq_true (by omega)
    clear c2
    obtain rfl := Option.some.inj H
    go_enter Tryd.func18, Tryd.ntmps18
    go_wp2
    go_ret
    exact ⟨by first | rfl | (simp; done) | (simp [*]; done), by repeat (first | exact Drawn0.refl _ | apply Drawn0.step)⟩
  · rw [if_neg c2] at H
    have c2b0 : decide (2147483647 < (l0.length : Int)) = false := decide_eq_false c2
    have c2b1 : decide (2147483647 < l0.length) = false := decide_eq_false (by omega)
    clear c2
    have H' := Aside0.mk H
    clear H
    go_enter Tryd.func18, Tryd.ntmps18
    go_wp2
    go_loopg [10] k (fun kq v10 w' => ∃ (x10_1 : Int), v10 = .int .i64 x10_1 ∧ Aside0 (laws_zzFits2.l0 kq l0 (l0.length : Int) x10_1 = some r) ∧ Aside0 (kq ≤ k) ∧ Drawn0 w w')
    case atStart => exact ⟨(0), (by first | rfl | (simp; done) | (simp [*]; done)), H', ⟨Nat.le_refl _⟩, by repeat (first | exact Drawn0.refl _ | apply Drawn0.step)⟩
    case round =>
      clear H'
      try clear c1
      try clear c2
      try clear c2b0
      try clear c2b1
      try clear p2
      obtain ⟨x10_1, rfl, HA, HK1, ⟨m1, rfl⟩⟩ := hrel
      cases gk with
      | zero => exact absurd HA.out (by simp [laws_zzFits2.l0])
      | succ k1 =>
        have H := HA.out
        clear HA
        simp only [laws_zzFits2.l0] at H
        by_cases c3 : x10_1 < (l0.length : Int)
        · rw [if_pos c3] at H
          have c3b0 : decide (x10_1 < (l0.length : Int)) = true := decide_eq_true c3
          clear c3
          by_cases c4 : 0 ≤ x10_1
          · rw [if_pos c4] at H
            have c4b0 : decide (0 ≤ x10_1) = true := decide_eq_true c4
            clear c4
            by_cases c5 : x10_1 < (l0.length : Int)
            · rw [if_pos c5] at H
              have c5b0 : decide (x10_1 < (l0.length : Int)) = true := decide_eq_true c5
              clear c5
              by_cases c6 : ((rdOf ByteArray.empty l0 x10_1).size : Int) > 2147483647
              · rw [if_pos c6] at H
                have c6b0 : decide (2147483647 < ((rdOf ByteArray.empty l0 x10_1).size : Int)) = true := decide_eq_true c6
                have c6b1 : decide (2147483647 < (rdOf ByteArray.empty l0 x10_1).size) = true := decide_eq_true (by omega)
                clear c6
                obtain rfl := Option.some.inj H
                have p152 : 0 ≤ (x10_1 : Int) := of_decide_eq_true (by first | (with_reducible assumption) | assumption)
                have q152 : x10_1 < (l0.length : Int) := of_decide_eq_true (by first | (with_reducible assumption) | assumption)
                obtain ⟨ad152, e152, hx152_0⟩ := Kd.at_string HR0.out x10_1 p152 q152
                cases e152
                replace p152 := eq_true p152
                replace q152 := eq_true q152
                go_wp2
                go_ret
                exact ⟨by first | rfl | (simp; done) | (simp [*]; done), by repeat (first | exact Drawn0.refl _ | apply Drawn0.step)⟩
              · rw [if_neg c6] at H
                have c6b0 : decide (2147483647 < ((rdOf ByteArray.empty l0 x10_1).size : Int)) = false := decide_eq_false c6
                have c6b1 : decide (2147483647 < (rdOf ByteArray.empty l0 x10_1).size) = false := decide_eq_false (by omega)
                clear c6
                have H' := Aside0.mk H
                clear H
                have p152 : 0 ≤ (x10_1 : Int) := of_decide_eq_true (by first | (with_reducible assumption) | assumption)
                have q152 : x10_1 < (l0.length : Int) := of_decide_eq_true (by first | (with_reducible assumption) | assumption)
                obtain ⟨ad152, e152, hx152_0⟩ := Kd.at_string HR0.out x10_1 p152 q152
                cases e152
                replace p152 := eq_true p152
                replace q152 := eq_true q152
                go_wp2
                go_roundg k1
                case measure => have := HK1.out; omega
                case rel => exact ⟨(wrap64 (x10_1 + 1)), (by first | rfl | (simp; done) | (simp [*]; done)), H', ⟨by have := HK1.out; omega⟩, by repeat (first | exact Drawn0.refl _ | apply Drawn0.step)⟩
            · rw [if_neg c5] at H
              exact absurd H (by simp)
          · rw [if_neg c4] at H
            exact absurd H (by simp)
        · rw [if_neg c3] at H
          have c3b0 : decide (x10_1 < (l0.length : Int)) = false := decide_eq_false c3
          clear c3
          obtain rfl := Option.some.inj H
          go_wp2
          go_ret
          exact ⟨by first | rfl | (simp; done) | (simp [*]; done), by repeat (first | exact Drawn0.refl _ | apply Drawn0.step)⟩

/-! ### laws_zzFits1: function 5 -/
def laws_zzFits1.f (k : Nat) (a0_0 : Int) (a0_1 : Int) (a0_2 : ByteArray) (l0_3 : List ByteArray) (l0_4 : List (S25)) : Option (Bool) := if (a0_2.size : Int) > 2147483647 then (some false) else ((laws_zzFits2.f k l0_3).bind fun t154 => (if t154 = true then (if (l0_4.length : Int) > 2147483647 then (some false) else (some true)) else (some false)))
theorem laws_zzFits1.mono : ∀ a0 a1 a2 a3 a4 k, LeO (laws_zzFits1.f k a0 a1 a2 a3 a4) (laws_zzFits1.f (k + 1) a0 a1 a2 a3 a4) := by
  intro a0 a1 a2 a3 a4 k
  unfold laws_zzFits1.f
  repeat' first
      | (with_reducible exact laws_zzFits2.mono _ _)
      | (with_reducible exact LeO.refl _)
      | (with_reducible exact LeO.none _)
      | (with_reducible refine LeO.ite ?_ ?_)
      | (with_reducible refine LeO.bind ?_ (fun _ => ?_))
      | exact laws_zzFits2.mono _ _
      | exact LeO.none _
      | refine LeO.ite ?_ ?_
      | refine LeO.bind ?_ (fun _ => ?_)
set_option maxHeartbeats 8000000 in
set_option maxRecDepth 100000 in
theorem laws_zzFits1.calls (k : Nat) (a0_0 : Int) (a0_1 : Int) (a0_2 : ByteArray) (A0_3 : Option Addr) (c0_3 : Nat) (l0_3 : List ByteArray) (A0_4 : Option Addr) (c0_4 : Nat) (l0_4 : List (S25)) (r : Bool) (w : World) (hr0_3 : Kd.C Kd.string w A0_3 l0_3.length l0_3) (hc0_3 : l0_3.length ≤ c0_3) (hr0_4 : Kd.C k25 w A0_4 l0_4.length l0_4) (hc0_4 : l0_4.length ≤ c0_4) (h : laws_zzFits1.f k a0_0 a0_1 a0_2 l0_3 l0_4 = some r) :
    Calls Tryd.prog 5 #[.agg #[.int .i64 a0_0, .int .i64 a0_1, .string a0_2, .slice A0_3 l0_3.length c0_3, .slice A0_4 l0_4.length c0_4]] w fun e w' => e = .returned (.bool r) ∧ Below w.heap.size w w' := by
  have hu25 := Tryd.underlying25
  have HR0_3 := Aside0.mk hr0_3
  have HC0_3 := Aside0.mk hc0_3
  clear hr0_3 hc0_3
  have HR0_4 := Aside0.mk hr0_4
  have HC0_4 := Aside0.mk hc0_4
  clear hr0_4 hc0_4
  have HB := Aside0.mk (Below.refl w.heap.size w)
  have H : (if (a0_2.size : Int) > 2147483647 then (some false) else ((laws_zzFits2.f k l0_3).bind fun t154 => (if t154 = true then (if (l0_4.length : Int) > 2147483647 then (some false) else (some true)) else (some false)))) = some r := h
  clear h
  by_cases c2 : (a0_2.size : Int) > 2147483647
  · rw [if_pos c2] at H
    have c2b0 : decide (2147483647 < (a0_2.size : Int)) = true := decide_eq_true c2
    have c2b1 : decide (2147483647 < a0_2.size) = true := decide_eq_true (by omega)
    clear c2
    obtain rfl := Option.some.inj H
    go_enter Tryd.func5, Tryd.ntmps5
    go_wp2_with (first | ((with_reducible refine gate_dst (N := 1) rfl ?_); refine box_event ?hg (N := 1) ?hd (cs := #[.int .i64 a0_0, .int .i64 a0_1, .string a0_2, .slice A0_3 l0_3.length c0_3, .slice A0_4 l0_4.length c0_4]) (t := 25) ?hr ?_; (case hd => rfl); (case hg => rfl); (case hr => first | (go_simp; done) | (go_simp; rfl)); intro gb153 hg w3 hbox hb; have n0_ := Aside0.mk (below_step (by repeat (first | (with_reducible first | exact HB.out | apply below_alloc | apply pw_below_drewN | apply below_drew1) | exact HB.out)) hb); have n1_ := Aside0.mk (hbox); have n2_ := Aside0.mk ((by rw [hg]; exact (below_size (by repeat (first | (with_reducible first | exact HB.out | apply below_alloc | apply pw_below_drewN | apply below_drew1) | exact HB.out))) : w.heap.size ≤ gb153)); have n3_ := Aside0.mk ((by rw [hg]; exact (below_size (by repeat (first | (with_reducible first | exact HB.out | apply below_alloc | apply pw_below_drewN | apply below_drew1) | exact HB.out))) : w.heap.size ≤ gb153)); clear HB; have HB := n0_; have BK153 := n1_; have GW153 := n2_; have GE153 := n3_; clear n0_ n1_ n2_ n3_; clear hb hbox hg; have hcz4_0 : w3.cell? ⟨gb153, 0, none⟩ = some (.int .i64 a0_0) := (blk_cell BK153.out 0).trans rfl; have hcz4_1 : w3.cell? ⟨gb153, 1, none⟩ = some (.int .i64 a0_1) := (blk_cell BK153.out 1).trans rfl; have hcz4_2 : w3.cell? ⟨gb153, 2, none⟩ = some (.string a0_2) := (blk_cell BK153.out 2).trans rfl; have hcz4_3 : w3.cell? ⟨gb153, 3, none⟩ = some (.slice A0_3 l0_3.length c0_3) := (blk_cell BK153.out 3).trans rfl; have hcz4_4 : w3.cell? ⟨gb153, 4, none⟩ = some (.slice A0_4 l0_4.length c0_4) := (blk_cell BK153.out 4).trans rfl; have hfz4_0 := blk_frozen BK153.out 0; have hfz4_1 := blk_frozen BK153.out 1; have hfz4_2 := blk_frozen BK153.out 2; have hfz4_3 := blk_frozen BK153.out 3; have hfz4_4 := blk_frozen BK153.out 4))
    go_ret
    exact ⟨by first | rfl | (simp [errW_none, errW_some] <;> rfl) | (simp [*, errW_none, errW_some] <;> rfl), by repeat (first | (with_reducible first | exact HB.out | apply below_alloc | apply pw_below_drewN | apply below_drew1 | refine below_set ?_ GE153.out) | exact HB.out)⟩
  · rw [if_neg c2] at H
    have c2b0 : decide (2147483647 < (a0_2.size : Int)) = false := decide_eq_false c2
    have c2b1 : decide (2147483647 < a0_2.size) = false := decide_eq_false (by omega)
    clear c2
    replace H := Option.bind_eq_some_iff.mp H
    obtain ⟨t154, A50, H⟩ := H
    replace H : (if t154 = true then (if (l0_4.length : Int) > 2147483647 then (some false) else (some true)) else (some false)) = some r := H
    have A5 := Aside0.mk A50
    clear A50
    by_cases c6 : t154 = true
    · subst c6
      have H1 : (if (l0_4.length : Int) > 2147483647 then (some false) else (some true)) = some r := by rw [if_pos rfl] at H; exact H
      clear H
      have H := H1
      clear H1
      by_cases c7 : (l0_4.length : Int) > 2147483647
      · rw [if_pos c7] at H
        have c7b0 : decide (2147483647 < (l0_4.length : Int)) = true := decide_eq_true c7
        have c7b1 : decide (2147483647 < l0_4.length) = true := decide_eq_true (by omega)
        clear c7
        obtain rfl := Option.some.inj H
        go_enter Tryd.func5, Tryd.ntmps5
        go_wp2_with (first | ((with_reducible refine gate_dst (N := 1) rfl ?_); refine box_event ?hg (N := 1) ?hd (cs := #[.int .i64 a0_0, .int .i64 a0_1, .string a0_2, .slice A0_3 l0_3.length c0_3, .slice A0_4 l0_4.length c0_4]) (t := 25) ?hr ?_; (case hd => rfl); (case hg => rfl); (case hr => first | (go_simp; done) | (go_simp; rfl)); intro gb153 hg w8 hbox hb; have n0_ := Aside0.mk (below_step (by repeat (first | (with_reducible first | exact HB.out | apply below_alloc | apply pw_below_drewN | apply below_drew1) | exact HB.out)) hb); have n1_ := Aside0.mk (hbox); have n2_ := Aside0.mk ((by rw [hg]; exact (below_size (by repeat (first | (with_reducible first | exact HB.out | apply below_alloc | apply pw_below_drewN | apply below_drew1) | exact HB.out))) : w.heap.size ≤ gb153)); have n3_ := Aside0.mk ((by rw [hg]; exact (below_size (by repeat (first | (with_reducible first | exact HB.out | apply below_alloc | apply pw_below_drewN | apply below_drew1) | exact HB.out))) : w.heap.size ≤ gb153)); clear HB; have HB := n0_; have BK153 := n1_; have GW153 := n2_; have GE153 := n3_; clear n0_ n1_ n2_ n3_; clear hb hbox hg; have hcz9_0 : w8.cell? ⟨gb153, 0, none⟩ = some (.int .i64 a0_0) := (blk_cell BK153.out 0).trans rfl; have hcz9_1 : w8.cell? ⟨gb153, 1, none⟩ = some (.int .i64 a0_1) := (blk_cell BK153.out 1).trans rfl; have hcz9_2 : w8.cell? ⟨gb153, 2, none⟩ = some (.string a0_2) := (blk_cell BK153.out 2).trans rfl; have hcz9_3 : w8.cell? ⟨gb153, 3, none⟩ = some (.slice A0_3 l0_3.length c0_3) := (blk_cell BK153.out 3).trans rfl; have hcz9_4 : w8.cell? ⟨gb153, 4, none⟩ = some (.slice A0_4 l0_4.length c0_4) := (blk_cell BK153.out 4).trans rfl; have hfz9_0 := blk_frozen BK153.out 0; have hfz9_1 := blk_frozen BK153.out 1; have hfz9_2 := blk_frozen BK153.out 2; have hfz9_3 := blk_frozen BK153.out 3; have hfz9_4 := blk_frozen BK153.out 4) | ((with_reducible refine gate_callee (f := 18) rfl ?_); refine goesL_ (some 9) rfl rfl Tryd.func18 (by kernel_rfl) rfl #[.slice A0_3 l0_3.length c0_3] rfl (by (try simp only [List.map_toArray, List.map_cons, List.map_nil]); first | done | rfl | (simp only [List.length_drop, List.length_take]; rfl)) ?_; (with_reducible refine (laws_zzFits2.calls k _ _ l0_3 true _ ?side1 ?side2 A5.out).mono ?_); (case side1 => repeat (first | exact (Kd.C_below HR0_3.out HB.out) | (with_reducible refine Kd.C_alloc ?_ _) | (with_reducible refine Kd.C_drewN ?_ _) | (with_reducible refine Kd.C_drew ?_))); (case side2 => exact HC0_3.out); rintro e w' ⟨rfl, ⟨nd, rfl⟩⟩; refine ⟨_, rfl, ?_⟩))
        go_ret
        exact ⟨by first | rfl | (simp [errW_none, errW_some] <;> rfl) | (simp [*, errW_none, errW_some] <;> rfl), by repeat (first | (with_reducible first | exact HB.out | apply below_alloc | apply pw_below_drewN | apply below_drew1 | refine below_set ?_ GE153.out) | exact HB.out)⟩
      · rw [if_neg c7] at H
        have c7b0 : decide (2147483647 < (l0_4.length : Int)) = false := decide_eq_false c7
        have c7b1 : decide (2147483647 < l0_4.length) = false := decide_eq_false (by omega)
        clear c7
        obtain rfl := Option.some.inj H
        go_enter Tryd.func5, Tryd.ntmps5
        go_wp2_with (first | ((with_reducible refine gate_dst (N := 1) rfl ?_); refine box_event ?hg (N := 1) ?hd (cs := #[.int .i64 a0_0, .int .i64 a0_1, .string a0_2, .slice A0_3 l0_3.length c0_3, .slice A0_4 l0_4.length c0_4]) (t := 25) ?hr ?_; (case hd => rfl); (case hg => rfl); (case hr => first | (go_simp; done) | (go_simp; rfl)); intro gb153 hg w10 hbox hb; have n0_ := Aside0.mk (below_step (by repeat (first | (with_reducible first | exact HB.out | apply below_alloc | apply pw_below_drewN | apply below_drew1) | exact HB.out)) hb); have n1_ := Aside0.mk (hbox); have n2_ := Aside0.mk ((by rw [hg]; exact (below_size (by repeat (first | (with_reducible first | exact HB.out | apply below_alloc | apply pw_below_drewN | apply below_drew1) | exact HB.out))) : w.heap.size ≤ gb153)); have n3_ := Aside0.mk ((by rw [hg]; exact (below_size (by repeat (first | (with_reducible first | exact HB.out | apply below_alloc | apply pw_below_drewN | apply below_drew1) | exact HB.out))) : w.heap.size ≤ gb153)); clear HB; have HB := n0_; have BK153 := n1_; have GW153 := n2_; have GE153 := n3_; clear n0_ n1_ n2_ n3_; clear hb hbox hg; have hcz11_0 : w10.cell? ⟨gb153, 0, none⟩ = some (.int .i64 a0_0) := (blk_cell BK153.out 0).trans rfl; have hcz11_1 : w10.cell? ⟨gb153, 1, none⟩ = some (.int .i64 a0_1) := (blk_cell BK153.out 1).trans rfl; have hcz11_2 : w10.cell? ⟨gb153, 2, none⟩ = some (.string a0_2) := (blk_cell BK153.out 2).trans rfl; have hcz11_3 : w10.cell? ⟨gb153, 3, none⟩ = some (.slice A0_3 l0_3.length c0_3) := (blk_cell BK153.out 3).trans rfl; have hcz11_4 : w10.cell? ⟨gb153, 4, none⟩ = some (.slice A0_4 l0_4.length c0_4) := (blk_cell BK153.out 4).trans rfl; have hfz11_0 := blk_frozen BK153.out 0; have hfz11_1 := blk_frozen BK153.out 1; have hfz11_2 := blk_frozen BK153.out 2; have hfz11_3 := blk_frozen BK153.out 3; have hfz11_4 := blk_frozen BK153.out 4) | ((with_reducible refine gate_callee (f := 18) rfl ?_); refine goesL_ (some 9) rfl rfl Tryd.func18 (by kernel_rfl) rfl #[.slice A0_3 l0_3.length c0_3] rfl (by (try simp only [List.map_toArray, List.map_cons, List.map_nil]); first | done | rfl | (simp only [List.length_drop, List.length_take]; rfl)) ?_; (with_reducible refine (laws_zzFits2.calls k _ _ l0_3 true _ ?side1 ?side2 A5.out).mono ?_); (case side1 => repeat (first | exact (Kd.C_below HR0_3.out HB.out) | (with_reducible refine Kd.C_alloc ?_ _) | (with_reducible refine Kd.C_drewN ?_ _) | (with_reducible refine Kd.C_drew ?_))); (case side2 => exact HC0_3.out); rintro e w' ⟨rfl, ⟨nd, rfl⟩⟩; refine ⟨_, rfl, ?_⟩))
        go_ret
        exact ⟨by first | rfl | (simp [errW_none, errW_some] <;> rfl) | (simp [*, errW_none, errW_some] <;> rfl), by repeat (first | (with_reducible first | exact HB.out | apply below_alloc | apply pw_below_drewN | apply below_drew1 | refine below_set ?_ GE153.out) | exact HB.out)⟩
    · replace c6 := Bool.eq_false_iff.mpr c6
      subst c6
      have H1 : (some false) = some r := by rw [if_neg (show ¬ (false = true) by decide)] at H; exact H
      clear H
      have H := H1
      clear H1
      obtain rfl := Option.some.inj H
      go_enter Tryd.func5, Tryd.ntmps5
      go_wp2_with (first | ((with_reducible refine gate_dst (N := 1) rfl ?_); refine box_event ?hg (N := 1) ?hd (cs := #[.int .i64 a0_0, .int .i64 a0_1, .string a0_2, .slice A0_3 l0_3.length c0_3, .slice A0_4 l0_4.length c0_4]) (t := 25) ?hr ?_; (case hd => rfl); (case hg => rfl); (case hr => first | (go_simp; done) | (go_simp; rfl)); intro gb153 hg w12 hbox hb; have n0_ := Aside0.mk (below_step (by repeat (first | (with_reducible first | exact HB.out | apply below_alloc | apply pw_below_drewN | apply below_drew1) | exact HB.out)) hb); have n1_ := Aside0.mk (hbox); have n2_ := Aside0.mk ((by rw [hg]; exact (below_size (by repeat (first | (with_reducible first | exact HB.out | apply below_alloc | apply pw_below_drewN | apply below_drew1) | exact HB.out))) : w.heap.size ≤ gb153)); have n3_ := Aside0.mk ((by rw [hg]; exact (below_size (by repeat (first | (with_reducible first | exact HB.out | apply below_alloc | apply pw_below_drewN | apply below_drew1) | exact HB.out))) : w.heap.size ≤ gb153)); clear HB; have HB := n0_; have BK153 := n1_; have GW153 := n2_; have GE153 := n3_; clear n0_ n1_ n2_ n3_; clear hb hbox hg; have hcz13_0 : w12.cell? ⟨gb153, 0, none⟩ = some (.int .i64 a0_0) := (blk_cell BK153.out 0).trans rfl; have hcz13_1 : w12.cell? ⟨gb153, 1, none⟩ = some (.int .i64 a0_1) := (blk_cell BK153.out 1).trans rfl; have hcz13_2 : w12.cell? ⟨gb153, 2, none⟩ = some (.string a0_2) := (blk_cell BK153.out 2).trans rfl; have hcz13_3 : w12.cell? ⟨gb153, 3, none⟩ = some (.slice A0_3 l0_3.length c0_3) := (blk_cell BK153.out 3).trans rfl; have hcz13_4 : w12.cell? ⟨gb153, 4, none⟩ = some (.slice A0_4 l0_4.length c0_4) := (blk_cell BK153.out 4).trans rfl; have hfz13_0 := blk_frozen BK153.out 0; have hfz13_1 := blk_frozen BK153.out 1; have hfz13_2 := blk_frozen BK153.out 2; have hfz13_3 := blk_frozen BK153.out 3; have hfz13_4 := blk_frozen BK153.out 4) | ((with_reducible refine gate_callee (f := 18) rfl ?_); refine goesL_ (some 9) rfl rfl Tryd.func18 (by kernel_rfl) rfl #[.slice A0_3 l0_3.length c0_3] rfl (by (try simp only [List.map_toArray, List.map_cons, List.map_nil]); first | done | rfl | (simp only [List.length_drop, List.length_take]; rfl)) ?_; (with_reducible refine (laws_zzFits2.calls k _ _ l0_3 false _ ?side1 ?side2 A5.out).mono ?_); (case side1 => repeat (first | exact (Kd.C_below HR0_3.out HB.out) | (with_reducible refine Kd.C_alloc ?_ _) | (with_reducible refine Kd.C_drewN ?_ _) | (with_reducible refine Kd.C_drew ?_))); (case side2 => exact HC0_3.out); rintro e w' ⟨rfl, ⟨nd, rfl⟩⟩; refine ⟨_, rfl, ?_⟩))
      go_ret
      exact ⟨by first | rfl | (simp [errW_none, errW_some] <;> rfl) | (simp [*, errW_none, errW_some] <;> rfl), by repeat (first | (with_reducible first | exact HB.out | apply below_alloc | apply pw_below_drewN | apply below_drew1 | refine below_set ?_ GE153.out) | exact HB.out)⟩

/-! ### laws_zzFits4: function 19 -/
def laws_zzFits4.f (a0_0 : ByteArray) (a0_1 : ByteArray) : Option (Bool) := if (a0_0.size : Int) > 2147483647 then (some false) else (if (a0_1.size : Int) > 2147483647 then (some false) else (some true))
set_option maxHeartbeats 8000000 in
set_option maxRecDepth 100000 in
theorem laws_zzFits4.calls (a0_0 : ByteArray) (a0_1 : ByteArray) (r : Bool) (w : World) (h : laws_zzFits4.f a0_0 a0_1 = some r) :
    Calls Tryd.prog 19 #[.agg #[.string a0_0, .string a0_1]] w fun e w' => e = .returned (.bool r) ∧ Below w.heap.size w w' := by
  have hu51 := Tryd.underlying51
  have HB := Aside0.mk (Below.refl w.heap.size w)
  have H : (if (a0_0.size : Int) > 2147483647 then (some false) else (if (a0_1.size : Int) > 2147483647 then (some false) else (some true))) = some r := h
  clear h
  by_cases c2 : (a0_0.size : Int) > 2147483647
  · rw [if_pos c2] at H
    have c2b0 : decide (2147483647 < (a0_0.size : Int)) = true := decide_eq_true c2
    have c2b1 : decide (2147483647 < a0_0.size) = true := decide_eq_true (by omega)
    clear c2
    obtain rfl := Option.some.inj H
    go_enter Tryd.func19, Tryd.ntmps19
    go_wp2_with (first | ((with_reducible refine gate_dst (N := 1) rfl ?_); refine box_event ?hg (N := 1) ?hd (cs := #[.string a0_0, .string a0_1]) (t := 51) ?hr ?_; (case hd => rfl); (case hg => rfl); (case hr => first | (go_simp; done) | (go_simp; rfl)); intro gb155 hg w3 hbox hb; have n0_ := Aside0.mk (below_step (by repeat (first | (with_reducible first | exact HB.out | apply below_alloc | apply pw_below_drewN | apply below_drew1) | exact HB.out)) hb); have n1_ := Aside0.mk (hbox); have n2_ := Aside0.mk ((by rw [hg]; exact (below_size (by repeat (first | (with_reducible first | exact HB.out | apply below_alloc | apply pw_below_drewN | apply below_drew1) | exact HB.out))) : w.heap.size ≤ gb155)); have n3_ := Aside0.mk ((by rw [hg]; exact (below_size (by repeat (first | (with_reducible first | exact HB.out | apply below_alloc | apply pw_below_drewN | apply below_drew1) | exact HB.out))) : w.heap.size ≤ gb155)); clear HB; have HB := n0_; have BK155 := n1_; have GW155 := n2_; have GE155 := n3_; clear n0_ n1_ n2_ n3_; clear hb hbox hg; have hcz4_0 : w3.cell? ⟨gb155, 0, none⟩ = some (.string a0_0) := (blk_cell BK155.out 0).trans rfl; have hcz4_1 : w3.cell? ⟨gb155, 1, none⟩ = some (.string a0_1) := (blk_cell BK155.out 1).trans rfl; have hfz4_0 := blk_frozen BK155.out 0; have hfz4_1 := blk_frozen BK155.out 1))
    go_ret
    exact ⟨by first | rfl | (simp [errW_none, errW_some] <;> rfl) | (simp [*, errW_none, errW_some] <;> rfl), by repeat (first | (with_reducible first | exact HB.out | apply below_alloc | apply pw_below_drewN | apply below_drew1 | refine below_set ?_ GE155.out) | exact HB.out)⟩
  · rw [if_neg c2] at H
    have c2b0 : decide (2147483647 < (a0_0.size : Int)) = false := decide_eq_false c2
    have c2b1 : decide (2147483647 < a0_0.size) = false := decide_eq_false (by omega)
    clear c2
    by_cases c5 : (a0_1.size : Int) > 2147483647
    · rw [if_pos c5] at H
      have c5b0 : decide (2147483647 < (a0_1.size : Int)) = true := decide_eq_true c5
      have c5b1 : decide (2147483647 < a0_1.size) = true := decide_eq_true (by omega)
      clear c5
      obtain rfl := Option.some.inj H
      go_enter Tryd.func19, Tryd.ntmps19
      go_wp2_with (first | ((with_reducible refine gate_dst (N := 1) rfl ?_); refine box_event ?hg (N := 1) ?hd (cs := #[.string a0_0, .string a0_1]) (t := 51) ?hr ?_; (case hd => rfl); (case hg => rfl); (case hr => first | (go_simp; done) | (go_simp; rfl)); intro gb155 hg w6 hbox hb; have n0_ := Aside0.mk (below_step (by repeat (first | (with_reducible first | exact HB.out | apply below_alloc | apply pw_below_drewN | apply below_drew1) | exact HB.out)) hb); have n1_ := Aside0.mk (hbox); have n2_ := Aside0.mk ((by rw [hg]; exact (below_size (by repeat (first | (with_reducible first | exact HB.out | apply below_alloc | apply pw_below_drewN | apply below_drew1) | exact HB.out))) : w.heap.size ≤ gb155)); have n3_ := Aside0.mk ((by rw [hg]; exact (below_size (by repeat (first | (with_reducible first | exact HB.out | apply below_alloc | apply pw_below_drewN | apply below_drew1) | exact HB.out))) : w.heap.size ≤ gb155)); clear HB; have HB := n0_; have BK155 := n1_; have GW155 := n2_; have GE155 := n3_; clear n0_ n1_ n2_ n3_; clear hb hbox hg; have hcz7_0 : w6.cell? ⟨gb155, 0, none⟩ = some (.string a0_0) := (blk_cell BK155.out 0).trans rfl; have hcz7_1 : w6.cell? ⟨gb155, 1, none⟩ = some (.string a0_1) := (blk_cell BK155.out 1).trans rfl; have hfz7_0 := blk_frozen BK155.out 0; have hfz7_1 := blk_frozen BK155.out 1))
      go_ret
      exact ⟨by first | rfl | (simp [errW_none, errW_some] <;> rfl) | (simp [*, errW_none, errW_some] <;> rfl), by repeat (first | (with_reducible first | exact HB.out | apply below_alloc | apply pw_below_drewN | apply below_drew1 | refine below_set ?_ GE155.out) | exact HB.out)⟩
    · rw [if_neg c5] at H
      have c5b0 : decide (2147483647 < (a0_1.size : Int)) = false := decide_eq_false c5
      have c5b1 : decide (2147483647 < a0_1.size) = false := decide_eq_false (by omega)
      clear c5
      obtain rfl := Option.some.inj H
      go_enter Tryd.func19, Tryd.ntmps19
      go_wp2_with (first | ((with_reducible refine gate_dst (N := 1) rfl ?_); refine box_event ?hg (N := 1) ?hd (cs := #[.string a0_0, .string a0_1]) (t := 51) ?hr ?_; (case hd => rfl); (case hg => rfl); (case hr => first | (go_simp; done) | (go_simp; rfl)); intro gb155 hg w8 hbox hb; have n0_ := Aside0.mk (below_step (by repeat (first | (with_reducible first | exact HB.out | apply below_alloc | apply pw_below_drewN | apply below_drew1) | exact HB.out)) hb); have n1_ := Aside0.mk (hbox); have n2_ := Aside0.mk ((by rw [hg]; exact (below_size (by repeat (first | (with_reducible first | exact HB.out | apply below_alloc | apply pw_below_drewN | apply below_drew1) | exact HB.out))) : w.heap.size ≤ gb155)); have n3_ := Aside0.mk ((by rw [hg]; exact (below_size (by repeat (first | (with_reducible first | exact HB.out | apply below_alloc | apply pw_below_drewN | apply below_drew1) | exact HB.out))) : w.heap.size ≤ gb155)); clear HB; have HB := n0_; have BK155 := n1_; have GW155 := n2_; have GE155 := n3_; clear n0_ n1_ n2_ n3_; clear hb hbox hg; have hcz9_0 : w8.cell? ⟨gb155, 0, none⟩ = some (.string a0_0) := (blk_cell BK155.out 0).trans rfl; have hcz9_1 : w8.cell? ⟨gb155, 1, none⟩ = some (.string a0_1) := (blk_cell BK155.out 1).trans rfl; have hfz9_0 := blk_frozen BK155.out 0; have hfz9_1 := blk_frozen BK155.out 1))
      go_ret
      exact ⟨by first | rfl | (simp [errW_none, errW_some] <;> rfl) | (simp [*, errW_none, errW_some] <;> rfl), by repeat (first | (with_reducible first | exact HB.out | apply below_alloc | apply pw_below_drewN | apply below_drew1 | refine below_set ?_ GE155.out) | exact HB.out)⟩

/-! ### laws_zzFits3: function 6 -/
def laws_zzFits3.l0 : Nat → List (S51) → Int → Int → Option (Bool)
  | 0, _, _, _ => none
  | k + 1, x8, x9, x10 => if x10 < x9 then (if 0 ≤ x10 then (if x10 < (x8.length : Int) then ((laws_zzFits4.f ((rd_T51 x8 x10).f0) ((rd_T51 x8 x10).f1)).bind fun t158 => (if t158 = true then (laws_zzFits3.l0 k x8 x9 (wrap64 (x10 + 1))) else (some false))) else (none)) else (none)) else (some true)
def laws_zzFits3.f (k : Nat) (l0 : List (S51)) : Option (Bool) := if (l0.length : Int) > 2147483647 then (some false) else (laws_zzFits3.l0 k l0 (l0.length : Int) 0)
theorem laws_zzFits3.mono_l : ∀ k, (∀ y0 y1 y2, LeO (laws_zzFits3.l0 k y0 y1 y2) (laws_zzFits3.l0 (k + 1) y0 y1 y2))
  | 0 => fun _ _ _ r h => by simp [laws_zzFits3.l0] at h
  | k + 1 => by
    have ih0 := laws_zzFits3.mono_l k
    · intro y0 y1 y2
      unfold laws_zzFits3.l0
      repeat' first
      | (with_reducible exact ih0 _ _ _)
      | (with_reducible exact LeO.refl _)
      | (with_reducible exact LeO.none _)
      | (with_reducible refine LeO.ite ?_ ?_)
      | (with_reducible refine LeO.bind ?_ (fun _ => ?_))
      | exact ih0 _ _ _
      | exact LeO.none _
      | refine LeO.ite ?_ ?_
      | refine LeO.bind ?_ (fun _ => ?_)
theorem laws_zzFits3.mono : ∀ a0 k, LeO (laws_zzFits3.f k a0) (laws_zzFits3.f (k + 1) a0) := by
  intro a0 k
  have ih0 := laws_zzFits3.mono_l k
  unfold laws_zzFits3.f
  repeat' first
      | (with_reducible exact ih0 _ _ _)
      | (with_reducible exact LeO.refl _)
      | (with_reducible exact LeO.none _)
      | (with_reducible refine LeO.ite ?_ ?_)
      | (with_reducible refine LeO.bind ?_ (fun _ => ?_))
      | exact ih0 _ _ _
      | exact LeO.none _
      | refine LeO.ite ?_ ?_
      | refine LeO.bind ?_ (fun _ => ?_)
set_option maxHeartbeats 8000000 in
set_option maxRecDepth 100000 in
theorem laws_zzFits3.calls (k : Nat) (A0 : Option Addr) (c0 : Nat) (l0 : List (S51)) (r : Bool) (w : World) (hr0 : Kd.C k51 w A0 l0.length l0) (hc0 : l0.length ≤ c0) (h : laws_zzFits3.f k l0 = some r) :
    Calls Tryd.prog 6 #[.slice A0 l0.length c0] w fun e w' => e = .returned (.bool r) ∧ Below w.heap.size w w' := by
  have hu51 := Tryd.underlying51
  have HR0 := Aside0.mk hr0
  have HC0 := Aside0.mk hc0
  clear hr0 hc0
  have HB := Aside0.mk (Below.refl w.heap.size w)
  have H : (if (l0.length : Int) > 2147483647 then (some false) else (laws_zzFits3.l0 k l0 (l0.length : Int) 0)) = some r := h
  clear h
  by_cases c2 : (l0.length : Int) > 2147483647
  · rw [if_pos c2] at H
    have c2b0 : decide (2147483647 < (l0.length : Int)) = true := decide_eq_true c2
    have c2b1 : decide (2147483647 < l0.length) = true := decide_eq_true (by omega)
    clear c2
    obtain rfl := Option.some.inj H
    go_enter Tryd.func6, Tryd.ntmps6
    go_wp2
    go_ret
    exact ⟨by first | rfl | (simp [errW_none, errW_some] <;> rfl) | (simp [*, errW_none, errW_some] <;> rfl), by repeat (first | (with_reducible first | exact HB.out | apply below_alloc | apply pw_below_drewN | apply below_drew1) | exact HB.out)⟩
  · rw [if_neg c2] at H
    have c2b0 : decide (2147483647 < (l0.length : Int)) = false := decide_eq_false c2
    have c2b1 : decide (2147483647 < l0.length) = false := decide_eq_false (by omega)
    clear c2
    have H' := Aside0.mk H
    clear H
    go_enter Tryd.func6, Tryd.ntmps6
    go_wp2
    go_loopg [10] k (fun kq v10 w' => ∃ (x10_1 : Int), v10 = .int .i64 x10_1 ∧ Aside0 (laws_zzFits3.l0 kq l0 (l0.length : Int) x10_1 = some r) ∧ Aside0 (kq ≤ k) ∧ Aside0 (Below w.heap.size w w'))
    case atStart => exact ⟨(0), (by first | rfl | (simp; done) | (simp [*]; done)), H', ⟨Nat.le_refl _⟩, ⟨by repeat (first | (with_reducible first | exact HB.out | apply below_alloc | apply pw_below_drewN | apply below_drew1) | exact HB.out)⟩⟩
    case round =>
      clear H'
      try clear c2
      try clear c2b0
      try clear c2b1
      try clear p2
      obtain ⟨x10_1, rfl, HA, HK1, HB⟩ := hrel
      cases gk with
      | zero => exact absurd HA.out (by simp [laws_zzFits3.l0])
      | succ k1 =>
        have H := HA.out
        clear HA
        simp only [laws_zzFits3.l0] at H
        by_cases c3 : x10_1 < (l0.length : Int)
        · rw [if_pos c3] at H
          have c3b0 : decide (x10_1 < (l0.length : Int)) = true := decide_eq_true c3
          clear c3
          by_cases c4 : 0 ≤ x10_1
          · rw [if_pos c4] at H
            have c4b0 : decide (0 ≤ x10_1) = true := decide_eq_true c4
            clear c4
            by_cases c5 : x10_1 < (l0.length : Int)
            · rw [if_pos c5] at H
              have c5b0 : decide (x10_1 < (l0.length : Int)) = true := decide_eq_true c5
              clear c5
              replace H := Option.bind_eq_some_iff.mp H
              obtain ⟨t158, A60, H⟩ := H
              replace H : (if t158 = true then (laws_zzFits3.l0 k1 l0 (l0.length : Int) (wrap64 (x10_1 + 1))) else (some false)) = some r := H
              have A6 := Aside0.mk A60
              clear A60
              by_cases c7 : t158 = true
              · subst c7
                have H1 : (laws_zzFits3.l0 k1 l0 (l0.length : Int) (wrap64 (x10_1 + 1))) = some r := by rw [if_pos rfl] at H; exact H
                clear H
                have H := H1
                clear H1
                have H' := Aside0.mk H
                clear H
                have p156 : 0 ≤ (x10_1 : Int) := of_decide_eq_true (by first | (with_reducible assumption) | assumption)
                have q156 : x10_1 < (l0.length : Int) := of_decide_eq_true (by first | (with_reducible assumption) | assumption)
                obtain ⟨ad156, e156, hx156_0, hx156_1⟩ := at_T51 HR0.out x10_1 p156 q156
                cases e156
                replace hx156_0 := (HB.out.cell (World.block_lt_of_cell? w _ hx156_0)).trans hx156_0
                replace hx156_1 := (HB.out.cell (World.block_lt_of_cell? w _ hx156_1)).trans hx156_1
                replace p156 := eq_true p156
                replace q156 := eq_true q156
                go_wp2_with (first | ((with_reducible refine gate_dst (N := 4) rfl ?_); refine box_event ?hg (N := 4) ?hd (cs := #[.string (⟨#[]⟩ : ByteArray), .string (⟨#[]⟩ : ByteArray)]) (t := 51) ?hr ?_; (case hd => rfl); (case hg => rfl); (case hr => first | (go_simp; done) | (go_simp; rfl)); intro gb157 hg w8 hbox hb; have n0_ := Aside0.mk (below_step (by repeat (first | (with_reducible first | exact HB.out | apply below_alloc | apply pw_below_drewN | apply below_drew1) | exact HB.out)) hb); have n1_ := Aside0.mk (hbox); have n2_ := Aside0.mk ((by rw [hg]; exact (below_size (by repeat (first | (with_reducible first | exact HB.out | apply below_alloc | apply pw_below_drewN | apply below_drew1) | exact HB.out))) : w.heap.size ≤ gb157)); have n3_ := Aside0.mk ((by rw [hg]; exact (below_size (by repeat (first | (with_reducible first | exact HB.out | apply below_alloc | apply pw_below_drewN | apply below_drew1) | exact HB.out))) : w.heap.size ≤ gb157)); clear HB; have HB := n0_; have BK157 := n1_; have GW157 := n2_; have GE157 := n3_; clear n0_ n1_ n2_ n3_; clear hb hbox hg; have hcz9_0 : w8.cell? ⟨gb157, 0, none⟩ = some (.string (⟨#[]⟩ : ByteArray)) := (blk_cell BK157.out 0).trans rfl; have hcz9_1 : w8.cell? ⟨gb157, 1, none⟩ = some (.string (⟨#[]⟩ : ByteArray)) := (blk_cell BK157.out 1).trans rfl; have hfz9_0 := blk_frozen BK157.out 0; have hfz9_1 := blk_frozen BK157.out 1) | ((with_reducible refine gate_callee (f := 19) rfl ?_); refine goesL_ (some 15) rfl rfl Tryd.func19 (by kernel_rfl) rfl #[.agg #[.string ((rd_T51 l0 x10_1).f0), .string ((rd_T51 l0 x10_1).f1)]] rfl (by (try simp only [List.map_toArray, List.map_cons, List.map_nil]); first | done | rfl | (simp only [List.length_drop, List.length_take]; rfl)) ?_; (with_reducible refine (laws_zzFits4.calls ((rd_T51 l0 x10_1).f0) ((rd_T51 l0 x10_1).f1) true _ A6.out).mono ?_); rintro e w10 ⟨rfl, hb⟩; refine ⟨_, rfl, ?_⟩; have n0_ := Aside0.mk (blk_below (g := gb157) (o := .cells #[.string ((rd_T51 l0 x10_1).f0), .string ((rd_T51 l0 x10_1).f1)] 51 (0, 0)) (by (with_reducible repeat (first | refine blk_drewN ?_ _ | refine blk_drew ?_ | refine blk_alloc ?_ _)); refine blk_put (cs := #[.string ((rd_T51 l0 x10_1).f0), .string (⟨#[]⟩ : ByteArray)]) ?_ 1 _ rfl; (with_reducible repeat (first | refine blk_drewN ?_ _ | refine blk_drew ?_ | refine blk_alloc ?_ _)); refine blk_put (cs := #[.string (⟨#[]⟩ : ByteArray), .string (⟨#[]⟩ : ByteArray)]) ?_ 0 _ rfl; (with_reducible repeat (first | refine blk_drewN ?_ _ | refine blk_drew ?_ | refine blk_alloc ?_ _)); exact BK157.out) hb); have n1_ := Aside0.mk (below_step (by repeat (first | (with_reducible first | exact HB.out | apply below_alloc | apply pw_below_drewN | apply below_drew1 | refine below_set ?_ GE157.out) | exact HB.out)) hb); clear BK157; clear HB; have BK157 := n0_; have HB := n1_; clear n0_ n1_; (try clear hb); (try clear hb2); (try clear hk); (try clear hi)))
                go_roundg k1
                case measure => have := HK1.out; omega
                case rel => exact ⟨(wrap64 (x10_1 + 1)), (by first | rfl | (simp; done) | (simp [*]; done)), H', ⟨by have := HK1.out; omega⟩, ⟨by repeat (first | (with_reducible first | exact HB.out | apply below_alloc | apply pw_below_drewN | apply below_drew1 | refine below_set ?_ GE157.out) | exact HB.out)⟩⟩
              · replace c7 := Bool.eq_false_iff.mpr c7
                subst c7
                have H1 : (some false) = some r := by rw [if_neg (show ¬ (false = true) by decide)] at H; exact H
                clear H
                have H := H1
                clear H1
                obtain rfl := Option.some.inj H
                have p156 : 0 ≤ (x10_1 : Int) := of_decide_eq_true (by first | (with_reducible assumption) | assumption)
                have q156 : x10_1 < (l0.length : Int) := of_decide_eq_true (by first | (with_reducible assumption) | assumption)
                obtain ⟨ad156, e156, hx156_0, hx156_1⟩ := at_T51 HR0.out x10_1 p156 q156
                cases e156
                replace hx156_0 := (HB.out.cell (World.block_lt_of_cell? w _ hx156_0)).trans hx156_0
                replace hx156_1 := (HB.out.cell (World.block_lt_of_cell? w _ hx156_1)).trans hx156_1
                replace p156 := eq_true p156
                replace q156 := eq_true q156
                go_wp2_with (first | ((with_reducible refine gate_dst (N := 4) rfl ?_); refine box_event ?hg (N := 4) ?hd (cs := #[.string (⟨#[]⟩ : ByteArray), .string (⟨#[]⟩ : ByteArray)]) (t := 51) ?hr ?_; (case hd => rfl); (case hg => rfl); (case hr => first | (go_simp; done) | (go_simp; rfl)); intro gb157 hg w11 hbox hb; have n0_ := Aside0.mk (below_step (by repeat (first | (with_reducible first | exact HB.out | apply below_alloc | apply pw_below_drewN | apply below_drew1) | exact HB.out)) hb); have n1_ := Aside0.mk (hbox); have n2_ := Aside0.mk ((by rw [hg]; exact (below_size (by repeat (first | (with_reducible first | exact HB.out | apply below_alloc | apply pw_below_drewN | apply below_drew1) | exact HB.out))) : w.heap.size ≤ gb157)); have n3_ := Aside0.mk ((by rw [hg]; exact (below_size (by repeat (first | (with_reducible first | exact HB.out | apply below_alloc | apply pw_below_drewN | apply below_drew1) | exact HB.out))) : w.heap.size ≤ gb157)); clear HB; have HB := n0_; have BK157 := n1_; have GW157 := n2_; have GE157 := n3_; clear n0_ n1_ n2_ n3_; clear hb hbox hg; have hcz12_0 : w11.cell? ⟨gb157, 0, none⟩ = some (.string (⟨#[]⟩ : ByteArray)) := (blk_cell BK157.out 0).trans rfl; have hcz12_1 : w11.cell? ⟨gb157, 1, none⟩ = some (.string (⟨#[]⟩ : ByteArray)) := (blk_cell BK157.out 1).trans rfl; have hfz12_0 := blk_frozen BK157.out 0; have hfz12_1 := blk_frozen BK157.out 1) | ((with_reducible refine gate_callee (f := 19) rfl ?_); refine goesL_ (some 15) rfl rfl Tryd.func19 (by kernel_rfl) rfl #[.agg #[.string ((rd_T51 l0 x10_1).f0), .string ((rd_T51 l0 x10_1).f1)]] rfl (by (try simp only [List.map_toArray, List.map_cons, List.map_nil]); first | done | rfl | (simp only [List.length_drop, List.length_take]; rfl)) ?_; (with_reducible refine (laws_zzFits4.calls ((rd_T51 l0 x10_1).f0) ((rd_T51 l0 x10_1).f1) false _ A6.out).mono ?_); rintro e w13 ⟨rfl, hb⟩; refine ⟨_, rfl, ?_⟩; have n0_ := Aside0.mk (blk_below (g := gb157) (o := .cells #[.string ((rd_T51 l0 x10_1).f0), .string ((rd_T51 l0 x10_1).f1)] 51 (0, 0)) (by (with_reducible repeat (first | refine blk_drewN ?_ _ | refine blk_drew ?_ | refine blk_alloc ?_ _)); refine blk_put (cs := #[.string ((rd_T51 l0 x10_1).f0), .string (⟨#[]⟩ : ByteArray)]) ?_ 1 _ rfl; (with_reducible repeat (first | refine blk_drewN ?_ _ | refine blk_drew ?_ | refine blk_alloc ?_ _)); refine blk_put (cs := #[.string (⟨#[]⟩ : ByteArray), .string (⟨#[]⟩ : ByteArray)]) ?_ 0 _ rfl; (with_reducible repeat (first | refine blk_drewN ?_ _ | refine blk_drew ?_ | refine blk_alloc ?_ _)); exact BK157.out) hb); have n1_ := Aside0.mk (below_step (by repeat (first | (with_reducible first | exact HB.out | apply below_alloc | apply pw_below_drewN | apply below_drew1 | refine below_set ?_ GE157.out) | exact HB.out)) hb); clear BK157; clear HB; have BK157 := n0_; have HB := n1_; clear n0_ n1_; (try clear hb); (try clear hb2); (try clear hk); (try clear hi)))
                go_ret
                exact ⟨by first | rfl | (simp [errW_none, errW_some] <;> rfl) | (simp [*, errW_none, errW_some] <;> rfl), by repeat (first | (with_reducible first | exact HB.out | apply below_alloc | apply pw_below_drewN | apply below_drew1 | refine below_set ?_ GE157.out) | exact HB.out)⟩
            · rw [if_neg c5] at H
              exact absurd H (by simp)
          · rw [if_neg c4] at H
            exact absurd H (by simp)
        · rw [if_neg c3] at H
          have c3b0 : decide (x10_1 < (l0.length : Int)) = false := decide_eq_false c3
          clear c3
          obtain rfl := Option.some.inj H
          go_wp2
          go_ret
          exact ⟨by first | rfl | (simp [errW_none, errW_some] <;> rfl) | (simp [*, errW_none, errW_some] <;> rfl), by repeat (first | (with_reducible first | exact HB.out | apply below_alloc | apply pw_below_drewN | apply below_drew1) | exact HB.out)⟩

/-! ### spec_T: function 22 -/
def spec_T.f (a0 : ByteArray) : Option (Int × Int × ByteArray × List ByteArray × (List (S25))) := some (3, 0, a0, ([] : List ByteArray), ([] : List (S25)))
set_option maxHeartbeats 8000000 in
set_option maxRecDepth 100000 in
theorem spec_T.calls (a0 : ByteArray) (r1 : Int) (r2 : Int) (r3 : ByteArray) (r4 : List ByteArray) (r5 : List (S25)) (w : World) (h : spec_T.f a0 = some (r1, r2, r3, r4, r5)) :
    Calls Tryd.prog 22 #[.string a0] w fun e w' => ∃ v3_ v4_ : Value, e = .returned (.agg #[.int .i64 r1, .int .i64 r2, .string r3, v3_, v4_]) ∧ Kd.R Kd.string 9 w' w.heap.size (fun _ => True) v3_ r4 ∧ Kd.R k25 25 w' w.heap.size (fun k_ => some k_ ≠ (v3_ : Value).ownBlock) v4_ r5 ∧ Below w.heap.size w w' := by
  have hu25 := Tryd.underlying25
  have HB := Aside0.mk (Below.refl w.heap.size w)
  have H : (some (3, 0, a0, ([] : List ByteArray), ([] : List (S25)))) = some (r1, r2, r3, r4, r5) := h
  clear h
  simp only [Option.some.injEq, Prod.mk.injEq] at H
  obtain ⟨rfl, rfl, rfl, rfl, rfl⟩ := H
  go_enter Tryd.func22, Tryd.ntmps22
  go_wp2_with (first | ((with_reducible refine gate_dst (N := 2) rfl ?_); refine box_event ?hg (N := 2) ?hd (cs := #[.int .i64 0, .int .i64 0, .string (⟨#[]⟩ : ByteArray), .slice none 0 0, .slice none 0 0]) (t := 25) ?hr ?_; (case hd => rfl); (case hg => rfl); (case hr => first | (go_simp; done) | (go_simp; rfl)); intro gb159 hg w2 hbox hb; have n0_ := Aside0.mk (below_step (by repeat (first | (with_reducible first | exact HB.out | apply below_alloc | apply pw_below_drewN | apply below_drew1) | exact HB.out)) hb); have n1_ := Aside0.mk (hbox); have n2_ := Aside0.mk ((by rw [hg]; exact (below_size (by repeat (first | (with_reducible first | exact HB.out | apply below_alloc | apply pw_below_drewN | apply below_drew1) | exact HB.out))) : w.heap.size ≤ gb159)); have n3_ := Aside0.mk ((by rw [hg]; exact (below_size (by repeat (first | (with_reducible first | exact HB.out | apply below_alloc | apply pw_below_drewN | apply below_drew1) | exact HB.out))) : w.heap.size ≤ gb159)); clear HB; have HB := n0_; have BK159 := n1_; have GW159 := n2_; have GE159 := n3_; clear n0_ n1_ n2_ n3_; clear hb hbox hg; have hcz3_0 : w2.cell? ⟨gb159, 0, none⟩ = some (.int .i64 0) := (blk_cell BK159.out 0).trans rfl; have hcz3_1 : w2.cell? ⟨gb159, 1, none⟩ = some (.int .i64 0) := (blk_cell BK159.out 1).trans rfl; have hcz3_2 : w2.cell? ⟨gb159, 2, none⟩ = some (.string (⟨#[]⟩ : ByteArray)) := (blk_cell BK159.out 2).trans rfl; have hcz3_3 : w2.cell? ⟨gb159, 3, none⟩ = some (.slice none 0 0) := (blk_cell BK159.out 3).trans rfl; have hcz3_4 : w2.cell? ⟨gb159, 4, none⟩ = some (.slice none 0 0) := (blk_cell BK159.out 4).trans rfl; have hfz3_0 := blk_frozen BK159.out 0; have hfz3_1 := blk_frozen BK159.out 1; have hfz3_2 := blk_frozen BK159.out 2; have hfz3_3 := blk_frozen BK159.out 3; have hfz3_4 := blk_frozen BK159.out 4))
  refine bodyPost_ret (results_cell_row rfl _ _ gb159 25 #[.int .i64 3, .int .i64 0, .string a0, .slice none 0 0, .slice none 0 0] (0, 0) _ rfl (by (with_reducible repeat (first | refine blk_drewN ?_ _ | refine blk_drew ?_ | refine blk_alloc ?_ _)); refine blk_put (cs := #[.int .i64 3, .int .i64 0, .string a0, .slice none 0 0, .slice none 0 0]) ?_ 4 _ rfl; (with_reducible repeat (first | refine blk_drewN ?_ _ | refine blk_drew ?_ | refine blk_alloc ?_ _)); refine blk_put (cs := #[.int .i64 3, .int .i64 0, .string a0, .slice none 0 0, .slice none 0 0]) ?_ 3 _ rfl; (with_reducible repeat (first | refine blk_drewN ?_ _ | refine blk_drew ?_ | refine blk_alloc ?_ _)); refine blk_put (cs := #[.int .i64 3, .int .i64 0, .string (⟨#[]⟩ : ByteArray), .slice none 0 0, .slice none 0 0]) ?_ 2 _ rfl; (with_reducible repeat (first | refine blk_drewN ?_ _ | refine blk_drew ?_ | refine blk_alloc ?_ _)); refine blk_put (cs := #[.int .i64 3, .int .i64 0, .string (⟨#[]⟩ : ByteArray), .slice none 0 0, .slice none 0 0]) ?_ 1 _ rfl; (with_reducible repeat (first | refine blk_drewN ?_ _ | refine blk_drew ?_ | refine blk_alloc ?_ _)); refine blk_put (cs := #[.int .i64 0, .int .i64 0, .string (⟨#[]⟩ : ByteArray), .slice none 0 0, .slice none 0 0]) ?_ 0 _ rfl; (with_reducible repeat (first | refine blk_drewN ?_ _ | refine blk_drew ?_ | refine blk_alloc ?_ _)); exact BK159.out) Tryd.underlying25 rfl (by kernel_rfl)) rfl ?_
  exact ⟨_, _, by first | rfl | (simp [errW_none, errW_some] <;> rfl) | (simp [*, errW_none, errW_some] <;> rfl), by first | exact Kd.R_nil _ _ _ _ _ | exact Kd.N_nil _ _ _ _ _ | exact Kd.V_nil _ _ _ _ _ | exact Kd.Q_nil _ _ _ _ _ | exact Kd.S_nil _ _ _ _ _, by first | exact Kd.R_nil _ _ _ _ _ | exact Kd.N_nil _ _ _ _ _ | exact Kd.V_nil _ _ _ _ _ | exact Kd.Q_nil _ _ _ _ _ | exact Kd.S_nil _ _ _ _ _, by repeat (first | (with_reducible first | exact HB.out | apply below_alloc | apply pw_below_drewN | apply below_drew1 | refine below_set ?_ GE159.out) | exact HB.out)⟩

/-! ### spec_Empty: function 23 -/
def spec_Empty.f  : Option (Int × Int × ByteArray × List ByteArray × (List (S25))) := some (5, 0, (⟨#[]⟩ : ByteArray), ([] : List ByteArray), ([] : List (S25)))
set_option maxHeartbeats 8000000 in
set_option maxRecDepth 100000 in
theorem spec_Empty.calls  (r1 : Int) (r2 : Int) (r3 : ByteArray) (r4 : List ByteArray) (r5 : List (S25)) (w : World) (h : spec_Empty.f  = some (r1, r2, r3, r4, r5)) :
    Calls Tryd.prog 23 #[] w fun e w' => ∃ v3_ v4_ : Value, e = .returned (.agg #[.int .i64 r1, .int .i64 r2, .string r3, v3_, v4_]) ∧ Kd.R Kd.string 9 w' w.heap.size (fun _ => True) v3_ r4 ∧ Kd.R k25 25 w' w.heap.size (fun k_ => some k_ ≠ (v3_ : Value).ownBlock) v4_ r5 ∧ Below w.heap.size w w' := by
  have hu25 := Tryd.underlying25
  have HB := Aside0.mk (Below.refl w.heap.size w)
  have H : (some (5, 0, (⟨#[]⟩ : ByteArray), ([] : List ByteArray), ([] : List (S25)))) = some (r1, r2, r3, r4, r5) := h
  clear h
  simp only [Option.some.injEq, Prod.mk.injEq] at H
  obtain ⟨rfl, rfl, rfl, rfl, rfl⟩ := H
  go_enter Tryd.func23, Tryd.ntmps23
  go_wp2_with (first | ((with_reducible refine gate_dst (N := 0) rfl ?_); refine box_event ?hg (N := 0) ?hd (cs := #[.int .i64 0, .int .i64 0, .string (⟨#[]⟩ : ByteArray), .slice none 0 0, .slice none 0 0]) (t := 25) ?hr ?_; (case hd => rfl); (case hg => rfl); (case hr => first | (go_simp; done) | (go_simp; rfl)); intro gb160 hg w1 hbox hb; have n0_ := Aside0.mk (below_step (by repeat (first | (with_reducible first | exact HB.out | apply below_alloc | apply pw_below_drewN | apply below_drew1) | exact HB.out)) hb); have n1_ := Aside0.mk (hbox); have n2_ := Aside0.mk ((by rw [hg]; exact (below_size (by repeat (first | (with_reducible first | exact HB.out | apply below_alloc | apply pw_below_drewN | apply below_drew1) | exact HB.out))) : w.heap.size ≤ gb160)); have n3_ := Aside0.mk ((by rw [hg]; exact (below_size (by repeat (first | (with_reducible first | exact HB.out | apply below_alloc | apply pw_below_drewN | apply below_drew1) | exact HB.out))) : w.heap.size ≤ gb160)); clear HB; have HB := n0_; have BK160 := n1_; have GW160 := n2_; have GE160 := n3_; clear n0_ n1_ n2_ n3_; clear hb hbox hg; have hcz2_0 : w1.cell? ⟨gb160, 0, none⟩ = some (.int .i64 0) := (blk_cell BK160.out 0).trans rfl; have hcz2_1 : w1.cell? ⟨gb160, 1, none⟩ = some (.int .i64 0) := (blk_cell BK160.out 1).trans rfl; have hcz2_2 : w1.cell? ⟨gb160, 2, none⟩ = some (.string (⟨#[]⟩ : ByteArray)) := (blk_cell BK160.out 2).trans rfl; have hcz2_3 : w1.cell? ⟨gb160, 3, none⟩ = some (.slice none 0 0) := (blk_cell BK160.out 3).trans rfl; have hcz2_4 : w1.cell? ⟨gb160, 4, none⟩ = some (.slice none 0 0) := (blk_cell BK160.out 4).trans rfl; have hfz2_0 := blk_frozen BK160.out 0; have hfz2_1 := blk_frozen BK160.out 1; have hfz2_2 := blk_frozen BK160.out 2; have hfz2_3 := blk_frozen BK160.out 3; have hfz2_4 := blk_frozen BK160.out 4))
  refine bodyPost_ret (results_cell_row rfl _ _ gb160 25 #[.int .i64 5, .int .i64 0, .string (⟨#[]⟩ : ByteArray), .slice none 0 0, .slice none 0 0] (0, 0) _ rfl (by (with_reducible repeat (first | refine blk_drewN ?_ _ | refine blk_drew ?_ | refine blk_alloc ?_ _)); refine blk_put (cs := #[.int .i64 5, .int .i64 0, .string (⟨#[]⟩ : ByteArray), .slice none 0 0, .slice none 0 0]) ?_ 4 _ rfl; (with_reducible repeat (first | refine blk_drewN ?_ _ | refine blk_drew ?_ | refine blk_alloc ?_ _)); refine blk_put (cs := #[.int .i64 5, .int .i64 0, .string (⟨#[]⟩ : ByteArray), .slice none 0 0, .slice none 0 0]) ?_ 3 _ rfl; (with_reducible repeat (first | refine blk_drewN ?_ _ | refine blk_drew ?_ | refine blk_alloc ?_ _)); refine blk_put (cs := #[.int .i64 5, .int .i64 0, .string (⟨#[]⟩ : ByteArray), .slice none 0 0, .slice none 0 0]) ?_ 2 _ rfl; (with_reducible repeat (first | refine blk_drewN ?_ _ | refine blk_drew ?_ | refine blk_alloc ?_ _)); refine blk_put (cs := #[.int .i64 5, .int .i64 0, .string (⟨#[]⟩ : ByteArray), .slice none 0 0, .slice none 0 0]) ?_ 1 _ rfl; (with_reducible repeat (first | refine blk_drewN ?_ _ | refine blk_drew ?_ | refine blk_alloc ?_ _)); refine blk_put (cs := #[.int .i64 0, .int .i64 0, .string (⟨#[]⟩ : ByteArray), .slice none 0 0, .slice none 0 0]) ?_ 0 _ rfl; (with_reducible repeat (first | refine blk_drewN ?_ _ | refine blk_drew ?_ | refine blk_alloc ?_ _)); exact BK160.out) Tryd.underlying25 rfl (by kernel_rfl)) rfl ?_
  exact ⟨_, _, by first | rfl | (simp [errW_none, errW_some] <;> rfl) | (simp [*, errW_none, errW_some] <;> rfl), by first | exact Kd.R_nil _ _ _ _ _ | exact Kd.N_nil _ _ _ _ _ | exact Kd.V_nil _ _ _ _ _ | exact Kd.Q_nil _ _ _ _ _ | exact Kd.S_nil _ _ _ _ _, by first | exact Kd.R_nil _ _ _ _ _ | exact Kd.N_nil _ _ _ _ _ | exact Kd.V_nil _ _ _ _ _ | exact Kd.Q_nil _ _ _ _ _ | exact Kd.S_nil _ _ _ _ _, by repeat (first | (with_reducible first | exact HB.out | apply below_alloc | apply pw_below_drewN | apply below_drew1 | refine below_set ?_ GE160.out) | exact HB.out)⟩

/-! ### spec_mapsCut: function 25 -/
def spec_mapsCut.l0 : Nat → ByteArray → Int → Option (ByteArray × ByteArray × Bool)
  | 0, _, _ => none
  | k + 1, x0, x5 => if x5 < (x0.size : Int) then (if 0 ≤ x5 then (if (bt x0 x5) = 61 then (if x5 ≤ (x0.size : Int) then (if 0 ≤ (wrap64 (x5 + 1)) then (if (wrap64 (x5 + 1)) ≤ (x0.size : Int) then (some (x0.extract 0 (x5 : Int).toNat, x0.extract ((wrap64 (x5 + 1)) : Int).toNat x0.size, true)) else (none)) else (none)) else (none)) else (spec_mapsCut.l0 k x0 (wrap64 (x5 + 1)))) else (none)) else (some (x0, (⟨#[]⟩ : ByteArray), false))
def spec_mapsCut.f (k : Nat) (a0 : ByteArray) : Option (ByteArray × ByteArray × Bool) := spec_mapsCut.l0 k a0 0
theorem spec_mapsCut.mono_l : ∀ k, (∀ y0 y1, LeO (spec_mapsCut.l0 k y0 y1) (spec_mapsCut.l0 (k + 1) y0 y1))
  | 0 => fun _ _ r h => by simp [spec_mapsCut.l0] at h
  | k + 1 => by
    have ih0 := spec_mapsCut.mono_l k
    · intro y0 y1
      unfold spec_mapsCut.l0
      repeat' first
      | (with_reducible exact ih0 _ _)
      | (with_reducible exact LeO.refl _)
      | (with_reducible exact LeO.none _)
      | (with_reducible refine LeO.ite ?_ ?_)
      | (with_reducible refine LeO.bind ?_ (fun _ => ?_))
      | exact ih0 _ _
      | exact LeO.none _
      | refine LeO.ite ?_ ?_
      | refine LeO.bind ?_ (fun _ => ?_)
theorem spec_mapsCut.mono : ∀ a0 k, LeO (spec_mapsCut.f k a0) (spec_mapsCut.f (k + 1) a0) := by
  intro a0 k
  have ih0 := spec_mapsCut.mono_l k
  unfold spec_mapsCut.f
  repeat' first
      | (with_reducible exact ih0 _ _)
      | (with_reducible exact LeO.refl _)
      | (with_reducible exact LeO.none _)
      | (with_reducible refine LeO.ite ?_ ?_)
      | (with_reducible refine LeO.bind ?_ (fun _ => ?_))
      | exact ih0 _ _
      | exact LeO.none _
      | refine LeO.ite ?_ ?_
      | refine LeO.bind ?_ (fun _ => ?_)
set_option maxHeartbeats 8000000 in
set_option maxRecDepth 100000 in
theorem spec_mapsCut.calls (k : Nat) (a0 : ByteArray) (r1 : ByteArray) (r2 : ByteArray) (r3 : Bool) (w : World) (h : spec_mapsCut.f k a0 = some (r1, r2, r3)) :
    Calls Tryd.prog 25 #[.string a0] w fun e w' => e = .returned (.tuple #[.string r1, .string r2, .bool r3]) ∧ Drawn0 w w' := by
  have H : (spec_mapsCut.l0 k a0 0) = some (r1, r2, r3) := h
  clear h
  have H' := Aside0.mk H
  clear H
  go_enter Tryd.func25, Tryd.ntmps25
  go_wp2
  repeat (go_quiet (fail); try go_wp2)
  go_loopg [5] k (fun kq v5 w' => ∃ (x5_1 : Int), v5 = .int .i64 x5_1 ∧ Aside0 (spec_mapsCut.l0 kq a0 x5_1 = some (r1, r2, r3)) ∧ Aside0 (kq ≤ k) ∧ Drawn0 w w')
  case atStart => exact ⟨(0), (by first | rfl | (simp; done) | (simp [*]; done)), H', ⟨Nat.le_refl _⟩, by repeat (first | exact Drawn0.refl _ | apply Drawn0.step)⟩
  case round =>
    clear H'
    obtain ⟨x5_1, rfl, HA, HK1, ⟨m1, rfl⟩⟩ := hrel
    cases gk with
    | zero => exact absurd HA.out (by simp [spec_mapsCut.l0])
    | succ k1 =>
      have H := HA.out
      clear HA
      simp only [spec_mapsCut.l0] at H
      by_cases c2 : x5_1 < (a0.size : Int)
      · rw [if_pos c2] at H
        have c2b0 : decide (x5_1 < (a0.size : Int)) = true := decide_eq_true c2
        clear c2
        by_cases c3 : 0 ≤ x5_1
        · rw [if_pos c3] at H
          have c3b0 : decide (0 ≤ x5_1) = true := decide_eq_true c3
          clear c3
          by_cases c5 : (bt a0 x5_1) = 61
          · rw [if_pos c5] at H
            have c5b0 : ((bt a0 x5_1) == 61) = true := beq_iff_eq.mpr c5
            have c5b1 : ((bt a0 x5_1) != 61) = false := bne_eq_false_iff_eq.mpr c5
            clear c5
            have c6b0 := eq_true (of_decide_eq_true (by first | (with_reducible assumption) | assumption) : 0 ≤ x5_1)
            by_cases c7 : x5_1 ≤ (a0.size : Int)
            · rw [if_pos c7] at H
              have c7b0 := eq_true c7
              have c7b1 : decide (x5_1 ≤ (a0.size : Int)) = true := decide_eq_true c7
              clear c7
              obtain ⟨ji8, hji8⟩ : ∃ j_ : Int, (wrap64 (x5_1 + 1)) = j_ := ⟨_, rfl⟩
              replace H : (if 0 ≤ (ji8) then (if (ji8) ≤ (a0.size : Int) then (some (a0.extract 0 (x5_1 : Int).toNat, a0.extract ((ji8) : Int).toNat a0.size, true)) else (none)) else (none)) = some (r1, r2, r3) := by first | (rw [hji8] at H; exact H) | (simp only [hji8] at H ⊢; exact H)
              have hji8w : (IntKind.i64.wrap (x5_1 + 1)) = ji8 := (i64_w _).trans hji8
              by_cases c9 : 0 ≤ (ji8)
              · rw [if_pos c9] at H
                have c9b0 := eq_true c9
                have c9b1 : decide (0 ≤ (ji8)) = true := decide_eq_true c9
                clear c9
                by_cases c10 : (ji8) ≤ (a0.size : Int)
                · rw [if_pos c10] at H
                  have c10b0 := eq_true c10
                  have c10b1 : decide ((ji8) ≤ (a0.size : Int)) = true := decide_eq_true c10
                  clear c10
                  simp only [Option.some.injEq, Prod.mk.injEq] at H
                  obtain ⟨rfl, rfl, rfl⟩ := H
                  have p4 : 0 ≤ (x5_1 : Int) := of_decide_eq_true (by first | (with_reducible assumption) | assumption)
                  have q4 : x5_1 < (a0.size : Int) := of_decide_eq_true (by first | (with_reducible assumption) | assumption)
                  have hx4 := bt_at a0 x5_1
                  replace p4 := eq_true p4
                  replace q4 := eq_true q4
                  go_wp2
                  repeat (go_quiet (fail); try go_wp2)
                  go_ret3
                  exact ⟨by first | rfl | (simp; done) | (simp only [← hji8] <;> (first | rfl | simp)) | (simp [*]; done), by repeat (first | exact Drawn0.refl _ | apply Drawn0.step)⟩
                · rw [if_neg c10] at H
                  exact absurd H (by simp)
              · rw [if_neg c9] at H
                exact absurd H (by simp)
            · rw [if_neg c7] at H
              exact absurd H (by simp)
          · rw [if_neg c5] at H
            have c5b0 : ((bt a0 x5_1) == 61) = false := beq_eq_false_iff_ne.mpr c5
            have c5b1 : ((bt a0 x5_1) != 61) = true := bne_iff_ne.mpr c5
            have H' := Aside0.mk H
            clear H
            have p4 : 0 ≤ (x5_1 : Int) := of_decide_eq_true (by first | (with_reducible assumption) | assumption)
            have q4 : x5_1 < (a0.size : Int) := of_decide_eq_true (by first | (with_reducible assumption) | assumption)
            have hx4 := bt_at a0 x5_1
            replace p4 := eq_true p4
            replace q4 := eq_true q4
            go_wp2
            repeat (go_quiet (fail); try go_wp2)
            go_roundg k1
            case measure => have := HK1.out; omega
            case rel => exact ⟨(wrap64 (x5_1 + 1)), (by first | rfl | (simp; done) | (simp [*]; done)), H', ⟨by have := HK1.out; omega⟩, by repeat (first | exact Drawn0.refl _ | apply Drawn0.step)⟩
        · rw [if_neg c3] at H
          exact absurd H (by simp)
      · rw [if_neg c2] at H
        have c2b0 : decide (x5_1 < (a0.size : Int)) = false := decide_eq_false c2
        clear c2
        simp only [Option.some.injEq, Prod.mk.injEq] at H
        obtain ⟨rfl, rfl, rfl⟩ := H
        go_wp2
        repeat (go_quiet (fail); try go_wp2)
        go_ret3
        exact ⟨by first | rfl | (simp; done) | (simp [*]; done), by repeat (first | exact Drawn0.refl _ | apply Drawn0.step)⟩

/-! ### spec_Look: function 26 -/
def spec_Look.l0 : Nat → List (S51) → ByteArray → Int → Option (ByteArray × Bool)
  | 0, _, _, _ => none
  | k + 1, x0, x1, x6 => if x6 ≥ 0 then (if 0 ≤ x6 then (if x6 < (x0.length : Int) then (if ((rd_T51 x0 x6).f0).toList = x1.toList then (some ((rd_T51 x0 x6).f1, true)) else (spec_Look.l0 k x0 x1 (wrap64 (x6 - 1)))) else (none)) else (none)) else (some ((⟨#[]⟩ : ByteArray), false))
def spec_Look.f (k : Nat) (l0 : List (S51)) (a1 : ByteArray) : Option (ByteArray × Bool) := spec_Look.l0 k l0 a1 (wrap64 ((l0.length : Int) - 1))
theorem spec_Look.mono_l : ∀ k, (∀ y0 y1 y2, LeO (spec_Look.l0 k y0 y1 y2) (spec_Look.l0 (k + 1) y0 y1 y2))
  | 0 => fun _ _ _ r h => by simp [spec_Look.l0] at h
  | k + 1 => by
    have ih0 := spec_Look.mono_l k
    · intro y0 y1 y2
      unfold spec_Look.l0
      repeat' first
      | (with_reducible exact ih0 _ _ _)
      | (with_reducible exact LeO.refl _)
      | (with_reducible exact LeO.none _)
      | (with_reducible refine LeO.ite ?_ ?_)
      | (with_reducible refine LeO.bind ?_ (fun _ => ?_))
      | exact ih0 _ _ _
      | exact LeO.none _
      | refine LeO.ite ?_ ?_
      | refine LeO.bind ?_ (fun _ => ?_)
theorem spec_Look.mono : ∀ a0 a1 k, LeO (spec_Look.f k a0 a1) (spec_Look.f (k + 1) a0 a1) := by
  intro a0 a1 k
  have ih0 := spec_Look.mono_l k
  unfold spec_Look.f
  repeat' first
      | (with_reducible exact ih0 _ _ _)
      | (with_reducible exact LeO.refl _)
      | (with_reducible exact LeO.none _)
      | (with_reducible refine LeO.ite ?_ ?_)
      | (with_reducible refine LeO.bind ?_ (fun _ => ?_))
      | exact ih0 _ _ _
      | exact LeO.none _
      | refine LeO.ite ?_ ?_
      | refine LeO.bind ?_ (fun _ => ?_)
set_option maxHeartbeats 8000000 in
set_option maxRecDepth 100000 in
theorem spec_Look.calls (k : Nat) (A0 : Option Addr) (c0 : Nat) (l0 : List (S51)) (a1 : ByteArray) (r1 : ByteArray) (r2 : Bool) (w : World) (hr0 : Kd.C k51 w A0 l0.length l0) (hc0 : l0.length ≤ c0) (h : spec_Look.f k l0 a1 = some (r1, r2)) :
    Calls Tryd.prog 26 #[.slice A0 l0.length c0, .string a1] w fun e w' => e = .returned (.tuple #[.string r1, .bool r2]) ∧ Drawn0 w w' := by
  have HR0 := Aside0.mk hr0
  have HC0 := Aside0.mk hc0
  clear hr0 hc0
  have H : (spec_Look.l0 k l0 a1 (wrap64 ((l0.length : Int) - 1))) = some (r1, r2) := h
  clear h
  have H' := Aside0.mk H
  clear H
  go_enter Tryd.func26, Tryd.ntmps26
  go_wp2
  go_loopg [6] k (fun kq v6 w' => ∃ (x6_1 : Int), v6 = .int .i64 x6_1 ∧ Aside0 (spec_Look.l0 kq l0 a1 x6_1 = some (r1, r2)) ∧ Aside0 (kq ≤ k) ∧ Drawn0 w w')
  case atStart => exact ⟨(wrap64 ((l0.length : Int) - 1)), (by first | rfl | (simp; done) | (simp [*]; done)), H', ⟨Nat.le_refl _⟩, by repeat (first | exact Drawn0.refl _ | apply Drawn0.step)⟩
  case round =>
    clear H'
    try clear c2
    try clear p2
    obtain ⟨x6_1, rfl, HA, HK1, ⟨m1, rfl⟩⟩ := hrel
    cases gk with
    | zero => exact absurd HA.out (by simp [spec_Look.l0])
    | succ k1 =>
      have H := HA.out
      clear HA
      simp only [spec_Look.l0] at H
      by_cases c3 : x6_1 ≥ 0
      · rw [if_pos c3] at H
        have c3b0 : decide (0 ≤ x6_1) = true := decide_eq_true c3
        clear c3
        by_cases c4 : 0 ≤ x6_1
        · rw [if_pos c4] at H
          have c4b0 : decide (0 ≤ x6_1) = true := decide_eq_true c4
          clear c4
          by_cases c5 : x6_1 < (l0.length : Int)
          · rw [if_pos c5] at H
            have c5b0 : decide (x6_1 < (l0.length : Int)) = true := decide_eq_true c5
            clear c5
            by_cases c6 : ((rd_T51 l0 x6_1).f0).toList = a1.toList
            · rw [if_pos c6] at H
              have c6b0 : (((rd_T51 l0 x6_1).f0).toList == a1.toList) = true := beq_iff_eq.mpr c6
              have c6b1 : (((rd_T51 l0 x6_1).f0).toList != a1.toList) = false := bne_eq_false_iff_eq.mpr c6
              clear c6
              simp only [Option.some.injEq, Prod.mk.injEq] at H
              obtain ⟨rfl, rfl⟩ := H
              have p161 : 0 ≤ (x6_1 : Int) := of_decide_eq_true (by first | (with_reducible assumption) | assumption)
              have q161 : x6_1 < (l0.length : Int) := of_decide_eq_true (by first | (with_reducible assumption) | assumption)
              obtain ⟨ad161, e161, hx161_0, hx161_1⟩ := at_T51 HR0.out x6_1 p161 q161
              cases e161
              replace p161 := eq_true p161
              replace q161 := eq_true q161
              have p162 : 0 ≤ (x6_1 : Int) := of_decide_eq_true (by first | (with_reducible assumption) | assumption)
              have q162 : x6_1 < (l0.length : Int) := of_decide_eq_true (by first | (with_reducible assumption) | assumption)
              obtain ⟨ad162, e162, hx162_0, hx162_1⟩ := at_T51 HR0.out x6_1 p162 q162
              obtain rfl : ad161 = ad162 := (by injection e162)
              replace p162 := eq_true p162
              replace q162 := eq_true q162
              go_wp2
              go_ret2
              exact ⟨by first | rfl | (simp; done) | (simp [*]; done), by repeat (first | exact Drawn0.refl _ | apply Drawn0.step)⟩
            · rw [if_neg c6] at H
              have c6b0 : (((rd_T51 l0 x6_1).f0).toList == a1.toList) = false := beq_eq_false_iff_ne.mpr c6
              have c6b1 : (((rd_T51 l0 x6_1).f0).toList != a1.toList) = true := bne_iff_ne.mpr c6
              have H' := Aside0.mk H
              clear H
              have p161 : 0 ≤ (x6_1 : Int) := of_decide_eq_true (by first | (with_reducible assumption) | assumption)
              have q161 : x6_1 < (l0.length : Int) := of_decide_eq_true (by first | (with_reducible assumption) | assumption)
              obtain ⟨ad161, e161, hx161_0, hx161_1⟩ := at_T51 HR0.out x6_1 p161 q161
              cases e161
              replace p161 := eq_true p161
              replace q161 := eq_true q161
              go_wp2
              go_roundg k1
              case measure => have := HK1.out; omega
              case rel => exact ⟨(wrap64 (x6_1 - 1)), (by first | rfl | (simp; done) | (simp [*]; done)), H', ⟨by have := HK1.out; omega⟩, by repeat (first | exact Drawn0.refl _ | apply Drawn0.step)⟩
          · rw [if_neg c5] at H
            exact absurd H (by simp)
        · rw [if_neg c4] at H
          exact absurd H (by simp)
      · rw [if_neg c3] at H
        have c3b0 : decide (0 ≤ x6_1) = false := decide_eq_false c3
        clear c3
        simp only [Option.some.injEq, Prod.mk.injEq] at H
        obtain ⟨rfl, rfl⟩ := H
        go_wp2
        go_ret2
        exact ⟨by first | rfl | (simp; done) | (simp [*]; done), by repeat (first | exact Drawn0.refl _ | apply Drawn0.step)⟩

/-! ### spec_normTexts: function 27 -/
def spec_normTexts.l0 : Nat → Int → Int → Int → ByteArray → List ByteArray → List (S25) → Option (Bool)
  | 0, _, _, _, _, _, _ => none
  | k + 1, x3, x164000, x164001, x164002, x164003, x164004 => if x3 < (x164004.length : Int) then (if 0 ≤ x3 then (if ((rd_T25 x164004 x3).f0) = 3 then (spec_normTexts.l0 k (wrap64 (x3 + 1)) x164000 x164001 x164002 x164003 x164004) else (some false)) else (none)) else (some (x164000 == 4))
def spec_normTexts.f (k : Nat) (a0_0 : Int) (a0_1 : Int) (a0_2 : ByteArray) (l0_3 : List ByteArray) (l0_4 : List (S25)) : Option (Bool) := spec_normTexts.l0 k 0 a0_0 a0_1 a0_2 l0_3 l0_4
theorem spec_normTexts.mono_l : ∀ k, (∀ y0 y1 y2 y3 y4 y5, LeO (spec_normTexts.l0 k y0 y1 y2 y3 y4 y5) (spec_normTexts.l0 (k + 1) y0 y1 y2 y3 y4 y5))
  | 0 => fun _ _ _ _ _ _ r h => by simp [spec_normTexts.l0] at h
  | k + 1 => by
    have ih0 := spec_normTexts.mono_l k
    · intro y0 y1 y2 y3 y4 y5
      unfold spec_normTexts.l0
      repeat' first
      | (with_reducible exact ih0 _ _ _ _ _ _)
      | (with_reducible exact LeO.refl _)
      | (with_reducible exact LeO.none _)
      | (with_reducible refine LeO.ite ?_ ?_)
      | (with_reducible refine LeO.bind ?_ (fun _ => ?_))
      | exact ih0 _ _ _ _ _ _
      | exact LeO.none _
      | refine LeO.ite ?_ ?_
      | refine LeO.bind ?_ (fun _ => ?_)
theorem spec_normTexts.mono : ∀ a0 a1 a2 a3 a4 k, LeO (spec_normTexts.f k a0 a1 a2 a3 a4) (spec_normTexts.f (k + 1) a0 a1 a2 a3 a4) := by
  intro a0 a1 a2 a3 a4 k
  have ih0 := spec_normTexts.mono_l k
  unfold spec_normTexts.f
  repeat' first
      | (with_reducible exact ih0 _ _ _ _ _ _)
      | (with_reducible exact LeO.refl _)
      | (with_reducible exact LeO.none _)
      | (with_reducible refine LeO.ite ?_ ?_)
      | (with_reducible refine LeO.bind ?_ (fun _ => ?_))
      | exact ih0 _ _ _ _ _ _
      | exact LeO.none _
      | refine LeO.ite ?_ ?_
      | refine LeO.bind ?_ (fun _ => ?_)
set_option maxHeartbeats 8000000 in
set_option maxRecDepth 100000 in
theorem spec_normTexts.calls (k : Nat) (a0_0 : Int) (a0_1 : Int) (a0_2 : ByteArray) (A0_3 : Option Addr) (c0_3 : Nat) (l0_3 : List ByteArray) (A0_4 : Option Addr) (c0_4 : Nat) (l0_4 : List (S25)) (r : Bool) (w : World) (hr0_3 : Kd.C Kd.string w A0_3 l0_3.length l0_3) (hc0_3 : l0_3.length ≤ c0_3) (hr0_4 : Kd.C k25 w A0_4 l0_4.length l0_4) (hc0_4 : l0_4.length ≤ c0_4) (h : spec_normTexts.f k a0_0 a0_1 a0_2 l0_3 l0_4 = some r) :
    Calls Tryd.prog 27 #[.agg #[.int .i64 a0_0, .int .i64 a0_1, .string a0_2, .slice A0_3 l0_3.length c0_3, .slice A0_4 l0_4.length c0_4]] w fun e w' => e = .returned (.bool r) ∧ Below w.heap.size w w' := by
  have hu25 := Tryd.underlying25
  have HR0_3 := Aside0.mk hr0_3
  have HC0_3 := Aside0.mk hc0_3
  clear hr0_3 hc0_3
  have HR0_4 := Aside0.mk hr0_4
  have HC0_4 := Aside0.mk hc0_4
  clear hr0_4 hc0_4
  have HB := Aside0.mk (Below.refl w.heap.size w)
  have H : (spec_normTexts.l0 k 0 a0_0 a0_1 a0_2 l0_3 l0_4) = some r := h
  clear h
  have H' := Aside0.mk H
  clear H
  go_enter Tryd.func27, Tryd.ntmps27
  go_wp2_with (first | ((with_reducible refine gate_dst (N := 1) rfl ?_); refine box_event ?hg (N := 1) ?hd (cs := #[.int .i64 a0_0, .int .i64 a0_1, .string a0_2, .slice A0_3 l0_3.length c0_3, .slice A0_4 l0_4.length c0_4]) (t := 25) ?hr ?_; (case hd => rfl); (case hg => rfl); (case hr => first | (go_simp; done) | (go_simp; rfl)); intro gb163 hg w2 hbox hb; have n0_ := Aside0.mk (below_step (by repeat (first | (with_reducible first | exact HB.out | apply below_alloc | apply pw_below_drewN | apply below_drew1) | exact HB.out)) hb); have n1_ := Aside0.mk (hbox); have n2_ := Aside0.mk ((by rw [hg]; exact (below_size (by repeat (first | (with_reducible first | exact HB.out | apply below_alloc | apply pw_below_drewN | apply below_drew1) | exact HB.out))) : w.heap.size ≤ gb163)); have n3_ := Aside0.mk ((by rw [hg]; exact (below_size (by repeat (first | (with_reducible first | exact HB.out | apply below_alloc | apply pw_below_drewN | apply below_drew1) | exact HB.out))) : w.heap.size ≤ gb163)); clear HB; have HB := n0_; have BK163 := n1_; have GW163 := n2_; have GE163 := n3_; clear n0_ n1_ n2_ n3_; clear hb hbox hg))
  go_loopg [3] k (fun kq v3 w' => ∃ (x3_1 : Int), v3 = .int .i64 x3_1 ∧ Aside0 (spec_normTexts.l0 kq x3_1 a0_0 a0_1 a0_2 l0_3 l0_4 = some r) ∧ Aside0 (kq ≤ k) ∧ Aside0 (w'.heap[gb163]? = some (.cells #[.int .i64 a0_0, .int .i64 a0_1, .string a0_2, (.slice A0_3 l0_3.length c0_3), (.slice A0_4 l0_4.length c0_4)] 25 (0, 0))) ∧ Aside0 (Below w.heap.size w w'))
  case atStart => exact ⟨(0), (by first | rfl | (simp; done) | (simp [*]; done)), H', ⟨Nat.le_refl _⟩, ⟨by (with_reducible repeat (first | refine blk_drewN ?_ _ | refine blk_drew ?_ | refine blk_alloc ?_ _)); exact BK163.out⟩, ⟨by repeat (first | (with_reducible first | exact HB.out | apply below_alloc | apply pw_below_drewN | apply below_drew1 | refine below_set ?_ GE163.out) | exact HB.out)⟩⟩
  case round =>
    clear H'
    try clear c2
    try clear p2
    obtain ⟨x3_1, rfl, HA, HK1, BK163, HB⟩ := hrel
    cases gk with
    | zero => exact absurd HA.out (by simp [spec_normTexts.l0])
    | succ k1 =>
      have H := HA.out
      clear HA
      simp only [spec_normTexts.l0] at H
      by_cases c3 : x3_1 < (l0_4.length : Int)
      · rw [if_pos c3] at H
        have c3b0 : decide (x3_1 < (l0_4.length : Int)) = true := decide_eq_true c3
        clear c3
        by_cases c4 : 0 ≤ x3_1
        · rw [if_pos c4] at H
          have c4b0 : decide (0 ≤ x3_1) = true := decide_eq_true c4
          clear c4
          by_cases c5 : ((rd_T25 l0_4 x3_1).f0) = 3
          · rw [if_pos c5] at H
            have c5b0 : (((rd_T25 l0_4 x3_1).f0) == 3) = true := beq_iff_eq.mpr c5
            have c5b1 : (((rd_T25 l0_4 x3_1).f0) != 3) = false := bne_eq_false_iff_eq.mpr c5
            clear c5
            have H' := Aside0.mk H
            clear H
            have hcz6_0 : wr.cell? ⟨gb163, 0, none⟩ = some (.int .i64 a0_0) := (blk_cell BK163.out 0).trans rfl
            have hcz6_1 : wr.cell? ⟨gb163, 1, none⟩ = some (.int .i64 a0_1) := (blk_cell BK163.out 1).trans rfl
            have hcz6_2 : wr.cell? ⟨gb163, 2, none⟩ = some (.string a0_2) := (blk_cell BK163.out 2).trans rfl
            have hcz6_3 : wr.cell? ⟨gb163, 3, none⟩ = some (.slice A0_3 l0_3.length c0_3) := (blk_cell BK163.out 3).trans rfl
            have hcz6_4 : wr.cell? ⟨gb163, 4, none⟩ = some (.slice A0_4 l0_4.length c0_4) := (blk_cell BK163.out 4).trans rfl
            have hfz6_0 := blk_frozen BK163.out 0
            have hfz6_1 := blk_frozen BK163.out 1
            have hfz6_2 := blk_frozen BK163.out 2
            have hfz6_3 := blk_frozen BK163.out 3
            have hfz6_4 := blk_frozen BK163.out 4
            have p164 : 0 ≤ (x3_1 : Int) := of_decide_eq_true (by first | (with_reducible assumption) | assumption)
            have q164 : x3_1 < (l0_4.length : Int) := of_decide_eq_true (by first | (with_reducible assumption) | assumption)
            obtain ⟨ad164, A164_3, c164_3, A164_4, c164_4, e164, hx164_0, hx164_1, hx164_2, hx164_3, hx164_4, hl164_3, hi164_3, hl164_4, hi164_4⟩ := at_T25 HR0_4.out x3_1 p164 q164
            cases e164
            replace hx164_0 := (HB.out.cell (World.block_lt_of_cell? w _ hx164_0)).trans hx164_0
            replace hx164_1 := (HB.out.cell (World.block_lt_of_cell? w _ hx164_1)).trans hx164_1
            replace hx164_2 := (HB.out.cell (World.block_lt_of_cell? w _ hx164_2)).trans hx164_2
            replace hx164_3 := (HB.out.cell (World.block_lt_of_cell? w _ hx164_3)).trans hx164_3
            replace hx164_4 := (HB.out.cell (World.block_lt_of_cell? w _ hx164_4)).trans hx164_4
            have HR164_3 := Aside0.mk hi164_3
            have HC164_3 := Aside0.mk hl164_3
            clear hi164_3 hl164_3
            have HR164_4 := Aside0.mk hi164_4
            have HC164_4 := Aside0.mk hl164_4
            clear hi164_4 hl164_4
            replace p164 := eq_true p164
            replace q164 := eq_true q164
            go_wp2
            go_roundg k1
            case measure => have := HK1.out; omega
            case rel => exact ⟨(wrap64 (x3_1 + 1)), (by first | rfl | (simp; done) | (simp [*]; done)), H', ⟨by have := HK1.out; omega⟩, ⟨by (with_reducible repeat (first | refine blk_drewN ?_ _ | refine blk_drew ?_ | refine blk_alloc ?_ _)); exact BK163.out⟩, ⟨by repeat (first | (with_reducible first | exact HB.out | apply below_alloc | apply pw_below_drewN | apply below_drew1 | refine below_set ?_ GE163.out) | exact HB.out)⟩⟩
          · rw [if_neg c5] at H
            have c5b0 : (((rd_T25 l0_4 x3_1).f0) == 3) = false := beq_eq_false_iff_ne.mpr c5
            have c5b1 : (((rd_T25 l0_4 x3_1).f0) != 3) = true := bne_iff_ne.mpr c5
            obtain rfl := Option.some.inj H
            have hcz7_0 : wr.cell? ⟨gb163, 0, none⟩ = some (.int .i64 a0_0) := (blk_cell BK163.out 0).trans rfl
            have hcz7_1 : wr.cell? ⟨gb163, 1, none⟩ = some (.int .i64 a0_1) := (blk_cell BK163.out 1).trans rfl
            have hcz7_2 : wr.cell? ⟨gb163, 2, none⟩ = some (.string a0_2) := (blk_cell BK163.out 2).trans rfl
            have hcz7_3 : wr.cell? ⟨gb163, 3, none⟩ = some (.slice A0_3 l0_3.length c0_3) := (blk_cell BK163.out 3).trans rfl
            have hcz7_4 : wr.cell? ⟨gb163, 4, none⟩ = some (.slice A0_4 l0_4.length c0_4) := (blk_cell BK163.out 4).trans rfl
            have hfz7_0 := blk_frozen BK163.out 0
            have hfz7_1 := blk_frozen BK163.out 1
            have hfz7_2 := blk_frozen BK163.out 2
            have hfz7_3 := blk_frozen BK163.out 3
            have hfz7_4 := blk_frozen BK163.out 4
            have p164 : 0 ≤ (x3_1 : Int) := of_decide_eq_true (by first | (with_reducible assumption) | assumption)
            have q164 : x3_1 < (l0_4.length : Int) := of_decide_eq_true (by first | (with_reducible assumption) | assumption)
            obtain ⟨ad164, A164_3, c164_3, A164_4, c164_4, e164, hx164_0, hx164_1, hx164_2, hx164_3, hx164_4, hl164_3, hi164_3, hl164_4, hi164_4⟩ := at_T25 HR0_4.out x3_1 p164 q164
            cases e164
            replace hx164_0 := (HB.out.cell (World.block_lt_of_cell? w _ hx164_0)).trans hx164_0
            replace hx164_1 := (HB.out.cell (World.block_lt_of_cell? w _ hx164_1)).trans hx164_1
            replace hx164_2 := (HB.out.cell (World.block_lt_of_cell? w _ hx164_2)).trans hx164_2
            replace hx164_3 := (HB.out.cell (World.block_lt_of_cell? w _ hx164_3)).trans hx164_3
            replace hx164_4 := (HB.out.cell (World.block_lt_of_cell? w _ hx164_4)).trans hx164_4
            have HR164_3 := Aside0.mk hi164_3
            have HC164_3 := Aside0.mk hl164_3
            clear hi164_3 hl164_3
            have HR164_4 := Aside0.mk hi164_4
            have HC164_4 := Aside0.mk hl164_4
            clear hi164_4 hl164_4
            replace p164 := eq_true p164
            replace q164 := eq_true q164
            go_wp2
            go_ret
            exact ⟨by first | rfl | (simp [errW_none, errW_some] <;> rfl) | (simp [*, errW_none, errW_some] <;> rfl), by repeat (first | (with_reducible first | exact HB.out | apply below_alloc | apply pw_below_drewN | apply below_drew1 | refine below_set ?_ GE163.out) | exact HB.out)⟩
        · rw [if_neg c4] at H
          exact absurd H (by simp)
      · rw [if_neg c3] at H
        have c3b0 : decide (x3_1 < (l0_4.length : Int)) = false := decide_eq_false c3
        clear c3
        obtain rfl := Option.some.inj H
        have hcz8_0 : wr.cell? ⟨gb163, 0, none⟩ = some (.int .i64 a0_0) := (blk_cell BK163.out 0).trans rfl
        have hcz8_1 : wr.cell? ⟨gb163, 1, none⟩ = some (.int .i64 a0_1) := (blk_cell BK163.out 1).trans rfl
        have hcz8_2 : wr.cell? ⟨gb163, 2, none⟩ = some (.string a0_2) := (blk_cell BK163.out 2).trans rfl
        have hcz8_3 : wr.cell? ⟨gb163, 3, none⟩ = some (.slice A0_3 l0_3.length c0_3) := (blk_cell BK163.out 3).trans rfl
        have hcz8_4 : wr.cell? ⟨gb163, 4, none⟩ = some (.slice A0_4 l0_4.length c0_4) := (blk_cell BK163.out 4).trans rfl
        have hfz8_0 := blk_frozen BK163.out 0
        have hfz8_1 := blk_frozen BK163.out 1
        have hfz8_2 := blk_frozen BK163.out 2
        have hfz8_3 := blk_frozen BK163.out 3
        have hfz8_4 := blk_frozen BK163.out 4
        go_wp2
        go_ret
        exact ⟨by first | rfl | (simp [errW_none, errW_some] <;> rfl) | (simp [*, errW_none, errW_some] <;> rfl), by repeat (first | (with_reducible first | exact HB.out | apply below_alloc | apply pw_below_drewN | apply below_drew1 | refine below_set ?_ GE163.out) | exact HB.out)⟩

end Go.Proofs.YtgeamhmenmomhaaDoor.PT
