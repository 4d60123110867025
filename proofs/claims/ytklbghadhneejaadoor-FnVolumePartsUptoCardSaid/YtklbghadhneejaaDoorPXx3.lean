-- Written by a program over the translation (xprint.py). Lean checks it.
import Derived.Test.YtklbghadhneejaaDoorPXx0
import Derived.Test.YtklbghadhneejaaDoorPXx2
namespace Go.Proofs.YtklbghadhneejaaDoor.PX
open Go.RowKit Go.Proofs.YtklbghadhneejaaDoorW.PrintWords Go.Proofs.YtklbghadhneejaaDoorW.PrintLast Go.Proofs.YtklbghadhneejaaDoorW.PrintMore
attribute [local go_sem] max2_int min2_int max_two min_two max_three min_three max_four min_four   -- for this text's walks alone
set_option linter.unusedVariables false
set_option linter.unusedSimpArgs false

/-! ### spec_shortMode: function 15 -/
mutual
def spec_shortMode.j0 : Nat → ByteArray → List ByteArray → ByteArray → ByteArray → Bool → ByteArray → ByteArray → ByteArray → ByteArray → ByteArray → Bool → Bool → Bool → Option (ByteArray × ByteArray × ByteArray × ByteArray × ByteArray × Bool × Bool × Bool × ByteArray × Bool)
  | 0, _, _, _, _, _, _, _, _, _, _, _, _, _ => none
  | k + 1, x1, x2, x9, x11, x14, x116000, x116001, x116002, x116003, x116004, x116005, x116006, x116007 => if x14 = true then ((spec_mapsIn.f k x2 (⟨#[114, 111]⟩ : ByteArray)).bind fun t117 => (some (x116000, x116001, x116002, x116003, x116004, (x1.toList == ([114, 111] : List UInt8)), x116006, x116007, (⟨#[114, 111]⟩ : ByteArray), !t117))) else (if x11.toList = ([110, 111, 99, 111, 112, 121] : List UInt8) then (if x116000.toList = ([118, 111, 108, 117, 109, 101] : List UInt8) then ((spec_mapsIn.f k x2 x9).bind fun t118 => (some (x116000, x116001, x116002, x116003, x116004, x116005, x116006, true, x9, !t118))) else (some (x116000, x116001, x116002, x116003, x116004, x116005, x116006, true, x9, false))) else (if x11.toList = ([122] : List UInt8) then (spec_shortMode.j1 k x1 x2 x9 x11 (x11.toList == ([122] : List UInt8)) x116000 x116001 x116002 x116003 x116004 x116005 x116006 x116007) else (spec_shortMode.j1 k x1 x2 x9 x11 (x11.toList == ([90] : List UInt8)) x116000 x116001 x116002 x116003 x116004 x116005 x116006 x116007)))
def spec_shortMode.j1 : Nat → ByteArray → List ByteArray → ByteArray → ByteArray → Bool → ByteArray → ByteArray → ByteArray → ByteArray → ByteArray → Bool → Bool → Bool → Option (ByteArray × ByteArray × ByteArray × ByteArray × ByteArray × Bool × Bool × Bool × ByteArray × Bool)
  | 0, _, _, _, _, _, _, _, _, _, _, _, _, _ => none
  | k + 1, x1, x2, x9, x11, x28, x116000, x116001, x116002, x116003, x116004, x116005, x116006, x116007 => if x28 = true then (if x116000.toList = ([98, 105, 110, 100] : List UInt8) then ((spec_mapsIn.f k x2 (⟨#[122]⟩ : ByteArray)).bind fun t119 => (some (x116000, x116001, x116002, x116003, x1, x116005, x116006, x116007, (⟨#[122]⟩ : ByteArray), !t119))) else (some (x116000, x116001, x116002, x116003, x1, x116005, x116006, x116007, (⟨#[122]⟩ : ByteArray), false))) else (if x11.toList = ([112, 114, 105, 118, 97, 116, 101] : List UInt8) then (spec_shortMode.j2 k x1 x2 x9 (x11.toList == ([112, 114, 105, 118, 97, 116, 101] : List UInt8)) x116000 x116001 x116002 x116003 x116004 x116005 x116006 x116007) else (if x11.toList = ([114, 112, 114, 105, 118, 97, 116, 101] : List UInt8) then (spec_shortMode.j2 k x1 x2 x9 (x11.toList == ([114, 112, 114, 105, 118, 97, 116, 101] : List UInt8)) x116000 x116001 x116002 x116003 x116004 x116005 x116006 x116007) else (if x11.toList = ([115, 104, 97, 114, 101, 100] : List UInt8) then (spec_shortMode.j2 k x1 x2 x9 (x11.toList == ([115, 104, 97, 114, 101, 100] : List UInt8)) x116000 x116001 x116002 x116003 x116004 x116005 x116006 x116007) else (if x11.toList = ([114, 115, 104, 97, 114, 101, 100] : List UInt8) then (spec_shortMode.j2 k x1 x2 x9 (x11.toList == ([114, 115, 104, 97, 114, 101, 100] : List UInt8)) x116000 x116001 x116002 x116003 x116004 x116005 x116006 x116007) else (if x11.toList = ([115, 108, 97, 118, 101] : List UInt8) then (spec_shortMode.j2 k x1 x2 x9 (x11.toList == ([115, 108, 97, 118, 101] : List UInt8)) x116000 x116001 x116002 x116003 x116004 x116005 x116006 x116007) else (spec_shortMode.j2 k x1 x2 x9 (x11.toList == ([114, 115, 108, 97, 118, 101] : List UInt8)) x116000 x116001 x116002 x116003 x116004 x116005 x116006 x116007))))))
def spec_shortMode.j2 : Nat → ByteArray → List ByteArray → ByteArray → Bool → ByteArray → ByteArray → ByteArray → ByteArray → ByteArray → Bool → Bool → Bool → Option (ByteArray × ByteArray × ByteArray × ByteArray × ByteArray × Bool × Bool × Bool × ByteArray × Bool)
  | 0, _, _, _, _, _, _, _, _, _, _, _, _ => none
  | k + 1, x1, x2, x9, x38, x116000, x116001, x116002, x116003, x116004, x116005, x116006, x116007 => if x38 = true then (if x116000.toList = ([98, 105, 110, 100] : List UInt8) then ((spec_mapsIn.f k x2 (⟨#[115, 104, 97, 114, 101, 100]⟩ : ByteArray)).bind fun t120 => (some (x116000, x116001, x116002, x1, x116004, x116005, x116006, x116007, (⟨#[115, 104, 97, 114, 101, 100]⟩ : ByteArray), !t120))) else (some (x116000, x116001, x116002, x1, x116004, x116005, x116006, x116007, (⟨#[115, 104, 97, 114, 101, 100]⟩ : ByteArray), false))) else (some (x116000, x116001, x116002, x116003, x116004, x116005, x116006, x116007, x9, false))
end
def spec_shortMode.f (k : Nat) (a0_0 : ByteArray) (a0_1 : ByteArray) (a0_2 : ByteArray) (a0_3 : ByteArray) (a0_4 : ByteArray) (a0_5 : Bool) (a0_6 : Bool) (a0_7 : Bool) (a1 : ByteArray) (l2 : List ByteArray) : Option (ByteArray × ByteArray × ByteArray × ByteArray × ByteArray × Bool × Bool × Bool × ByteArray × Bool) := if a1.toList = ([114, 111] : List UInt8) then (spec_shortMode.j0 k a1 l2 a1 a1 (a1.toList == ([114, 111] : List UInt8)) a0_0 a0_1 a0_2 a0_3 a0_4 a0_5 a0_6 a0_7) else (spec_shortMode.j0 k a1 l2 a1 a1 (a1.toList == ([114, 119] : List UInt8)) a0_0 a0_1 a0_2 a0_3 a0_4 a0_5 a0_6 a0_7)
theorem spec_shortMode.mono_l : ∀ k, (∀ y0 y1 y2 y3 y4 y5 y6 y7 y8 y9 y10 y11 y12, LeO (spec_shortMode.j0 k y0 y1 y2 y3 y4 y5 y6 y7 y8 y9 y10 y11 y12) (spec_shortMode.j0 (k + 1) y0 y1 y2 y3 y4 y5 y6 y7 y8 y9 y10 y11 y12)) ∧ (∀ y0 y1 y2 y3 y4 y5 y6 y7 y8 y9 y10 y11 y12, LeO (spec_shortMode.j1 k y0 y1 y2 y3 y4 y5 y6 y7 y8 y9 y10 y11 y12) (spec_shortMode.j1 (k + 1) y0 y1 y2 y3 y4 y5 y6 y7 y8 y9 y10 y11 y12)) ∧ (∀ y0 y1 y2 y3 y4 y5 y6 y7 y8 y9 y10 y11, LeO (spec_shortMode.j2 k y0 y1 y2 y3 y4 y5 y6 y7 y8 y9 y10 y11) (spec_shortMode.j2 (k + 1) y0 y1 y2 y3 y4 y5 y6 y7 y8 y9 y10 y11))
  | 0 => ⟨fun _ _ _ _ _ _ _ _ _ _ _ _ _ r h => by simp [spec_shortMode.j0] at h, fun _ _ _ _ _ _ _ _ _ _ _ _ _ r h => by simp [spec_shortMode.j1] at h, fun _ _ _ _ _ _ _ _ _ _ _ _ r h => by simp [spec_shortMode.j2] at h⟩
  | k + 1 => by
    obtain ⟨ih0, ih1, ih2⟩ := spec_shortMode.mono_l k
    refine ⟨?_, ?_, ?_⟩
    · intro y0 y1 y2 y3 y4 y5 y6 y7 y8 y9 y10 y11 y12
      unfold spec_shortMode.j0
      repeat' first
      | (with_reducible exact ih0 _ _ _ _ _ _ _ _ _ _ _ _ _)
      | (with_reducible exact ih1 _ _ _ _ _ _ _ _ _ _ _ _ _)
      | (with_reducible exact ih2 _ _ _ _ _ _ _ _ _ _ _ _)
      | (with_reducible exact spec_mapsIn.mono _ _ _)
      | (with_reducible exact LeO.refl _)
      | (with_reducible exact LeO.none _)
      | (with_reducible refine LeO.ite ?_ ?_)
      | (with_reducible refine LeO.bind ?_ (fun _ => ?_))
      | exact ih0 _ _ _ _ _ _ _ _ _ _ _ _ _
      | exact ih1 _ _ _ _ _ _ _ _ _ _ _ _ _
      | exact ih2 _ _ _ _ _ _ _ _ _ _ _ _
      | exact spec_mapsIn.mono _ _ _
      | exact LeO.none _
      | refine LeO.ite ?_ ?_
      | refine LeO.bind ?_ (fun _ => ?_)
    · intro y0 y1 y2 y3 y4 y5 y6 y7 y8 y9 y10 y11 y12
      unfold spec_shortMode.j1
      repeat' first
      | (with_reducible exact ih0 _ _ _ _ _ _ _ _ _ _ _ _ _)
      | (with_reducible exact ih1 _ _ _ _ _ _ _ _ _ _ _ _ _)
      | (with_reducible exact ih2 _ _ _ _ _ _ _ _ _ _ _ _)
      | (with_reducible exact spec_mapsIn.mono _ _ _)
      | (with_reducible exact LeO.refl _)
      | (with_reducible exact LeO.none _)
      | (with_reducible refine LeO.ite ?_ ?_)
      | (with_reducible refine LeO.bind ?_ (fun _ => ?_))
      | exact ih0 _ _ _ _ _ _ _ _ _ _ _ _ _
      | exact ih1 _ _ _ _ _ _ _ _ _ _ _ _ _
      | exact ih2 _ _ _ _ _ _ _ _ _ _ _ _
      | exact spec_mapsIn.mono _ _ _
      | exact LeO.none _
      | refine LeO.ite ?_ ?_
      | refine LeO.bind ?_ (fun _ => ?_)
    · intro y0 y1 y2 y3 y4 y5 y6 y7 y8 y9 y10 y11
      unfold spec_shortMode.j2
      repeat' first
      | (with_reducible exact ih0 _ _ _ _ _ _ _ _ _ _ _ _ _)
      | (with_reducible exact ih1 _ _ _ _ _ _ _ _ _ _ _ _ _)
      | (with_reducible exact ih2 _ _ _ _ _ _ _ _ _ _ _ _)
      | (with_reducible exact spec_mapsIn.mono _ _ _)
      | (with_reducible exact LeO.refl _)
      | (with_reducible exact LeO.none _)
      | (with_reducible refine LeO.ite ?_ ?_)
      | (with_reducible refine LeO.bind ?_ (fun _ => ?_))
      | exact ih0 _ _ _ _ _ _ _ _ _ _ _ _ _
      | exact ih1 _ _ _ _ _ _ _ _ _ _ _ _ _
      | exact ih2 _ _ _ _ _ _ _ _ _ _ _ _
      | exact spec_mapsIn.mono _ _ _
      | exact LeO.none _
      | refine LeO.ite ?_ ?_
      | refine LeO.bind ?_ (fun _ => ?_)
theorem spec_shortMode.mono : ∀ a0 a1 a2 a3 a4 a5 a6 a7 a8 a9 k, LeO (spec_shortMode.f k a0 a1 a2 a3 a4 a5 a6 a7 a8 a9) (spec_shortMode.f (k + 1) a0 a1 a2 a3 a4 a5 a6 a7 a8 a9) := by
  intro a0 a1 a2 a3 a4 a5 a6 a7 a8 a9 k
  obtain ⟨ih0, ih1, ih2⟩ := spec_shortMode.mono_l k
  unfold spec_shortMode.f
  repeat' first
      | (with_reducible exact ih0 _ _ _ _ _ _ _ _ _ _ _ _ _)
      | (with_reducible exact ih1 _ _ _ _ _ _ _ _ _ _ _ _ _)
      | (with_reducible exact ih2 _ _ _ _ _ _ _ _ _ _ _ _)
      | (with_reducible exact spec_mapsIn.mono _ _ _)
      | (with_reducible exact LeO.refl _)
      | (with_reducible exact LeO.none _)
      | (with_reducible refine LeO.ite ?_ ?_)
      | (with_reducible refine LeO.bind ?_ (fun _ => ?_))
      | exact ih0 _ _ _ _ _ _ _ _ _ _ _ _ _
      | exact ih1 _ _ _ _ _ _ _ _ _ _ _ _ _
      | exact ih2 _ _ _ _ _ _ _ _ _ _ _ _
      | exact spec_mapsIn.mono _ _ _
      | exact LeO.none _
      | refine LeO.ite ?_ ?_
      | refine LeO.bind ?_ (fun _ => ?_)
def spec_shortMode.T28 : Bool × List (List Nat × List Nat) := (true, [([], []), ([], []), ([], []), ([], []), ([2, 3], [2, 3]), ([4], [4]), ([0, 4, 0], [0]), ([1, 6, 0, 1, 6], [1]), ([5, 7, 0, 1, 2, 3, 4, 5, 6, 7], [5])])
def spec_shortMode.B28 : List Nat := [0, 0, 0, 0, 12, 28, 29, 95, 255]
theorem spec_shortMode.tab28 : rtab .any (opsOf Tryd.f15 28) = spec_shortMode.T28 := by kernel_rfl
theorem spec_shortMode.bits28 : waitsOk spec_shortMode.T28.2 spec_shortMode.B28 = true := by kernel_rfl
set_option maxHeartbeats 8000000 in
set_option maxRecDepth 100000 in
theorem spec_shortMode.calls (k : Nat) (a0_0 : ByteArray) (a0_1 : ByteArray) (a0_2 : ByteArray) (a0_3 : ByteArray) (a0_4 : ByteArray) (a0_5 : Bool) (a0_6 : Bool) (a0_7 : Bool) (a1 : ByteArray) (A2 : Option Addr) (c2 : Nat) (l2 : List ByteArray) (r1 : ByteArray) (r2 : ByteArray) (r3 : ByteArray) (r4 : ByteArray) (r5 : ByteArray) (r6 : Bool) (r7 : Bool) (r8 : Bool) (r9 : ByteArray) (r10 : Bool) (w : World) (hr2 : Kd.C Kd.string w A2 l2.length l2) (hc2 : l2.length ≤ c2) (h : spec_shortMode.f k a0_0 a0_1 a0_2 a0_3 a0_4 a0_5 a0_6 a0_7 a1 l2 = some (r1, r2, r3, r4, r5, r6, r7, r8, r9, r10)) :
    Calls Tryd.prog 15 #[.agg #[.string a0_0, .string a0_1, .string a0_2, .string a0_3, .string a0_4, .bool a0_5, .bool a0_6, .bool a0_7], .string a1, .slice A2 l2.length c2] w fun e w' => e = .returned (.tuple #[.agg #[.string r1, .string r2, .string r3, .string r4, .string r5, .bool r6, .bool r7, .bool r8], .string r9, .bool r10]) ∧ Below w.heap.size w w' := by
  have hu25 := Tryd.underlying25
  have HR2 := Aside0.mk hr2
  have HC2 := Aside0.mk hc2
  clear hr2 hc2
  have HB := Aside0.mk (Below.refl w.heap.size w)
  have H : (if a1.toList = ([114, 111] : List UInt8) then (spec_shortMode.j0 k a1 l2 a1 a1 (a1.toList == ([114, 111] : List UInt8)) a0_0 a0_1 a0_2 a0_3 a0_4 a0_5 a0_6 a0_7) else (spec_shortMode.j0 k a1 l2 a1 a1 (a1.toList == ([114, 119] : List UInt8)) a0_0 a0_1 a0_2 a0_3 a0_4 a0_5 a0_6 a0_7)) = some (r1, r2, r3, r4, r5, r6, r7, r8, r9, r10) := h
  clear h
  have HC4 := Aside0.mk H
  clear H
  go_enter Tryd.func15, Tryd.ntmps15
  go_upto_if 14 with (first | ((with_reducible refine gate_dst (N := 3) rfl ?_); refine box_event ?hg (N := 3) ?hd (cs := #[.string a0_0, .string a0_1, .string a0_2, .string a0_3, .string a0_4, .bool a0_5, .bool a0_6, .bool a0_7]) (t := 25) ?hr ?_; (case hd => rfl); (case hg => rfl); (case hr => first | (go_simp; done) | (go_simp; rfl)); intro gb115 hg w5 hbox hb; have n0_ := Aside0.mk (below_step (by repeat (first | (with_reducible first | exact HB.out | apply below_alloc | apply pw_below_drewN | apply below_drew1) | exact HB.out)) hb); have n1_ := Aside0.mk (hbox); have n2_ := Aside0.mk ((by rw [hg]; exact (below_size (by repeat (first | (with_reducible first | exact HB.out | apply below_alloc | apply pw_below_drewN | apply below_drew1) | exact HB.out))) : w.heap.size ≤ gb115)); have n3_ := Aside0.mk ((by rw [hg]; exact (below_size (by repeat (first | (with_reducible first | exact HB.out | apply below_alloc | apply pw_below_drewN | apply below_drew1) | exact HB.out))) : w.heap.size ≤ gb115)); clear HB; have HB := n0_; have BK115 := n1_; have GW115 := n2_; have GE115 := n3_; clear n0_ n1_ n2_ n3_; clear hb hbox hg) | ((with_reducible refine gate_dst (N := 6) rfl ?_); refine box_event ?hg (N := 6) ?hd (cs := #[.string (⟨#[]⟩ : ByteArray), .string (⟨#[]⟩ : ByteArray), .string (⟨#[]⟩ : ByteArray), .string (⟨#[]⟩ : ByteArray), .string (⟨#[]⟩ : ByteArray), .bool false, .bool false, .bool false]) (t := 25) ?hr ?_; (case hd => rfl); (case hg => rfl); (case hr => first | (go_simp; done) | (go_simp; rfl)); intro gb116 hg w6 hbox hb; have n0_ := Aside0.mk (blk_below (g := gb115) (o := .cells #[.string a0_0, .string a0_1, .string a0_2, .string a0_3, .string a0_4, .bool a0_5, .bool a0_6, .bool a0_7] 25 (0, 0)) (by (with_reducible repeat (first | refine blk_drewN ?_ _ | refine blk_drew ?_ | refine blk_alloc ?_ _)); exact BK115.out) hb); have n1_ := Aside0.mk (below_step (by repeat (first | (with_reducible first | exact HB.out | apply below_alloc | apply pw_below_drewN | apply below_drew1 | refine below_set ?_ GE115.out) | exact HB.out)) hb); have n2_ := Aside0.mk (hbox); have n3_ := Aside0.mk ((by rw [hg]; exact (below_size (by repeat (first | (with_reducible first | exact HB.out | apply below_alloc | apply pw_below_drewN | apply below_drew1 | refine below_set ?_ GE115.out) | exact HB.out))) : w.heap.size ≤ gb116)); have n4_ := Aside0.mk ((by rw [hg]; exact (below_size (by repeat (first | (with_reducible first | exact HB.out | apply below_alloc | apply pw_below_drewN | apply below_drew1 | refine below_set ?_ GE115.out) | exact HB.out))) : w.heap.size ≤ gb116)); have n5_ := Aside0.mk ((by rw [hg]; exact Nat.ne_of_lt (blk_lt (g := gb115) (o := .cells #[.string a0_0, .string a0_1, .string a0_2, .string a0_3, .string a0_4, .bool a0_5, .bool a0_6, .bool a0_7] 25 (0, 0)) (by (with_reducible repeat (first | refine blk_drewN ?_ _ | refine blk_drew ?_ | refine blk_alloc ?_ _)); exact BK115.out)) : gb115 ≠ gb116)); have n6_ := Aside0.mk ((by rw [hg]; exact Nat.ne_of_gt (blk_lt (g := gb115) (o := .cells #[.string a0_0, .string a0_1, .string a0_2, .string a0_3, .string a0_4, .bool a0_5, .bool a0_6, .bool a0_7] 25 (0, 0)) (by (with_reducible repeat (first | refine blk_drewN ?_ _ | refine blk_drew ?_ | refine blk_alloc ?_ _)); exact BK115.out)) : gb116 ≠ gb115)); clear BK115; clear HB; have BK115 := n0_; have HB := n1_; have BK116 := n2_; have GW116 := n3_; have GE116 := n4_; have NB115_116 := n5_; have NB116_115 := n6_; clear n0_ n1_ n2_ n3_ n4_ n5_ n6_; clear hb hbox hg))
  (try simp only [Act.put, List.setIfInBounds_toArray, List.set_cons_zero, List.set_cons_succ])
  go_cut [14] (fun v14 wc => ∃ (kq : Nat) (x14_3 : Bool), v14 = .bool x14_3 ∧ Aside0 (spec_shortMode.j0 kq a1 l2 a1 a1 x14_3 a0_0 a0_1 a0_2 a0_3 a0_4 a0_5 a0_6 a0_7 = some (r1, r2, r3, r4, r5, r6, r7, r8, r9, r10)) ∧ Aside0 (kq ≤ k) ∧ Aside0 (wc.heap[gb115]? = some (.cells #[.string a0_0, .string a0_1, .string a0_2, .string a0_3, .string a0_4, .bool a0_5, .bool a0_6, .bool a0_7] 25 (0, 0))) ∧ Aside0 (wc.heap[gb116]? = some (.cells #[.string (⟨#[]⟩ : ByteArray), .string (⟨#[]⟩ : ByteArray), .string (⟨#[]⟩ : ByteArray), .string (⟨#[]⟩ : ByteArray), .string (⟨#[]⟩ : ByteArray), .bool false, .bool false, .bool false] 25 (0, 0))) ∧ Aside0 (Below w.heap.size w wc))
  case first =>
    have H := HC4.out
    clear HC4
    by_cases c7 : a1.toList = ([114, 111] : List UInt8)
    · rw [if_pos c7] at H
      have c7b0 : (a1.toList == ([114, 111] : List UInt8)) = true := beq_iff_eq.mpr c7
      have c7b1 : (a1.toList != ([114, 111] : List UInt8)) = false := bne_eq_false_iff_eq.mpr c7
      clear c7
      (first | rw [c7b0] | (simp only [i64_w, i32_w]; rw [c7b0]) | skip)
      have H' := Aside0.mk H
      clear H
      go_wp2
      go_meet
      case rel => exact ⟨_, ((a1.toList == ([114, 111] : List UInt8))), (by first | rfl | (simp; done) | (simp [*]; done)), H', ⟨by first | omega | exact Nat.le_refl _⟩, ⟨by (with_reducible repeat (first | refine blk_drewN ?_ _ | refine blk_drew ?_ | refine blk_alloc ?_ _)); exact BK115.out⟩, ⟨by (with_reducible repeat (first | refine blk_drewN ?_ _ | refine blk_drew ?_ | refine blk_alloc ?_ _)); exact BK116.out⟩, ⟨by repeat (first | (with_reducible first | exact HB.out | apply below_alloc | apply pw_below_drewN | apply below_drew1 | refine below_set ?_ GE115.out | refine below_set ?_ GE116.out) | exact HB.out)⟩⟩
    · rw [if_neg c7] at H
      have c7b0 : (a1.toList == ([114, 111] : List UInt8)) = false := beq_eq_false_iff_ne.mpr c7
      have c7b1 : (a1.toList != ([114, 111] : List UInt8)) = true := bne_iff_ne.mpr c7
      (first | rw [c7b0] | (simp only [i64_w, i32_w]; rw [c7b0]) | skip)
      have H' := Aside0.mk H
      clear H
      go_wp2
      go_meet
      case rel => exact ⟨_, ((a1.toList == ([114, 119] : List UInt8))), (by first | rfl | (simp; done) | (simp [*]; done)), H', ⟨by first | omega | exact Nat.le_refl _⟩, ⟨by (with_reducible repeat (first | refine blk_drewN ?_ _ | refine blk_drew ?_ | refine blk_alloc ?_ _)); exact BK115.out⟩, ⟨by (with_reducible repeat (first | refine blk_drewN ?_ _ | refine blk_drew ?_ | refine blk_alloc ?_ _)); exact BK116.out⟩, ⟨by repeat (first | (with_reducible first | exact HB.out | apply below_alloc | apply pw_below_drewN | apply below_drew1 | refine below_set ?_ GE115.out | refine below_set ?_ GE116.out) | exact HB.out)⟩⟩
  case rest =>
    clear HC4
    try clear c1
    try clear c2
    try clear p2
    try clear c7
    try clear c7b0
    try clear c7b1
    obtain ⟨kq, x14_3, rfl, HA, HJ3, BK115, BK116, HB⟩ := hcut
    cases kq with
    | zero => exact absurd HA.out (by simp [spec_shortMode.j0])
    | succ kj3 =>
      have H := HA.out
      clear HA
      simp only [spec_shortMode.j0] at H
      by_cases c8 : x14_3 = true
      · subst c8
        have H1 : ((spec_mapsIn.f kj3 l2 (⟨#[114, 111]⟩ : ByteArray)).bind fun t117 => (some (a0_0, a0_1, a0_2, a0_3, a0_4, (a1.toList == ([114, 111] : List UInt8)), a0_6, a0_7, (⟨#[114, 111]⟩ : ByteArray), !t117))) = some (r1, r2, r3, r4, r5, r6, r7, r8, r9, r10) := by rw [if_pos rfl] at H; exact H
        clear H
        have H := H1
        clear H1
        replace H := Option.bind_eq_some_iff.mp H
        obtain ⟨t117, A90, H⟩ := H
        replace H : (some (a0_0, a0_1, a0_2, a0_3, a0_4, (a1.toList == ([114, 111] : List UInt8)), a0_6, a0_7, (⟨#[114, 111]⟩ : ByteArray), !t117)) = some (r1, r2, r3, r4, r5, r6, r7, r8, r9, r10) := H
        have A9 := Aside0.mk A90
        clear A90
        simp only [Option.some.injEq, Prod.mk.injEq] at H
        obtain ⟨rfl, rfl, rfl, rfl, rfl, rfl, rfl, rfl, rfl, rfl⟩ := H
        have hnb10 := NB115_116.out
        have hnc10 := NB116_115.out
        have hcz11_0 : wc.cell? ⟨gb115, 0, none⟩ = some (.string a0_0) := (blk_cell BK115.out 0).trans rfl
        have hcz11_1 : wc.cell? ⟨gb115, 1, none⟩ = some (.string a0_1) := (blk_cell BK115.out 1).trans rfl
        have hcz11_2 : wc.cell? ⟨gb115, 2, none⟩ = some (.string a0_2) := (blk_cell BK115.out 2).trans rfl
        have hcz11_3 : wc.cell? ⟨gb115, 3, none⟩ = some (.string a0_3) := (blk_cell BK115.out 3).trans rfl
        have hcz11_4 : wc.cell? ⟨gb115, 4, none⟩ = some (.string a0_4) := (blk_cell BK115.out 4).trans rfl
        have hcz11_5 : wc.cell? ⟨gb115, 5, none⟩ = some (.bool a0_5) := (blk_cell BK115.out 5).trans rfl
        have hcz11_6 : wc.cell? ⟨gb115, 6, none⟩ = some (.bool a0_6) := (blk_cell BK115.out 6).trans rfl
        have hcz11_7 : wc.cell? ⟨gb115, 7, none⟩ = some (.bool a0_7) := (blk_cell BK115.out 7).trans rfl
        have hfz11_0 := blk_frozen BK115.out 0
        have hfz11_1 := blk_frozen BK115.out 1
        have hfz11_2 := blk_frozen BK115.out 2
        have hfz11_3 := blk_frozen BK115.out 3
        have hfz11_4 := blk_frozen BK115.out 4
        have hfz11_5 := blk_frozen BK115.out 5
        have hfz11_6 := blk_frozen BK115.out 6
        have hfz11_7 := blk_frozen BK115.out 7
        try go_wp2
        have n0_ : Aside0 ((wc.setCell ⟨gb115, 5, none⟩ (.bool (a1.toList == ([114, 111] : List UInt8)))).heap[gb115]? = some (.cells #[.string a0_0, .string a0_1, .string a0_2, .string a0_3, .string a0_4, .bool (a1.toList == ([114, 111] : List UInt8)), .bool a0_6, .bool a0_7] 25 (0, 0))) := ⟨by (with_reducible repeat (first | refine blk_drewN ?_ _ | refine blk_drew ?_ | refine blk_alloc ?_ _)); refine blk_put (cs := #[.string a0_0, .string a0_1, .string a0_2, .string a0_3, .string a0_4, .bool a0_5, .bool a0_6, .bool a0_7]) ?_ 5 _ rfl; (with_reducible repeat (first | refine blk_drewN ?_ _ | refine blk_drew ?_ | refine blk_alloc ?_ _)); exact BK115.out⟩
        have n1_ : Aside0 ((wc.setCell ⟨gb115, 5, none⟩ (.bool (a1.toList == ([114, 111] : List UInt8)))).heap[gb116]? = some (.cells #[.string (⟨#[]⟩ : ByteArray), .string (⟨#[]⟩ : ByteArray), .string (⟨#[]⟩ : ByteArray), .string (⟨#[]⟩ : ByteArray), .string (⟨#[]⟩ : ByteArray), .bool false, .bool false, .bool false] 25 (0, 0))) := ⟨by (with_reducible repeat (first | refine blk_drewN ?_ _ | refine blk_drew ?_ | refine blk_alloc ?_ _)); refine blk_far ?_ NB116_115.out _; (with_reducible repeat (first | refine blk_drewN ?_ _ | refine blk_drew ?_ | refine blk_alloc ?_ _)); exact BK116.out⟩
        have n2_ : Aside0 (Below w.heap.size w (wc.setCell ⟨gb115, 5, none⟩ (.bool (a1.toList == ([114, 111] : List UInt8))))) := ⟨by repeat (first | (with_reducible first | exact HB.out | apply below_alloc | apply pw_below_drewN | apply below_drew1 | refine below_set ?_ GE115.out | refine below_set ?_ GE116.out) | exact HB.out)⟩
        (try clear BK115)
        (try clear BK116)
        (try clear HB)
        generalize (wc.setCell ⟨gb115, 5, none⟩ (.bool (a1.toList == ([114, 111] : List UInt8)))) = w12 at n0_ n1_ n2_ ⊢
        have BK115 := n0_
        have BK116 := n1_
        have HB := n2_
        clear n0_ n1_ n2_
        have n0_ := Aside0.mk (blk_drew BK115.out)
        have n1_ := Aside0.mk (blk_drew BK116.out)
        have n2_ := Aside0.mk (below_drew1 HB.out)
        clear BK115
        clear BK116
        clear HB
        have BK115 := n0_
        have BK116 := n1_
        have HB := n2_
        clear n0_ n1_ n2_
        refine start_ (n := 9) (S := fun w' => w'.cell? ⟨gb115, 0, none⟩ = some (.string a0_0) ∧ w'.cell? ⟨gb115, 1, none⟩ = some (.string a0_1) ∧ w'.cell? ⟨gb115, 2, none⟩ = some (.string a0_2) ∧ w'.cell? ⟨gb115, 3, none⟩ = some (.string a0_3) ∧ w'.cell? ⟨gb115, 4, none⟩ = some (.string a0_4) ∧ w'.cell? ⟨gb115, 5, none⟩ = some (.bool (a1.toList == ([114, 111] : List UInt8))) ∧ w'.cell? ⟨gb115, 6, none⟩ = some (.bool a0_6) ∧ w'.cell? ⟨gb115, 7, none⟩ = some (.bool a0_7)) (ds := []) #[false, false, false, false, false, false, false, false, false] (by kernel_rfl) rfl rfl ⟨(blk_cell BK115.out 0).trans rfl, (blk_cell BK115.out 1).trans rfl, (blk_cell BK115.out 2).trans rfl, (blk_cell BK115.out 3).trans rfl, (blk_cell BK115.out 4).trans rfl, (blk_cell BK115.out 5).trans rfl, (blk_cell BK115.out 6).trans rfl, (blk_cell BK115.out 7).trans rfl⟩ (fun hHeld => ?_); refine with_tabW spec_shortMode.tab28 spec_shortMode.bits28 (fun HT_ HW_ => ?_)
        generalize w12.drew = w13 at BK115 BK116 HB hHeld ⊢
        refine pure_ (i := 1) (N := some 53) (v := ?_) (a' := ?_) #[false, true, false, false, false, false, false, false, false] rfl rfl (any_of HT_.out (by kernel_rfl)) (fun _ _ _ h => h) (Or.inl ⟨by rfl, ?_⟩) ?_ ?_
        rotate_left
        · intro w'
          go_simp
          with_reducible rfl
        rotate_left
        · simp only [Act.put, List.setIfInBounds_toArray, List.set_cons_zero, List.set_cons_succ, i64_w, i32_w]
          rfl
        refine pure_ (i := 2) (N := some 54) (v := ?_) (a' := ?_) #[false, true, true, false, false, false, false, false, false] rfl rfl (any_of HT_.out (by kernel_rfl)) (fun _ _ _ h => h) (Or.inl ⟨by rfl, ?_⟩) ?_ ?_
        rotate_left
        · intro w'
          go_simp
          with_reducible rfl
        rotate_left
        · simp only [Act.put, List.setIfInBounds_toArray, List.set_cons_zero, List.set_cons_succ, i64_w, i32_w]
          rfl
        refine pure_ (i := 3) (N := some 55) (v := ?_) (a' := ?_) #[false, true, true, true, false, false, false, false, false] rfl rfl (any_of HT_.out (by kernel_rfl)) (fun _ _ _ h => h) (Or.inl ⟨by rfl, ?_⟩) ?_ ?_
        rotate_left
        · intro w'
          go_simp
          with_reducible rfl
        rotate_left
        · simp only [Act.put, List.setIfInBounds_toArray, List.set_cons_zero, List.set_cons_succ, i64_w, i32_w]
          rfl
        refine take_ (i := 0) (N := some 52) (v := ?_) (a' := ?_) #[true, true, true, true, false, false, false, false, false] rfl rfl (take_ofW HT_.out HW_.out (by kernel_rfl)) (fun _ _ _ h => h) (Or.inl ⟨by rfl, ?_⟩) hHeld ?_ ?_
        rotate_left
        · rintro w' ⟨s0, s1, s2, s3, s4, s5, s6, s7⟩
          go_simp
          with_reducible rfl
        rotate_left
        · simp only [Act.put, List.setIfInBounds_toArray, List.set_cons_zero, List.set_cons_succ, i64_w, i32_w]
          rfl
        refine one_ (i := 4) (N := some 56) #[true, true, true, true, true, false, false, false, false] rfl rfl (one_of HT_.out (by kernel_rfl)) (by decide) (fun K hK => ?_)
        refine goes_ Tryd.func19 (by kernel_rfl) rfl #[.slice A2 l2.length c2, .string (⟨#[114, 111]⟩ : ByteArray)] (by rfl) rfl rfl (by (try simp only [List.map_toArray, List.map_cons, List.map_nil]); first | done | rfl | (simp only [List.length_drop, List.length_take]; rfl)) ?_
        with_reducible refine (spec_mapsIn.calls kj3 _ _ l2 (⟨#[114, 111]⟩ : ByteArray) t117 _ ?side1 ?side2 A9.out).mono ?_
        (case side1 => repeat (first | exact (Kd.C_below HR2.out HB.out) | (with_reducible refine Kd.C_alloc ?_ _) | (with_reducible refine Kd.C_drewN ?_ _) | (with_reducible refine Kd.C_drew ?_)))
        (case side2 => exact HC2.out)
        rintro e w' ⟨rfl, ⟨nd, rfl⟩⟩
        refine ⟨_, rfl, ?_⟩
        refine hK.out _ _ ⟨(blk_cell BK115.out 0).trans rfl, (blk_cell BK115.out 1).trans rfl, (blk_cell BK115.out 2).trans rfl, (blk_cell BK115.out 3).trans rfl, (blk_cell BK115.out 4).trans rfl, (blk_cell BK115.out 5).trans rfl, (blk_cell BK115.out 6).trans rfl, (blk_cell BK115.out 7).trans rfl⟩ (fun hHeld => ?_)
        clear hK K
        refine norm_ (a' := ?_) ?_ ?_
        rotate_left
        · show Act.put _ (some 56) _ = _
          simp only [Act.put, List.setIfInBounds_toArray, List.set_cons_zero, List.set_cons_succ, i64_w, i32_w]
          rfl
        refine pure_ (i := 5) (N := some 57) (v := ?_) (a' := ?_) #[true, true, true, true, true, true, false, false, false] rfl rfl (any_of HT_.out (by kernel_rfl)) (fun _ _ _ h => h) (Or.inl ⟨by rfl, ?_⟩) ?_ ?_
        rotate_left
        · intro w'
          go_simp
          with_reducible rfl
        rotate_left
        · simp only [Act.put, List.setIfInBounds_toArray, List.set_cons_zero, List.set_cons_succ, i64_w, i32_w]
          rfl
        refine one_ (i := 6) (N := none) #[true, true, true, true, true, true, true, false, false] rfl rfl (one_of HT_.out (by kernel_rfl)) (by decide) (fun K hK => ?_)
        have hs14 : w13.cell? ⟨gb116, 0, none⟩ = some (.string (⟨#[]⟩ : ByteArray)) := (blk_cell BK116.out 0).trans rfl
        have hfs14 := blk_frozen BK116.out 0
        have hns14_0 := NB115_116.out
        have hms14_0 := NB116_115.out
        have hs15 : w13.cell? ⟨gb116, 1, none⟩ = some (.string (⟨#[]⟩ : ByteArray)) := (blk_cell BK116.out 1).trans rfl
        have hfs15 := blk_frozen BK116.out 1
        have hns15_0 := NB115_116.out
        have hms15_0 := NB116_115.out
        have hs16 : w13.cell? ⟨gb116, 2, none⟩ = some (.string (⟨#[]⟩ : ByteArray)) := (blk_cell BK116.out 2).trans rfl
        have hfs16 := blk_frozen BK116.out 2
        have hns16_0 := NB115_116.out
        have hms16_0 := NB116_115.out
        have hs17 : w13.cell? ⟨gb116, 3, none⟩ = some (.string (⟨#[]⟩ : ByteArray)) := (blk_cell BK116.out 3).trans rfl
        have hfs17 := blk_frozen BK116.out 3
        have hns17_0 := NB115_116.out
        have hms17_0 := NB116_115.out
        have hs18 : w13.cell? ⟨gb116, 4, none⟩ = some (.string (⟨#[]⟩ : ByteArray)) := (blk_cell BK116.out 4).trans rfl
        have hfs18 := blk_frozen BK116.out 4
        have hns18_0 := NB115_116.out
        have hms18_0 := NB116_115.out
        have hs19 : w13.cell? ⟨gb116, 5, none⟩ = some (.bool false) := (blk_cell BK116.out 5).trans rfl
        have hfs19 := blk_frozen BK116.out 5
        have hns19_0 := NB115_116.out
        have hms19_0 := NB116_115.out
        have hs20 : w13.cell? ⟨gb116, 6, none⟩ = some (.bool false) := (blk_cell BK116.out 6).trans rfl
        have hfs20 := blk_frozen BK116.out 6
        have hns20_0 := NB115_116.out
        have hms20_0 := NB116_115.out
        have hs21 : w13.cell? ⟨gb116, 7, none⟩ = some (.bool false) := (blk_cell BK116.out 7).trans rfl
        have hfs21 := blk_frozen BK116.out 7
        have hns21_0 := NB115_116.out
        have hms21_0 := NB116_115.out
        refine skip_ (w1 := ?_) (by rfl) rfl ?_ ?_
        rotate_left
        · go_simp
          rfl
        refine hK.out _ _ ⟨((cell_far (p := ⟨gb116, _, none⟩) NB115_116.out _).trans (((cell_far (p := ⟨gb116, _, none⟩) NB115_116.out _).trans (((cell_far (p := ⟨gb116, _, none⟩) NB115_116.out _).trans (((cell_far (p := ⟨gb116, _, none⟩) NB115_116.out _).trans (((cell_far (p := ⟨gb116, _, none⟩) NB115_116.out _).trans (((cell_far (p := ⟨gb116, _, none⟩) NB115_116.out _).trans (((cell_far (p := ⟨gb116, _, none⟩) NB115_116.out _).trans (((cell_far (p := ⟨gb116, _, none⟩) NB115_116.out _).trans (hHeld.1)))))))))))))))), ((cell_far (p := ⟨gb116, _, none⟩) NB115_116.out _).trans (((cell_far (p := ⟨gb116, _, none⟩) NB115_116.out _).trans (((cell_far (p := ⟨gb116, _, none⟩) NB115_116.out _).trans (((cell_far (p := ⟨gb116, _, none⟩) NB115_116.out _).trans (((cell_far (p := ⟨gb116, _, none⟩) NB115_116.out _).trans (((cell_far (p := ⟨gb116, _, none⟩) NB115_116.out _).trans (((cell_far (p := ⟨gb116, _, none⟩) NB115_116.out _).trans (((cell_far (p := ⟨gb116, _, none⟩) NB115_116.out _).trans (hHeld.2.1)))))))))))))))), ((cell_far (p := ⟨gb116, _, none⟩) NB115_116.out _).trans (((cell_far (p := ⟨gb116, _, none⟩) NB115_116.out _).trans (((cell_far (p := ⟨gb116, _, none⟩) NB115_116.out _).trans (((cell_far (p := ⟨gb116, _, none⟩) NB115_116.out _).trans (((cell_far (p := ⟨gb116, _, none⟩) NB115_116.out _).trans (((cell_far (p := ⟨gb116, _, none⟩) NB115_116.out _).trans (((cell_far (p := ⟨gb116, _, none⟩) NB115_116.out _).trans (((cell_far (p := ⟨gb116, _, none⟩) NB115_116.out _).trans (hHeld.2.2.1)))))))))))))))), ((cell_far (p := ⟨gb116, _, none⟩) NB115_116.out _).trans (((cell_far (p := ⟨gb116, _, none⟩) NB115_116.out _).trans (((cell_far (p := ⟨gb116, _, none⟩) NB115_116.out _).trans (((cell_far (p := ⟨gb116, _, none⟩) NB115_116.out _).trans (((cell_far (p := ⟨gb116, _, none⟩) NB115_116.out _).trans (((cell_far (p := ⟨gb116, _, none⟩) NB115_116.out _).trans (((cell_far (p := ⟨gb116, _, none⟩) NB115_116.out _).trans (((cell_far (p := ⟨gb116, _, none⟩) NB115_116.out _).trans (hHeld.2.2.2.1)))))))))))))))), ((cell_far (p := ⟨gb116, _, none⟩) NB115_116.out _).trans (((cell_far (p := ⟨gb116, _, none⟩) NB115_116.out _).trans (((cell_far (p := ⟨gb116, _, none⟩) NB115_116.out _).trans (((cell_far (p := ⟨gb116, _, none⟩) NB115_116.out _).trans (((cell_far (p := ⟨gb116, _, none⟩) NB115_116.out _).trans (((cell_far (p := ⟨gb116, _, none⟩) NB115_116.out _).trans (((cell_far (p := ⟨gb116, _, none⟩) NB115_116.out _).trans (((cell_far (p := ⟨gb116, _, none⟩) NB115_116.out _).trans (hHeld.2.2.2.2.1)))))))))))))))), ((cell_far (p := ⟨gb116, _, none⟩) NB115_116.out _).trans (((cell_far (p := ⟨gb116, _, none⟩) NB115_116.out _).trans (((cell_far (p := ⟨gb116, _, none⟩) NB115_116.out _).trans (((cell_far (p := ⟨gb116, _, none⟩) NB115_116.out _).trans (((cell_far (p := ⟨gb116, _, none⟩) NB115_116.out _).trans (((cell_far (p := ⟨gb116, _, none⟩) NB115_116.out _).trans (((cell_far (p := ⟨gb116, _, none⟩) NB115_116.out _).trans (((cell_far (p := ⟨gb116, _, none⟩) NB115_116.out _).trans (hHeld.2.2.2.2.2.1)))))))))))))))), ((cell_far (p := ⟨gb116, _, none⟩) NB115_116.out _).trans (((cell_far (p := ⟨gb116, _, none⟩) NB115_116.out _).trans (((cell_far (p := ⟨gb116, _, none⟩) NB115_116.out _).trans (((cell_far (p := ⟨gb116, _, none⟩) NB115_116.out _).trans (((cell_far (p := ⟨gb116, _, none⟩) NB115_116.out _).trans (((cell_far (p := ⟨gb116, _, none⟩) NB115_116.out _).trans (((cell_far (p := ⟨gb116, _, none⟩) NB115_116.out _).trans (((cell_far (p := ⟨gb116, _, none⟩) NB115_116.out _).trans (hHeld.2.2.2.2.2.2.1)))))))))))))))), ((cell_far (p := ⟨gb116, _, none⟩) NB115_116.out _).trans (((cell_far (p := ⟨gb116, _, none⟩) NB115_116.out _).trans (((cell_far (p := ⟨gb116, _, none⟩) NB115_116.out _).trans (((cell_far (p := ⟨gb116, _, none⟩) NB115_116.out _).trans (((cell_far (p := ⟨gb116, _, none⟩) NB115_116.out _).trans (((cell_far (p := ⟨gb116, _, none⟩) NB115_116.out _).trans (((cell_far (p := ⟨gb116, _, none⟩) NB115_116.out _).trans (((cell_far (p := ⟨gb116, _, none⟩) NB115_116.out _).trans (hHeld.2.2.2.2.2.2.2))))))))))))))))⟩ (fun hHeld => ?_)
        clear hK K
        refine pure_ (i := 7) (N := some 7) (v := ?_) (a' := ?_) #[true, true, true, true, true, true, true, true, false] rfl rfl (any_of HT_.out (by kernel_rfl)) (fun _ _ _ h => h) (Or.inl ⟨by rfl, ?_⟩) ?_ ?_
        rotate_left
        · intro w'
          go_simp
          with_reducible rfl
        rotate_left
        · simp only [Act.put, List.setIfInBounds_toArray, List.set_cons_zero, List.set_cons_succ, i64_w, i32_w]
          rfl
        refine pure_ (i := 8) (N := some 8) (v := ?_) (a' := ?_) #[true, true, true, true, true, true, true, true, true] rfl rfl (any_of HT_.out (by kernel_rfl)) (fun _ _ _ h => h) (Or.inl ⟨by rfl, ?_⟩) ?_ ?_
        rotate_left
        · intro w'
          go_simp
          with_reducible rfl
        rotate_left
        · simp only [Act.put, List.setIfInBounds_toArray, List.set_cons_zero, List.set_cons_succ, i64_w, i32_w]
          rfl
        refine done_ (done_of HT_.out (by kernel_rfl)) ?_
        try go_wp2
        refine bodyPost_ret (results_ctt rfl _ _ gb116 25 #[.string a0_0, .string a0_1, .string a0_2, .string a0_3, .string a0_4, .bool (a1.toList == ([114, 111] : List UInt8)), .bool a0_6, .bool a0_7] (0, 0) _ rfl (by (with_reducible repeat (first | refine blk_drewN ?_ _ | refine blk_drew ?_ | refine blk_alloc ?_ _)); refine blk_put (cs := #[.string a0_0, .string a0_1, .string a0_2, .string a0_3, .string a0_4, .bool (a1.toList == ([114, 111] : List UInt8)), .bool a0_6, .bool false]) ?_ 7 _ rfl; (with_reducible repeat (first | refine blk_drewN ?_ _ | refine blk_drew ?_ | refine blk_alloc ?_ _)); refine blk_put (cs := #[.string a0_0, .string a0_1, .string a0_2, .string a0_3, .string a0_4, .bool (a1.toList == ([114, 111] : List UInt8)), .bool false, .bool false]) ?_ 6 _ rfl; (with_reducible repeat (first | refine blk_drewN ?_ _ | refine blk_drew ?_ | refine blk_alloc ?_ _)); refine blk_put (cs := #[.string a0_0, .string a0_1, .string a0_2, .string a0_3, .string a0_4, .bool false, .bool false, .bool false]) ?_ 5 _ rfl; (with_reducible repeat (first | refine blk_drewN ?_ _ | refine blk_drew ?_ | refine blk_alloc ?_ _)); refine blk_put (cs := #[.string a0_0, .string a0_1, .string a0_2, .string a0_3, .string (⟨#[]⟩ : ByteArray), .bool false, .bool false, .bool false]) ?_ 4 _ rfl; (with_reducible repeat (first | refine blk_drewN ?_ _ | refine blk_drew ?_ | refine blk_alloc ?_ _)); refine blk_put (cs := #[.string a0_0, .string a0_1, .string a0_2, .string (⟨#[]⟩ : ByteArray), .string (⟨#[]⟩ : ByteArray), .bool false, .bool false, .bool false]) ?_ 3 _ rfl; (with_reducible repeat (first | refine blk_drewN ?_ _ | refine blk_drew ?_ | refine blk_alloc ?_ _)); refine blk_put (cs := #[.string a0_0, .string a0_1, .string (⟨#[]⟩ : ByteArray), .string (⟨#[]⟩ : ByteArray), .string (⟨#[]⟩ : ByteArray), .bool false, .bool false, .bool false]) ?_ 2 _ rfl; (with_reducible repeat (first | refine blk_drewN ?_ _ | refine blk_drew ?_ | refine blk_alloc ?_ _)); refine blk_put (cs := #[.string a0_0, .string (⟨#[]⟩ : ByteArray), .string (⟨#[]⟩ : ByteArray), .string (⟨#[]⟩ : ByteArray), .string (⟨#[]⟩ : ByteArray), .bool false, .bool false, .bool false]) ?_ 1 _ rfl; (with_reducible repeat (first | refine blk_drewN ?_ _ | refine blk_drew ?_ | refine blk_alloc ?_ _)); refine blk_put (cs := #[.string (⟨#[]⟩ : ByteArray), .string (⟨#[]⟩ : ByteArray), .string (⟨#[]⟩ : ByteArray), .string (⟨#[]⟩ : ByteArray), .string (⟨#[]⟩ : ByteArray), .bool false, .bool false, .bool false]) ?_ 0 _ rfl; (with_reducible repeat (first | refine blk_drewN ?_ _ | refine blk_drew ?_ | refine blk_alloc ?_ _)); exact BK116.out) Tryd.underlying25 rfl (by kernel_rfl)) rfl ?_
        exact ⟨by first | rfl | (simp [errW_none, errW_some] <;> rfl) | (simp [*, errW_none, errW_some] <;> rfl), by repeat (first | (with_reducible first | exact HB.out | apply below_alloc | apply pw_below_drewN | apply below_drew1 | refine below_set ?_ GE115.out | refine below_set ?_ GE116.out) | exact HB.out)⟩
      · replace c8 := Bool.eq_false_iff.mpr c8
        subst c8
        have H1 : (if a1.toList = ([110, 111, 99, 111, 112, 121] : List UInt8) then (if a0_0.toList = ([118, 111, 108, 117, 109, 101] : List UInt8) then ((spec_mapsIn.f kj3 l2 a1).bind fun t118 => (some (a0_0, a0_1, a0_2, a0_3, a0_4, a0_5, a0_6, true, a1, !t118))) else (some (a0_0, a0_1, a0_2, a0_3, a0_4, a0_5, a0_6, true, a1, false))) else (if a1.toList = ([122] : List UInt8) then (spec_shortMode.j1 kj3 a1 l2 a1 a1 (a1.toList == ([122] : List UInt8)) a0_0 a0_1 a0_2 a0_3 a0_4 a0_5 a0_6 a0_7) else (spec_shortMode.j1 kj3 a1 l2 a1 a1 (a1.toList == ([90] : List UInt8)) a0_0 a0_1 a0_2 a0_3 a0_4 a0_5 a0_6 a0_7))) = some (r1, r2, r3, r4, r5, r6, r7, r8, r9, r10) := by rw [if_neg (show ¬ (false = true) by decide)] at H; exact H
        clear H
        have H := H1
        clear H1
        by_cases c22 : a1.toList = ([110, 111, 99, 111, 112, 121] : List UInt8)
        · rw [if_pos c22] at H
          have c22b0 : (a1.toList == ([110, 111, 99, 111, 112, 121] : List UInt8)) = true := beq_iff_eq.mpr c22
          have c22b1 : (a1.toList != ([110, 111, 99, 111, 112, 121] : List UInt8)) = false := bne_eq_false_iff_eq.mpr c22
          clear c22
          by_cases c23 : a0_0.toList = ([118, 111, 108, 117, 109, 101] : List UInt8)
          · rw [if_pos c23] at H
            have c23b0 : (a0_0.toList == ([118, 111, 108, 117, 109, 101] : List UInt8)) = true := beq_iff_eq.mpr c23
            have c23b1 : (a0_0.toList != ([118, 111, 108, 117, 109, 101] : List UInt8)) = false := bne_eq_false_iff_eq.mpr c23
            clear c23
            replace H := Option.bind_eq_some_iff.mp H
            obtain ⟨t118, A240, H⟩ := H
            replace H : (some (a0_0, a0_1, a0_2, a0_3, a0_4, a0_5, a0_6, true, a1, !t118)) = some (r1, r2, r3, r4, r5, r6, r7, r8, r9, r10) := H
            have A24 := Aside0.mk A240
            clear A240
            simp only [Option.some.injEq, Prod.mk.injEq] at H
            obtain ⟨rfl, rfl, rfl, rfl, rfl, rfl, rfl, rfl, rfl, rfl⟩ := H
            have hnb25 := NB115_116.out
            have hnc25 := NB116_115.out
            have hcz26_0 : wc.cell? ⟨gb115, 0, none⟩ = some (.string a0_0) := (blk_cell BK115.out 0).trans rfl
            have hcz26_1 : wc.cell? ⟨gb115, 1, none⟩ = some (.string a0_1) := (blk_cell BK115.out 1).trans rfl
            have hcz26_2 : wc.cell? ⟨gb115, 2, none⟩ = some (.string a0_2) := (blk_cell BK115.out 2).trans rfl
            have hcz26_3 : wc.cell? ⟨gb115, 3, none⟩ = some (.string a0_3) := (blk_cell BK115.out 3).trans rfl
            have hcz26_4 : wc.cell? ⟨gb115, 4, none⟩ = some (.string a0_4) := (blk_cell BK115.out 4).trans rfl
            have hcz26_5 : wc.cell? ⟨gb115, 5, none⟩ = some (.bool a0_5) := (blk_cell BK115.out 5).trans rfl
            have hcz26_6 : wc.cell? ⟨gb115, 6, none⟩ = some (.bool a0_6) := (blk_cell BK115.out 6).trans rfl
            have hcz26_7 : wc.cell? ⟨gb115, 7, none⟩ = some (.bool a0_7) := (blk_cell BK115.out 7).trans rfl
            have hfz26_0 := blk_frozen BK115.out 0
            have hfz26_1 := blk_frozen BK115.out 1
            have hfz26_2 := blk_frozen BK115.out 2
            have hfz26_3 := blk_frozen BK115.out 3
            have hfz26_4 := blk_frozen BK115.out 4
            have hfz26_5 := blk_frozen BK115.out 5
            have hfz26_6 := blk_frozen BK115.out 6
            have hfz26_7 := blk_frozen BK115.out 7
            try go_wp2
            have n0_ : Aside0 ((wc.setCell ⟨gb115, 7, none⟩ (.bool true)).heap[gb115]? = some (.cells #[.string a0_0, .string a0_1, .string a0_2, .string a0_3, .string a0_4, .bool a0_5, .bool a0_6, .bool true] 25 (0, 0))) := ⟨by (with_reducible repeat (first | refine blk_drewN ?_ _ | refine blk_drew ?_ | refine blk_alloc ?_ _)); refine blk_put (cs := #[.string a0_0, .string a0_1, .string a0_2, .string a0_3, .string a0_4, .bool a0_5, .bool a0_6, .bool a0_7]) ?_ 7 _ rfl; (with_reducible repeat (first | refine blk_drewN ?_ _ | refine blk_drew ?_ | refine blk_alloc ?_ _)); exact BK115.out⟩
            have n1_ : Aside0 ((wc.setCell ⟨gb115, 7, none⟩ (.bool true)).heap[gb116]? = some (.cells #[.string (⟨#[]⟩ : ByteArray), .string (⟨#[]⟩ : ByteArray), .string (⟨#[]⟩ : ByteArray), .string (⟨#[]⟩ : ByteArray), .string (⟨#[]⟩ : ByteArray), .bool false, .bool false, .bool false] 25 (0, 0))) := ⟨by (with_reducible repeat (first | refine blk_drewN ?_ _ | refine blk_drew ?_ | refine blk_alloc ?_ _)); refine blk_far ?_ NB116_115.out _; (with_reducible repeat (first | refine blk_drewN ?_ _ | refine blk_drew ?_ | refine blk_alloc ?_ _)); exact BK116.out⟩
            have n2_ : Aside0 (Below w.heap.size w (wc.setCell ⟨gb115, 7, none⟩ (.bool true))) := ⟨by repeat (first | (with_reducible first | exact HB.out | apply below_alloc | apply pw_below_drewN | apply below_drew1 | refine below_set ?_ GE115.out | refine below_set ?_ GE116.out) | exact HB.out)⟩
            (try clear BK115)
            (try clear BK116)
            (try clear HB)
            generalize (wc.setCell ⟨gb115, 7, none⟩ (.bool true)) = w27 at n0_ n1_ n2_ ⊢
            have BK115 := n0_
            have BK116 := n1_
            have HB := n2_
            clear n0_ n1_ n2_
            have n0_ := Aside0.mk (blk_drew BK115.out)
            have n1_ := Aside0.mk (blk_drew BK116.out)
            have n2_ := Aside0.mk (below_drew1 HB.out)
            clear BK115
            clear BK116
            clear HB
            have BK115 := n0_
            have BK116 := n1_
            have HB := n2_
            clear n0_ n1_ n2_
            refine start_ (n := 9) (S := fun w' => w'.cell? ⟨gb115, 0, none⟩ = some (.string a0_0) ∧ w'.cell? ⟨gb115, 1, none⟩ = some (.string a0_1) ∧ w'.cell? ⟨gb115, 2, none⟩ = some (.string a0_2) ∧ w'.cell? ⟨gb115, 3, none⟩ = some (.string a0_3) ∧ w'.cell? ⟨gb115, 4, none⟩ = some (.string a0_4) ∧ w'.cell? ⟨gb115, 5, none⟩ = some (.bool a0_5) ∧ w'.cell? ⟨gb115, 6, none⟩ = some (.bool a0_6) ∧ w'.cell? ⟨gb115, 7, none⟩ = some (.bool true)) (ds := []) #[false, false, false, false, false, false, false, false, false] (by kernel_rfl) rfl rfl ⟨(blk_cell BK115.out 0).trans rfl, (blk_cell BK115.out 1).trans rfl, (blk_cell BK115.out 2).trans rfl, (blk_cell BK115.out 3).trans rfl, (blk_cell BK115.out 4).trans rfl, (blk_cell BK115.out 5).trans rfl, (blk_cell BK115.out 6).trans rfl, (blk_cell BK115.out 7).trans rfl⟩ (fun hHeld => ?_); refine with_tabW spec_shortMode.tab28 spec_shortMode.bits28 (fun HT_ HW_ => ?_)
            generalize w27.drew = w28 at BK115 BK116 HB hHeld ⊢
            refine pure_ (i := 1) (N := some 53) (v := ?_) (a' := ?_) #[false, true, false, false, false, false, false, false, false] rfl rfl (any_of HT_.out (by kernel_rfl)) (fun _ _ _ h => h) (Or.inl ⟨by rfl, ?_⟩) ?_ ?_
            rotate_left
            · intro w'
              go_simp
              with_reducible rfl
            rotate_left
            · simp only [Act.put, List.setIfInBounds_toArray, List.set_cons_zero, List.set_cons_succ, i64_w, i32_w]
              rfl
            refine pure_ (i := 2) (N := some 54) (v := ?_) (a' := ?_) #[false, true, true, false, false, false, false, false, false] rfl rfl (any_of HT_.out (by kernel_rfl)) (fun _ _ _ h => h) (Or.inl ⟨by rfl, ?_⟩) ?_ ?_
            rotate_left
            · intro w'
              go_simp
              with_reducible rfl
            rotate_left
            · simp only [Act.put, List.setIfInBounds_toArray, List.set_cons_zero, List.set_cons_succ, i64_w, i32_w]
              rfl
            refine pure_ (i := 3) (N := some 55) (v := ?_) (a' := ?_) #[false, true, true, true, false, false, false, false, false] rfl rfl (any_of HT_.out (by kernel_rfl)) (fun _ _ _ h => h) (Or.inl ⟨by rfl, ?_⟩) ?_ ?_
            rotate_left
            · intro w'
              go_simp
              with_reducible rfl
            rotate_left
            · simp only [Act.put, List.setIfInBounds_toArray, List.set_cons_zero, List.set_cons_succ, i64_w, i32_w]
              rfl
            refine take_ (i := 0) (N := some 52) (v := ?_) (a' := ?_) #[true, true, true, true, false, false, false, false, false] rfl rfl (take_ofW HT_.out HW_.out (by kernel_rfl)) (fun _ _ _ h => h) (Or.inl ⟨by rfl, ?_⟩) hHeld ?_ ?_
            rotate_left
            · rintro w' ⟨s0, s1, s2, s3, s4, s5, s6, s7⟩
              go_simp
              with_reducible rfl
            rotate_left
            · simp only [Act.put, List.setIfInBounds_toArray, List.set_cons_zero, List.set_cons_succ, i64_w, i32_w]
              rfl
            refine one_ (i := 4) (N := some 56) #[true, true, true, true, true, false, false, false, false] rfl rfl (one_of HT_.out (by kernel_rfl)) (by decide) (fun K hK => ?_)
            refine goes_ Tryd.func19 (by kernel_rfl) rfl #[.slice A2 l2.length c2, .string a1] (by rfl) rfl rfl (by (try simp only [List.map_toArray, List.map_cons, List.map_nil]); first | done | rfl | (simp only [List.length_drop, List.length_take]; rfl)) ?_
            with_reducible refine (spec_mapsIn.calls kj3 _ _ l2 a1 t118 _ ?side1 ?side2 A24.out).mono ?_
            (case side1 => repeat (first | exact (Kd.C_below HR2.out HB.out) | (with_reducible refine Kd.C_alloc ?_ _) | (with_reducible refine Kd.C_drewN ?_ _) | (with_reducible refine Kd.C_drew ?_)))
            (case side2 => exact HC2.out)
            rintro e w' ⟨rfl, ⟨nd, rfl⟩⟩
            refine ⟨_, rfl, ?_⟩
            refine hK.out _ _ ⟨(blk_cell BK115.out 0).trans rfl, (blk_cell BK115.out 1).trans rfl, (blk_cell BK115.out 2).trans rfl, (blk_cell BK115.out 3).trans rfl, (blk_cell BK115.out 4).trans rfl, (blk_cell BK115.out 5).trans rfl, (blk_cell BK115.out 6).trans rfl, (blk_cell BK115.out 7).trans rfl⟩ (fun hHeld => ?_)
            clear hK K
            refine norm_ (a' := ?_) ?_ ?_
            rotate_left
            · show Act.put _ (some 56) _ = _
              simp only [Act.put, List.setIfInBounds_toArray, List.set_cons_zero, List.set_cons_succ, i64_w, i32_w]
              rfl
            refine pure_ (i := 5) (N := some 57) (v := ?_) (a' := ?_) #[true, true, true, true, true, true, false, false, false] rfl rfl (any_of HT_.out (by kernel_rfl)) (fun _ _ _ h => h) (Or.inl ⟨by rfl, ?_⟩) ?_ ?_
            rotate_left
            · intro w'
              go_simp
              with_reducible rfl
            rotate_left
            · simp only [Act.put, List.setIfInBounds_toArray, List.set_cons_zero, List.set_cons_succ, i64_w, i32_w]
              rfl
            refine one_ (i := 6) (N := none) #[true, true, true, true, true, true, true, false, false] rfl rfl (one_of HT_.out (by kernel_rfl)) (by decide) (fun K hK => ?_)
            have hs29 : w28.cell? ⟨gb116, 0, none⟩ = some (.string (⟨#[]⟩ : ByteArray)) := (blk_cell BK116.out 0).trans rfl
            have hfs29 := blk_frozen BK116.out 0
            have hns29_0 := NB115_116.out
            have hms29_0 := NB116_115.out
            have hs30 : w28.cell? ⟨gb116, 1, none⟩ = some (.string (⟨#[]⟩ : ByteArray)) := (blk_cell BK116.out 1).trans rfl
            have hfs30 := blk_frozen BK116.out 1
            have hns30_0 := NB115_116.out
            have hms30_0 := NB116_115.out
            have hs31 : w28.cell? ⟨gb116, 2, none⟩ = some (.string (⟨#[]⟩ : ByteArray)) := (blk_cell BK116.out 2).trans rfl
            have hfs31 := blk_frozen BK116.out 2
            have hns31_0 := NB115_116.out
            have hms31_0 := NB116_115.out
            have hs32 : w28.cell? ⟨gb116, 3, none⟩ = some (.string (⟨#[]⟩ : ByteArray)) := (blk_cell BK116.out 3).trans rfl
            have hfs32 := blk_frozen BK116.out 3
            have hns32_0 := NB115_116.out
            have hms32_0 := NB116_115.out
            have hs33 : w28.cell? ⟨gb116, 4, none⟩ = some (.string (⟨#[]⟩ : ByteArray)) := (blk_cell BK116.out 4).trans rfl
            have hfs33 := blk_frozen BK116.out 4
            have hns33_0 := NB115_116.out
            have hms33_0 := NB116_115.out
            have hs34 : w28.cell? ⟨gb116, 5, none⟩ = some (.bool false) := (blk_cell BK116.out 5).trans rfl
            have hfs34 := blk_frozen BK116.out 5
            have hns34_0 := NB115_116.out
            have hms34_0 := NB116_115.out
            have hs35 : w28.cell? ⟨gb116, 6, none⟩ = some (.bool false) := (blk_cell BK116.out 6).trans rfl
            have hfs35 := blk_frozen BK116.out 6
            have hns35_0 := NB115_116.out
            have hms35_0 := NB116_115.out
            have hs36 : w28.cell? ⟨gb116, 7, none⟩ = some (.bool false) := (blk_cell BK116.out 7).trans rfl
            have hfs36 := blk_frozen BK116.out 7
            have hns36_0 := NB115_116.out
            have hms36_0 := NB116_115.out
            refine skip_ (w1 := ?_) (by rfl) rfl ?_ ?_
            rotate_left
            · go_simp
              rfl
            refine hK.out _ _ ⟨((cell_far (p := ⟨gb116, _, none⟩) NB115_116.out _).trans (((cell_far (p := ⟨gb116, _, none⟩) NB115_116.out _).trans (((cell_far (p := ⟨gb116, _, none⟩) NB115_116.out _).trans (((cell_far (p := ⟨gb116, _, none⟩) NB115_116.out _).trans (((cell_far (p := ⟨gb116, _, none⟩) NB115_116.out _).trans (((cell_far (p := ⟨gb116, _, none⟩) NB115_116.out _).trans (((cell_far (p := ⟨gb116, _, none⟩) NB115_116.out _).trans (((cell_far (p := ⟨gb116, _, none⟩) NB115_116.out _).trans (hHeld.1)))))))))))))))), ((cell_far (p := ⟨gb116, _, none⟩) NB115_116.out _).trans (((cell_far (p := ⟨gb116, _, none⟩) NB115_116.out _).trans (((cell_far (p := ⟨gb116, _, none⟩) NB115_116.out _).trans (((cell_far (p := ⟨gb116, _, none⟩) NB115_116.out _).trans (((cell_far (p := ⟨gb116, _, none⟩) NB115_116.out _).trans (((cell_far (p := ⟨gb116, _, none⟩) NB115_116.out _).trans (((cell_far (p := ⟨gb116, _, none⟩) NB115_116.out _).trans (((cell_far (p := ⟨gb116, _, none⟩) NB115_116.out _).trans (hHeld.2.1)))))))))))))))), ((cell_far (p := ⟨gb116, _, none⟩) NB115_116.out _).trans (((cell_far (p := ⟨gb116, _, none⟩) NB115_116.out _).trans (((cell_far (p := ⟨gb116, _, none⟩) NB115_116.out _).trans (((cell_far (p := ⟨gb116, _, none⟩) NB115_116.out _).trans (((cell_far (p := ⟨gb116, _, none⟩) NB115_116.out _).trans (((cell_far (p := ⟨gb116, _, none⟩) NB115_116.out _).trans (((cell_far (p := ⟨gb116, _, none⟩) NB115_116.out _).trans (((cell_far (p := ⟨gb116, _, none⟩) NB115_116.out _).trans (hHeld.2.2.1)))))))))))))))), ((cell_far (p := ⟨gb116, _, none⟩) NB115_116.out _).trans (((cell_far (p := ⟨gb116, _, none⟩) NB115_116.out _).trans (((cell_far (p := ⟨gb116, _, none⟩) NB115_116.out _).trans (((cell_far (p := ⟨gb116, _, none⟩) NB115_116.out _).trans (((cell_far (p := ⟨gb116, _, none⟩) NB115_116.out _).trans (((cell_far (p := ⟨gb116, _, none⟩) NB115_116.out _).trans (((cell_far (p := ⟨gb116, _, none⟩) NB115_116.out _).trans (((cell_far (p := ⟨gb116, _, none⟩) NB115_116.out _).trans (hHeld.2.2.2.1)))))))))))))))), ((cell_far (p := ⟨gb116, _, none⟩) NB115_116.out _).trans (((cell_far (p := ⟨gb116, _, none⟩) NB115_116.out _).trans (((cell_far (p := ⟨gb116, _, none⟩) NB115_116.out _).trans (((cell_far (p := ⟨gb116, _, none⟩) NB115_116.out _).trans (((cell_far (p := ⟨gb116, _, none⟩) NB115_116.out _).trans (((cell_far (p := ⟨gb116, _, none⟩) NB115_116.out _).trans (((cell_far (p := ⟨gb116, _, none⟩) NB115_116.out _).trans (((cell_far (p := ⟨gb116, _, none⟩) NB115_116.out _).trans (hHeld.2.2.2.2.1)))))))))))))))), ((cell_far (p := ⟨gb116, _, none⟩) NB115_116.out _).trans (((cell_far (p := ⟨gb116, _, none⟩) NB115_116.out _).trans (((cell_far (p := ⟨gb116, _, none⟩) NB115_116.out _).trans (((cell_far (p := ⟨gb116, _, none⟩) NB115_116.out _).trans (((cell_far (p := ⟨gb116, _, none⟩) NB115_116.out _).trans (((cell_far (p := ⟨gb116, _, none⟩) NB115_116.out _).trans (((cell_far (p := ⟨gb116, _, none⟩) NB115_116.out _).trans (((cell_far (p := ⟨gb116, _, none⟩) NB115_116.out _).trans (hHeld.2.2.2.2.2.1)))))))))))))))), ((cell_far (p := ⟨gb116, _, none⟩) NB115_116.out _).trans (((cell_far (p := ⟨gb116, _, none⟩) NB115_116.out _).trans (((cell_far (p := ⟨gb116, _, none⟩) NB115_116.out _).trans (((cell_far (p := ⟨gb116, _, none⟩) NB115_116.out _).trans (((cell_far (p := ⟨gb116, _, none⟩) NB115_116.out _).trans (((cell_far (p := ⟨gb116, _, none⟩) NB115_116.out _).trans (((cell_far (p := ⟨gb116, _, none⟩) NB115_116.out _).trans (((cell_far (p := ⟨gb116, _, none⟩) NB115_116.out _).trans (hHeld.2.2.2.2.2.2.1)))))))))))))))), ((cell_far (p := ⟨gb116, _, none⟩) NB115_116.out _).trans (((cell_far (p := ⟨gb116, _, none⟩) NB115_116.out _).trans (((cell_far (p := ⟨gb116, _, none⟩) NB115_116.out _).trans (((cell_far (p := ⟨gb116, _, none⟩) NB115_116.out _).trans (((cell_far (p := ⟨gb116, _, none⟩) NB115_116.out _).trans (((cell_far (p := ⟨gb116, _, none⟩) NB115_116.out _).trans (((cell_far (p := ⟨gb116, _, none⟩) NB115_116.out _).trans (((cell_far (p := ⟨gb116, _, none⟩) NB115_116.out _).trans (hHeld.2.2.2.2.2.2.2))))))))))))))))⟩ (fun hHeld => ?_)
            clear hK K
            refine pure_ (i := 7) (N := some 7) (v := ?_) (a' := ?_) #[true, true, true, true, true, true, true, true, false] rfl rfl (any_of HT_.out (by kernel_rfl)) (fun _ _ _ h => h) (Or.inl ⟨by rfl, ?_⟩) ?_ ?_
            rotate_left
            · intro w'
              go_simp
              with_reducible rfl
            rotate_left
            · simp only [Act.put, List.setIfInBounds_toArray, List.set_cons_zero, List.set_cons_succ, i64_w, i32_w]
              rfl
            refine pure_ (i := 8) (N := some 8) (v := ?_) (a' := ?_) #[true, true, true, true, true, true, true, true, true] rfl rfl (any_of HT_.out (by kernel_rfl)) (fun _ _ _ h => h) (Or.inl ⟨by rfl, ?_⟩) ?_ ?_
            rotate_left
            · intro w'
              go_simp
              with_reducible rfl
            rotate_left
            · simp only [Act.put, List.setIfInBounds_toArray, List.set_cons_zero, List.set_cons_succ, i64_w, i32_w]
              rfl
            refine done_ (done_of HT_.out (by kernel_rfl)) ?_
            try go_wp2
            refine bodyPost_ret (results_ctt rfl _ _ gb116 25 #[.string a0_0, .string a0_1, .string a0_2, .string a0_3, .string a0_4, .bool a0_5, .bool a0_6, .bool true] (0, 0) _ rfl (by (with_reducible repeat (first | refine blk_drewN ?_ _ | refine blk_drew ?_ | refine blk_alloc ?_ _)); refine blk_put (cs := #[.string a0_0, .string a0_1, .string a0_2, .string a0_3, .string a0_4, .bool a0_5, .bool a0_6, .bool false]) ?_ 7 _ rfl; (with_reducible repeat (first | refine blk_drewN ?_ _ | refine blk_drew ?_ | refine blk_alloc ?_ _)); refine blk_put (cs := #[.string a0_0, .string a0_1, .string a0_2, .string a0_3, .string a0_4, .bool a0_5, .bool false, .bool false]) ?_ 6 _ rfl; (with_reducible repeat (first | refine blk_drewN ?_ _ | refine blk_drew ?_ | refine blk_alloc ?_ _)); refine blk_put (cs := #[.string a0_0, .string a0_1, .string a0_2, .string a0_3, .string a0_4, .bool false, .bool false, .bool false]) ?_ 5 _ rfl; (with_reducible repeat (first | refine blk_drewN ?_ _ | refine blk_drew ?_ | refine blk_alloc ?_ _)); refine blk_put (cs := #[.string a0_0, .string a0_1, .string a0_2, .string a0_3, .string (⟨#[]⟩ : ByteArray), .bool false, .bool false, .bool false]) ?_ 4 _ rfl; (with_reducible repeat (first | refine blk_drewN ?_ _ | refine blk_drew ?_ | refine blk_alloc ?_ _)); refine blk_put (cs := #[.string a0_0, .string a0_1, .string a0_2, .string (⟨#[]⟩ : ByteArray), .string (⟨#[]⟩ : ByteArray), .bool false, .bool false, .bool false]) ?_ 3 _ rfl; (with_reducible repeat (first | refine blk_drewN ?_ _ | refine blk_drew ?_ | refine blk_alloc ?_ _)); refine blk_put (cs := #[.string a0_0, .string a0_1, .string (⟨#[]⟩ : ByteArray), .string (⟨#[]⟩ : ByteArray), .string (⟨#[]⟩ : ByteArray), .bool false, .bool false, .bool false]) ?_ 2 _ rfl; (with_reducible repeat (first | refine blk_drewN ?_ _ | refine blk_drew ?_ | refine blk_alloc ?_ _)); refine blk_put (cs := #[.string a0_0, .string (⟨#[]⟩ : ByteArray), .string (⟨#[]⟩ : ByteArray), .string (⟨#[]⟩ : ByteArray), .string (⟨#[]⟩ : ByteArray), .bool false, .bool false, .bool false]) ?_ 1 _ rfl; (with_reducible repeat (first | refine blk_drewN ?_ _ | refine blk_drew ?_ | refine blk_alloc ?_ _)); refine blk_put (cs := #[.string (⟨#[]⟩ : ByteArray), .string (⟨#[]⟩ : ByteArray), .string (⟨#[]⟩ : ByteArray), .string (⟨#[]⟩ : ByteArray), .string (⟨#[]⟩ : ByteArray), .bool false, .bool false, .bool false]) ?_ 0 _ rfl; (with_reducible repeat (first | refine blk_drewN ?_ _ | refine blk_drew ?_ | refine blk_alloc ?_ _)); exact BK116.out) Tryd.underlying25 rfl (by kernel_rfl)) rfl ?_
            exact ⟨by first | rfl | (simp [errW_none, errW_some] <;> rfl) | (simp [*, errW_none, errW_some] <;> rfl), by repeat (first | (with_reducible first | exact HB.out | apply below_alloc | apply pw_below_drewN | apply below_drew1 | refine below_set ?_ GE115.out | refine below_set ?_ GE116.out) | exact HB.out)⟩
          · rw [if_neg c23] at H
            have c23b0 : (a0_0.toList == ([118, 111, 108, 117, 109, 101] : List UInt8)) = false := beq_eq_false_iff_ne.mpr c23
            have c23b1 : (a0_0.toList != ([118, 111, 108, 117, 109, 101] : List UInt8)) = true := bne_iff_ne.mpr c23
            simp only [Option.some.injEq, Prod.mk.injEq] at H
            obtain ⟨rfl, rfl, rfl, rfl, rfl, rfl, rfl, rfl, rfl, rfl⟩ := H
            have hnb37 := NB115_116.out
            have hnc37 := NB116_115.out
            have hcz38_0 : wc.cell? ⟨gb115, 0, none⟩ = some (.string a0_0) := (blk_cell BK115.out 0).trans rfl
            have hcz38_1 : wc.cell? ⟨gb115, 1, none⟩ = some (.string a0_1) := (blk_cell BK115.out 1).trans rfl
            have hcz38_2 : wc.cell? ⟨gb115, 2, none⟩ = some (.string a0_2) := (blk_cell BK115.out 2).trans rfl
            have hcz38_3 : wc.cell? ⟨gb115, 3, none⟩ = some (.string a0_3) := (blk_cell BK115.out 3).trans rfl
            have hcz38_4 : wc.cell? ⟨gb115, 4, none⟩ = some (.string a0_4) := (blk_cell BK115.out 4).trans rfl
            have hcz38_5 : wc.cell? ⟨gb115, 5, none⟩ = some (.bool a0_5) := (blk_cell BK115.out 5).trans rfl
            have hcz38_6 : wc.cell? ⟨gb115, 6, none⟩ = some (.bool a0_6) := (blk_cell BK115.out 6).trans rfl
            have hcz38_7 : wc.cell? ⟨gb115, 7, none⟩ = some (.bool a0_7) := (blk_cell BK115.out 7).trans rfl
            have hfz38_0 := blk_frozen BK115.out 0
            have hfz38_1 := blk_frozen BK115.out 1
            have hfz38_2 := blk_frozen BK115.out 2
            have hfz38_3 := blk_frozen BK115.out 3
            have hfz38_4 := blk_frozen BK115.out 4
            have hfz38_5 := blk_frozen BK115.out 5
            have hfz38_6 := blk_frozen BK115.out 6
            have hfz38_7 := blk_frozen BK115.out 7
            have hcz39_0 : wc.cell? ⟨gb116, 0, none⟩ = some (.string (⟨#[]⟩ : ByteArray)) := (blk_cell BK116.out 0).trans rfl
            have hcz39_1 : wc.cell? ⟨gb116, 1, none⟩ = some (.string (⟨#[]⟩ : ByteArray)) := (blk_cell BK116.out 1).trans rfl
            have hcz39_2 : wc.cell? ⟨gb116, 2, none⟩ = some (.string (⟨#[]⟩ : ByteArray)) := (blk_cell BK116.out 2).trans rfl
            have hcz39_3 : wc.cell? ⟨gb116, 3, none⟩ = some (.string (⟨#[]⟩ : ByteArray)) := (blk_cell BK116.out 3).trans rfl
            have hcz39_4 : wc.cell? ⟨gb116, 4, none⟩ = some (.string (⟨#[]⟩ : ByteArray)) := (blk_cell BK116.out 4).trans rfl
            have hcz39_5 : wc.cell? ⟨gb116, 5, none⟩ = some (.bool false) := (blk_cell BK116.out 5).trans rfl
            have hcz39_6 : wc.cell? ⟨gb116, 6, none⟩ = some (.bool false) := (blk_cell BK116.out 6).trans rfl
            have hcz39_7 : wc.cell? ⟨gb116, 7, none⟩ = some (.bool false) := (blk_cell BK116.out 7).trans rfl
            have hfz39_0 := blk_frozen BK116.out 0
            have hfz39_1 := blk_frozen BK116.out 1
            have hfz39_2 := blk_frozen BK116.out 2
            have hfz39_3 := blk_frozen BK116.out 3
            have hfz39_4 := blk_frozen BK116.out 4
            have hfz39_5 := blk_frozen BK116.out 5
            have hfz39_6 := blk_frozen BK116.out 6
            have hfz39_7 := blk_frozen BK116.out 7
            go_wp2
            refine bodyPost_ret (results_ctt rfl _ _ gb116 25 #[.string a0_0, .string a0_1, .string a0_2, .string a0_3, .string a0_4, .bool a0_5, .bool a0_6, .bool true] (0, 0) _ rfl (by (with_reducible repeat (first | refine blk_drewN ?_ _ | refine blk_drew ?_ | refine blk_alloc ?_ _)); refine blk_put (cs := #[.string a0_0, .string a0_1, .string a0_2, .string a0_3, .string a0_4, .bool a0_5, .bool a0_6, .bool false]) ?_ 7 _ rfl; (with_reducible repeat (first | refine blk_drewN ?_ _ | refine blk_drew ?_ | refine blk_alloc ?_ _)); refine blk_put (cs := #[.string a0_0, .string a0_1, .string a0_2, .string a0_3, .string a0_4, .bool a0_5, .bool false, .bool false]) ?_ 6 _ rfl; (with_reducible repeat (first | refine blk_drewN ?_ _ | refine blk_drew ?_ | refine blk_alloc ?_ _)); refine blk_put (cs := #[.string a0_0, .string a0_1, .string a0_2, .string a0_3, .string a0_4, .bool false, .bool false, .bool false]) ?_ 5 _ rfl; (with_reducible repeat (first | refine blk_drewN ?_ _ | refine blk_drew ?_ | refine blk_alloc ?_ _)); refine blk_put (cs := #[.string a0_0, .string a0_1, .string a0_2, .string a0_3, .string (⟨#[]⟩ : ByteArray), .bool false, .bool false, .bool false]) ?_ 4 _ rfl; (with_reducible repeat (first | refine blk_drewN ?_ _ | refine blk_drew ?_ | refine blk_alloc ?_ _)); refine blk_put (cs := #[.string a0_0, .string a0_1, .string a0_2, .string (⟨#[]⟩ : ByteArray), .string (⟨#[]⟩ : ByteArray), .bool false, .bool false, .bool false]) ?_ 3 _ rfl; (with_reducible repeat (first | refine blk_drewN ?_ _ | refine blk_drew ?_ | refine blk_alloc ?_ _)); refine blk_put (cs := #[.string a0_0, .string a0_1, .string (⟨#[]⟩ : ByteArray), .string (⟨#[]⟩ : ByteArray), .string (⟨#[]⟩ : ByteArray), .bool false, .bool false, .bool false]) ?_ 2 _ rfl; (with_reducible repeat (first | refine blk_drewN ?_ _ | refine blk_drew ?_ | refine blk_alloc ?_ _)); refine blk_put (cs := #[.string a0_0, .string (⟨#[]⟩ : ByteArray), .string (⟨#[]⟩ : ByteArray), .string (⟨#[]⟩ : ByteArray), .string (⟨#[]⟩ : ByteArray), .bool false, .bool false, .bool false]) ?_ 1 _ rfl; (with_reducible repeat (first | refine blk_drewN ?_ _ | refine blk_drew ?_ | refine blk_alloc ?_ _)); refine blk_put (cs := #[.string (⟨#[]⟩ : ByteArray), .string (⟨#[]⟩ : ByteArray), .string (⟨#[]⟩ : ByteArray), .string (⟨#[]⟩ : ByteArray), .string (⟨#[]⟩ : ByteArray), .bool false, .bool false, .bool false]) ?_ 0 _ rfl; (with_reducible repeat (first | refine blk_drewN ?_ _ | refine blk_drew ?_ | refine blk_alloc ?_ _)); refine blk_far ?_ NB116_115.out _; (with_reducible repeat (first | refine blk_drewN ?_ _ | refine blk_drew ?_ | refine blk_alloc ?_ _)); exact BK116.out) Tryd.underlying25 rfl (by kernel_rfl)) rfl ?_
            exact ⟨by first | rfl | (simp [errW_none, errW_some] <;> rfl) | (simp [*, errW_none, errW_some] <;> rfl), by repeat (first | (with_reducible first | exact HB.out | apply below_alloc | apply pw_below_drewN | apply below_drew1 | refine below_set ?_ GE115.out | refine below_set ?_ GE116.out) | exact HB.out)⟩
        · rw [if_neg c22] at H
          have c22b0 : (a1.toList == ([110, 111, 99, 111, 112, 121] : List UInt8)) = false := beq_eq_false_iff_ne.mpr c22
          have c22b1 : (a1.toList != ([110, 111, 99, 111, 112, 121] : List UInt8)) = true := bne_iff_ne.mpr c22
          have HC40 := Aside0.mk H
          clear H
          go_upto_if 28 with (fail)
          go_cut [28] (fun v28 wc => ∃ (kq : Nat) (x28_39 : Bool), v28 = .bool x28_39 ∧ Aside0 (spec_shortMode.j1 kq a1 l2 a1 a1 x28_39 a0_0 a0_1 a0_2 a0_3 a0_4 a0_5 a0_6 a0_7 = some (r1, r2, r3, r4, r5, r6, r7, r8, r9, r10)) ∧ Aside0 (kq ≤ kj3) ∧ Aside0 (wc.heap[gb115]? = some (.cells #[.string a0_0, .string a0_1, .string a0_2, .string a0_3, .string a0_4, .bool a0_5, .bool a0_6, .bool a0_7] 25 (0, 0))) ∧ Aside0 (wc.heap[gb116]? = some (.cells #[.string (⟨#[]⟩ : ByteArray), .string (⟨#[]⟩ : ByteArray), .string (⟨#[]⟩ : ByteArray), .string (⟨#[]⟩ : ByteArray), .string (⟨#[]⟩ : ByteArray), .bool false, .bool false, .bool false] 25 (0, 0))) ∧ Aside0 (Below w.heap.size w wc))
          case first =>
            have H := HC40.out
            clear HC40
            by_cases c41 : a1.toList = ([122] : List UInt8)
            · rw [if_pos c41] at H
              have c41b0 : (a1.toList == ([122] : List UInt8)) = true := beq_iff_eq.mpr c41
              have c41b1 : (a1.toList != ([122] : List UInt8)) = false := bne_eq_false_iff_eq.mpr c41
              clear c41
              (first | rw [c41b0] | (simp only [i64_w, i32_w]; rw [c41b0]) | skip)
              have H' := Aside0.mk H
              clear H
              go_wp2
              go_meet
              case rel => exact ⟨_, ((a1.toList == ([122] : List UInt8))), (by first | rfl | (simp; done) | (simp [*]; done)), H', ⟨by have := HJ3.out; first | omega | exact Nat.le_refl _⟩, ⟨by (with_reducible repeat (first | refine blk_drewN ?_ _ | refine blk_drew ?_ | refine blk_alloc ?_ _)); exact BK115.out⟩, ⟨by (with_reducible repeat (first | refine blk_drewN ?_ _ | refine blk_drew ?_ | refine blk_alloc ?_ _)); exact BK116.out⟩, ⟨by repeat (first | (with_reducible first | exact HB.out | apply below_alloc | apply pw_below_drewN | apply below_drew1 | refine below_set ?_ GE115.out | refine below_set ?_ GE116.out) | exact HB.out)⟩⟩
            · rw [if_neg c41] at H
              have c41b0 : (a1.toList == ([122] : List UInt8)) = false := beq_eq_false_iff_ne.mpr c41
              have c41b1 : (a1.toList != ([122] : List UInt8)) = true := bne_iff_ne.mpr c41
              (first | rw [c41b0] | (simp only [i64_w, i32_w]; rw [c41b0]) | skip)
              have H' := Aside0.mk H
              clear H
              go_wp2
              go_meet
              case rel => exact ⟨_, ((a1.toList == ([90] : List UInt8))), (by first | rfl | (simp; done) | (simp [*]; done)), H', ⟨by have := HJ3.out; first | omega | exact Nat.le_refl _⟩, ⟨by (with_reducible repeat (first | refine blk_drewN ?_ _ | refine blk_drew ?_ | refine blk_alloc ?_ _)); exact BK115.out⟩, ⟨by (with_reducible repeat (first | refine blk_drewN ?_ _ | refine blk_drew ?_ | refine blk_alloc ?_ _)); exact BK116.out⟩, ⟨by repeat (first | (with_reducible first | exact HB.out | apply below_alloc | apply pw_below_drewN | apply below_drew1 | refine below_set ?_ GE115.out | refine below_set ?_ GE116.out) | exact HB.out)⟩⟩
          case rest =>
            clear HC40
            try clear c1
            try clear c2
            try clear p2
            try clear c3
            try clear c4
            try clear c7
            try clear c7b0
            try clear c7b1
            try clear c8
            try clear c10
            try clear c15
            try clear c19
            try clear c22
            try clear c22b0
            try clear c22b1
            try clear c23
            try clear c23b0
            try clear c23b1
            try clear c25
            try clear c37
            try clear c41
            try clear c41b0
            try clear c41b1
            try clear hcz11_0
            try clear hcz11_1
            try clear hcz11_2
            try clear hcz11_3
            try clear hcz11_4
            try clear hcz11_5
            try clear hcz11_6
            try clear hcz11_7
            try clear hcz26_0
            try clear hcz26_1
            try clear hcz26_2
            try clear hcz26_3
            try clear hcz26_4
            try clear hcz26_5
            try clear hcz26_6
            try clear hcz26_7
            try clear hcz38_0
            try clear hcz38_1
            try clear hcz38_2
            try clear hcz38_3
            try clear hcz38_4
            try clear hcz38_5
            try clear hcz38_6
            try clear hcz38_7
            try clear hcz39_0
            try clear hcz39_1
            try clear hcz39_2
            try clear hcz39_3
            try clear hcz39_4
            try clear hcz39_5
            try clear hcz39_6
            try clear hcz39_7
            try clear hfz11_0
            try clear hfz11_1
            try clear hfz11_2
            try clear hfz11_3
            try clear hfz11_4
            try clear hfz11_5
            try clear hfz11_6
            try clear hfz11_7
            try clear hfz26_0
            try clear hfz26_1
            try clear hfz26_2
            try clear hfz26_3
            try clear hfz26_4
            try clear hfz26_5
            try clear hfz26_6
            try clear hfz26_7
            try clear hfz38_0
            try clear hfz38_1
            try clear hfz38_2
            try clear hfz38_3
            try clear hfz38_4
            try clear hfz38_5
            try clear hfz38_6
            try clear hfz38_7
            try clear hfz39_0
            try clear hfz39_1
            try clear hfz39_2
            try clear hfz39_3
            try clear hfz39_4
            try clear hfz39_5
            try clear hfz39_6
            try clear hfz39_7
            try clear p2
            obtain ⟨kq, x28_39, rfl, HA, HJ39, BK115, BK116, HB⟩ := hcut
            cases kq with
            | zero => exact absurd HA.out (by simp [spec_shortMode.j1])
            | succ kj39 =>
              have H := HA.out
              clear HA
              simp only [spec_shortMode.j1] at H
              by_cases c42 : x28_39 = true
              · subst c42
                have H1 : (if a0_0.toList = ([98, 105, 110, 100] : List UInt8) then ((spec_mapsIn.f kj39 l2 (⟨#[122]⟩ : ByteArray)).bind fun t119 => (some (a0_0, a0_1, a0_2, a0_3, a1, a0_5, a0_6, a0_7, (⟨#[122]⟩ : ByteArray), !t119))) else (some (a0_0, a0_1, a0_2, a0_3, a1, a0_5, a0_6, a0_7, (⟨#[122]⟩ : ByteArray), false))) = some (r1, r2, r3, r4, r5, r6, r7, r8, r9, r10) := by rw [if_pos rfl] at H; exact H
                clear H
                have H := H1
                clear H1
                by_cases c43 : a0_0.toList = ([98, 105, 110, 100] : List UInt8)
                · rw [if_pos c43] at H
                  have c43b0 : (a0_0.toList == ([98, 105, 110, 100] : List UInt8)) = true := beq_iff_eq.mpr c43
                  have c43b1 : (a0_0.toList != ([98, 105, 110, 100] : List UInt8)) = false := bne_eq_false_iff_eq.mpr c43
                  clear c43
                  replace H := Option.bind_eq_some_iff.mp H
                  obtain ⟨t119, A440, H⟩ := H
                  replace H : (some (a0_0, a0_1, a0_2, a0_3, a1, a0_5, a0_6, a0_7, (⟨#[122]⟩ : ByteArray), !t119)) = some (r1, r2, r3, r4, r5, r6, r7, r8, r9, r10) := H
                  have A44 := Aside0.mk A440
                  clear A440
                  simp only [Option.some.injEq, Prod.mk.injEq] at H
                  obtain ⟨rfl, rfl, rfl, rfl, rfl, rfl, rfl, rfl, rfl, rfl⟩ := H
                  have hnb45 := NB115_116.out
                  have hnc45 := NB116_115.out
                  have hcz46_0 : wc.cell? ⟨gb115, 0, none⟩ = some (.string a0_0) := (blk_cell BK115.out 0).trans rfl
                  have hcz46_1 : wc.cell? ⟨gb115, 1, none⟩ = some (.string a0_1) := (blk_cell BK115.out 1).trans rfl
                  have hcz46_2 : wc.cell? ⟨gb115, 2, none⟩ = some (.string a0_2) := (blk_cell BK115.out 2).trans rfl
                  have hcz46_3 : wc.cell? ⟨gb115, 3, none⟩ = some (.string a0_3) := (blk_cell BK115.out 3).trans rfl
                  have hcz46_4 : wc.cell? ⟨gb115, 4, none⟩ = some (.string a0_4) := (blk_cell BK115.out 4).trans rfl
                  have hcz46_5 : wc.cell? ⟨gb115, 5, none⟩ = some (.bool a0_5) := (blk_cell BK115.out 5).trans rfl
                  have hcz46_6 : wc.cell? ⟨gb115, 6, none⟩ = some (.bool a0_6) := (blk_cell BK115.out 6).trans rfl
                  have hcz46_7 : wc.cell? ⟨gb115, 7, none⟩ = some (.bool a0_7) := (blk_cell BK115.out 7).trans rfl
                  have hfz46_0 := blk_frozen BK115.out 0
                  have hfz46_1 := blk_frozen BK115.out 1
                  have hfz46_2 := blk_frozen BK115.out 2
                  have hfz46_3 := blk_frozen BK115.out 3
                  have hfz46_4 := blk_frozen BK115.out 4
                  have hfz46_5 := blk_frozen BK115.out 5
                  have hfz46_6 := blk_frozen BK115.out 6
                  have hfz46_7 := blk_frozen BK115.out 7
                  try go_wp2
                  have n0_ : Aside0 ((wc.setCell ⟨gb115, 4, none⟩ (.string a1)).heap[gb115]? = some (.cells #[.string a0_0, .string a0_1, .string a0_2, .string a0_3, .string a1, .bool a0_5, .bool a0_6, .bool a0_7] 25 (0, 0))) := ⟨by (with_reducible repeat (first | refine blk_drewN ?_ _ | refine blk_drew ?_ | refine blk_alloc ?_ _)); refine blk_put (cs := #[.string a0_0, .string a0_1, .string a0_2, .string a0_3, .string a0_4, .bool a0_5, .bool a0_6, .bool a0_7]) ?_ 4 _ rfl; (with_reducible repeat (first | refine blk_drewN ?_ _ | refine blk_drew ?_ | refine blk_alloc ?_ _)); exact BK115.out⟩
                  have n1_ : Aside0 ((wc.setCell ⟨gb115, 4, none⟩ (.string a1)).heap[gb116]? = some (.cells #[.string (⟨#[]⟩ : ByteArray), .string (⟨#[]⟩ : ByteArray), .string (⟨#[]⟩ : ByteArray), .string (⟨#[]⟩ : ByteArray), .string (⟨#[]⟩ : ByteArray), .bool false, .bool false, .bool false] 25 (0, 0))) := ⟨by (with_reducible repeat (first | refine blk_drewN ?_ _ | refine blk_drew ?_ | refine blk_alloc ?_ _)); refine blk_far ?_ NB116_115.out _; (with_reducible repeat (first | refine blk_drewN ?_ _ | refine blk_drew ?_ | refine blk_alloc ?_ _)); exact BK116.out⟩
                  have n2_ : Aside0 (Below w.heap.size w (wc.setCell ⟨gb115, 4, none⟩ (.string a1))) := ⟨by repeat (first | (with_reducible first | exact HB.out | apply below_alloc | apply pw_below_drewN | apply below_drew1 | refine below_set ?_ GE115.out | refine below_set ?_ GE116.out) | exact HB.out)⟩
                  (try clear BK115)
                  (try clear BK116)
                  (try clear HB)
                  generalize (wc.setCell ⟨gb115, 4, none⟩ (.string a1)) = w47 at n0_ n1_ n2_ ⊢
                  have BK115 := n0_
                  have BK116 := n1_
                  have HB := n2_
                  clear n0_ n1_ n2_
                  have n0_ := Aside0.mk (blk_drew BK115.out)
                  have n1_ := Aside0.mk (blk_drew BK116.out)
                  have n2_ := Aside0.mk (below_drew1 HB.out)
                  clear BK115
                  clear BK116
                  clear HB
                  have BK115 := n0_
                  have BK116 := n1_
                  have HB := n2_
                  clear n0_ n1_ n2_
                  refine start_ (n := 9) (S := fun w' => w'.cell? ⟨gb115, 0, none⟩ = some (.string a0_0) ∧ w'.cell? ⟨gb115, 1, none⟩ = some (.string a0_1) ∧ w'.cell? ⟨gb115, 2, none⟩ = some (.string a0_2) ∧ w'.cell? ⟨gb115, 3, none⟩ = some (.string a0_3) ∧ w'.cell? ⟨gb115, 4, none⟩ = some (.string a1) ∧ w'.cell? ⟨gb115, 5, none⟩ = some (.bool a0_5) ∧ w'.cell? ⟨gb115, 6, none⟩ = some (.bool a0_6) ∧ w'.cell? ⟨gb115, 7, none⟩ = some (.bool a0_7)) (ds := []) #[false, false, false, false, false, false, false, false, false] (by kernel_rfl) rfl rfl ⟨(blk_cell BK115.out 0).trans rfl, (blk_cell BK115.out 1).trans rfl, (blk_cell BK115.out 2).trans rfl, (blk_cell BK115.out 3).trans rfl, (blk_cell BK115.out 4).trans rfl, (blk_cell BK115.out 5).trans rfl, (blk_cell BK115.out 6).trans rfl, (blk_cell BK115.out 7).trans rfl⟩ (fun hHeld => ?_); refine with_tabW spec_shortMode.tab28 spec_shortMode.bits28 (fun HT_ HW_ => ?_)
                  generalize w47.drew = w48 at BK115 BK116 HB hHeld ⊢
                  refine pure_ (i := 1) (N := some 53) (v := ?_) (a' := ?_) #[false, true, false, false, false, false, false, false, false] rfl rfl (any_of HT_.out (by kernel_rfl)) (fun _ _ _ h => h) (Or.inl ⟨by rfl, ?_⟩) ?_ ?_
                  rotate_left
                  · intro w'
                    go_simp
                    with_reducible rfl
                  rotate_left
                  · simp only [Act.put, List.setIfInBounds_toArray, List.set_cons_zero, List.set_cons_succ, i64_w, i32_w]
                    rfl
                  refine pure_ (i := 2) (N := some 54) (v := ?_) (a' := ?_) #[false, true, true, false, false, false, false, false, false] rfl rfl (any_of HT_.out (by kernel_rfl)) (fun _ _ _ h => h) (Or.inl ⟨by rfl, ?_⟩) ?_ ?_
                  rotate_left
                  · intro w'
                    go_simp
                    with_reducible rfl
                  rotate_left
                  · simp only [Act.put, List.setIfInBounds_toArray, List.set_cons_zero, List.set_cons_succ, i64_w, i32_w]
                    rfl
                  refine pure_ (i := 3) (N := some 55) (v := ?_) (a' := ?_) #[false, true, true, true, false, false, false, false, false] rfl rfl (any_of HT_.out (by kernel_rfl)) (fun _ _ _ h => h) (Or.inl ⟨by rfl, ?_⟩) ?_ ?_
                  rotate_left
                  · intro w'
                    go_simp
                    with_reducible rfl
                  rotate_left
                  · simp only [Act.put, List.setIfInBounds_toArray, List.set_cons_zero, List.set_cons_succ, i64_w, i32_w]
                    rfl
                  refine take_ (i := 0) (N := some 52) (v := ?_) (a' := ?_) #[true, true, true, true, false, false, false, false, false] rfl rfl (take_ofW HT_.out HW_.out (by kernel_rfl)) (fun _ _ _ h => h) (Or.inl ⟨by rfl, ?_⟩) hHeld ?_ ?_
                  rotate_left
                  · rintro w' ⟨s0, s1, s2, s3, s4, s5, s6, s7⟩
                    go_simp
                    with_reducible rfl
                  rotate_left
                  · simp only [Act.put, List.setIfInBounds_toArray, List.set_cons_zero, List.set_cons_succ, i64_w, i32_w]
                    rfl
                  refine one_ (i := 4) (N := some 56) #[true, true, true, true, true, false, false, false, false] rfl rfl (one_of HT_.out (by kernel_rfl)) (by decide) (fun K hK => ?_)
                  refine goes_ Tryd.func19 (by kernel_rfl) rfl #[.slice A2 l2.length c2, .string (⟨#[122]⟩ : ByteArray)] (by rfl) rfl rfl (by (try simp only [List.map_toArray, List.map_cons, List.map_nil]); first | done | rfl | (simp only [List.length_drop, List.length_take]; rfl)) ?_
                  with_reducible refine (spec_mapsIn.calls kj39 _ _ l2 (⟨#[122]⟩ : ByteArray) t119 _ ?side1 ?side2 A44.out).mono ?_
                  (case side1 => repeat (first | exact (Kd.C_below HR2.out HB.out) | (with_reducible refine Kd.C_alloc ?_ _) | (with_reducible refine Kd.C_drewN ?_ _) | (with_reducible refine Kd.C_drew ?_)))
                  (case side2 => exact HC2.out)
                  rintro e w' ⟨rfl, ⟨nd, rfl⟩⟩
                  refine ⟨_, rfl, ?_⟩
                  refine hK.out _ _ ⟨(blk_cell BK115.out 0).trans rfl, (blk_cell BK115.out 1).trans rfl, (blk_cell BK115.out 2).trans rfl, (blk_cell BK115.out 3).trans rfl, (blk_cell BK115.out 4).trans rfl, (blk_cell BK115.out 5).trans rfl, (blk_cell BK115.out 6).trans rfl, (blk_cell BK115.out 7).trans rfl⟩ (fun hHeld => ?_)
                  clear hK K
                  refine norm_ (a' := ?_) ?_ ?_
                  rotate_left
                  · show Act.put _ (some 56) _ = _
                    simp only [Act.put, List.setIfInBounds_toArray, List.set_cons_zero, List.set_cons_succ, i64_w, i32_w]
                    rfl
                  refine pure_ (i := 5) (N := some 57) (v := ?_) (a' := ?_) #[true, true, true, true, true, true, false, false, false] rfl rfl (any_of HT_.out (by kernel_rfl)) (fun _ _ _ h => h) (Or.inl ⟨by rfl, ?_⟩) ?_ ?_
                  rotate_left
                  · intro w'
                    go_simp
                    with_reducible rfl
                  rotate_left
                  · simp only [Act.put, List.setIfInBounds_toArray, List.set_cons_zero, List.set_cons_succ, i64_w, i32_w]
                    rfl
                  refine one_ (i := 6) (N := none) #[true, true, true, true, true, true, true, false, false] rfl rfl (one_of HT_.out (by kernel_rfl)) (by decide) (fun K hK => ?_)
                  have hs49 : w48.cell? ⟨gb116, 0, none⟩ = some (.string (⟨#[]⟩ : ByteArray)) := (blk_cell BK116.out 0).trans rfl
                  have hfs49 := blk_frozen BK116.out 0
                  have hns49_0 := NB115_116.out
                  have hms49_0 := NB116_115.out
                  have hs50 : w48.cell? ⟨gb116, 1, none⟩ = some (.string (⟨#[]⟩ : ByteArray)) := (blk_cell BK116.out 1).trans rfl
                  have hfs50 := blk_frozen BK116.out 1
                  have hns50_0 := NB115_116.out
                  have hms50_0 := NB116_115.out
                  have hs51 : w48.cell? ⟨gb116, 2, none⟩ = some (.string (⟨#[]⟩ : ByteArray)) := (blk_cell BK116.out 2).trans rfl
                  have hfs51 := blk_frozen BK116.out 2
                  have hns51_0 := NB115_116.out
                  have hms51_0 := NB116_115.out
                  have hs52 : w48.cell? ⟨gb116, 3, none⟩ = some (.string (⟨#[]⟩ : ByteArray)) := (blk_cell BK116.out 3).trans rfl
                  have hfs52 := blk_frozen BK116.out 3
                  have hns52_0 := NB115_116.out
                  have hms52_0 := NB116_115.out
                  have hs53 : w48.cell? ⟨gb116, 4, none⟩ = some (.string (⟨#[]⟩ : ByteArray)) := (blk_cell BK116.out 4).trans rfl
                  have hfs53 := blk_frozen BK116.out 4
                  have hns53_0 := NB115_116.out
                  have hms53_0 := NB116_115.out
                  have hs54 : w48.cell? ⟨gb116, 5, none⟩ = some (.bool false) := (blk_cell BK116.out 5).trans rfl
                  have hfs54 := blk_frozen BK116.out 5
                  have hns54_0 := NB115_116.out
                  have hms54_0 := NB116_115.out
                  have hs55 : w48.cell? ⟨gb116, 6, none⟩ = some (.bool false) := (blk_cell BK116.out 6).trans rfl
                  have hfs55 := blk_frozen BK116.out 6
                  have hns55_0 := NB115_116.out
                  have hms55_0 := NB116_115.out
                  have hs56 : w48.cell? ⟨gb116, 7, none⟩ = some (.bool false) := (blk_cell BK116.out 7).trans rfl
                  have hfs56 := blk_frozen BK116.out 7
                  have hns56_0 := NB115_116.out
                  have hms56_0 := NB116_115.out
                  refine skip_ (w1 := ?_) (by rfl) rfl ?_ ?_
                  rotate_left
                  · go_simp
                    rfl
                  refine hK.out _ _ ⟨((cell_far (p := ⟨gb116, _, none⟩) NB115_116.out _).trans (((cell_far (p := ⟨gb116, _, none⟩) NB115_116.out _).trans (((cell_far (p := ⟨gb116, _, none⟩) NB115_116.out _).trans (((cell_far (p := ⟨gb116, _, none⟩) NB115_116.out _).trans (((cell_far (p := ⟨gb116, _, none⟩) NB115_116.out _).trans (((cell_far (p := ⟨gb116, _, none⟩) NB115_116.out _).trans (((cell_far (p := ⟨gb116, _, none⟩) NB115_116.out _).trans (((cell_far (p := ⟨gb116, _, none⟩) NB115_116.out _).trans (hHeld.1)))))))))))))))), ((cell_far (p := ⟨gb116, _, none⟩) NB115_116.out _).trans (((cell_far (p := ⟨gb116, _, none⟩) NB115_116.out _).trans (((cell_far (p := ⟨gb116, _, none⟩) NB115_116.out _).trans (((cell_far (p := ⟨gb116, _, none⟩) NB115_116.out _).trans (((cell_far (p := ⟨gb116, _, none⟩) NB115_116.out _).trans (((cell_far (p := ⟨gb116, _, none⟩) NB115_116.out _).trans (((cell_far (p := ⟨gb116, _, none⟩) NB115_116.out _).trans (((cell_far (p := ⟨gb116, _, none⟩) NB115_116.out _).trans (hHeld.2.1)))))))))))))))), ((cell_far (p := ⟨gb116, _, none⟩) NB115_116.out _).trans (((cell_far (p := ⟨gb116, _, none⟩) NB115_116.out _).trans (((cell_far (p := ⟨gb116, _, none⟩) NB115_116.out _).trans (((cell_far (p := ⟨gb116, _, none⟩) NB115_116.out _).trans (((cell_far (p := ⟨gb116, _, none⟩) NB115_116.out _).trans (((cell_far (p := ⟨gb116, _, none⟩) NB115_116.out _).trans (((cell_far (p := ⟨gb116, _, none⟩) NB115_116.out _).trans (((cell_far (p := ⟨gb116, _, none⟩) NB115_116.out _).trans (hHeld.2.2.1)))))))))))))))), ((cell_far (p := ⟨gb116, _, none⟩) NB115_116.out _).trans (((cell_far (p := ⟨gb116, _, none⟩) NB115_116.out _).trans (((cell_far (p := ⟨gb116, _, none⟩) NB115_116.out _).trans (((cell_far (p := ⟨gb116, _, none⟩) NB115_116.out _).trans (((cell_far (p := ⟨gb116, _, none⟩) NB115_116.out _).trans (((cell_far (p := ⟨gb116, _, none⟩) NB115_116.out _).trans (((cell_far (p := ⟨gb116, _, none⟩) NB115_116.out _).trans (((cell_far (p := ⟨gb116, _, none⟩) NB115_116.out _).trans (hHeld.2.2.2.1)))))))))))))))), ((cell_far (p := ⟨gb116, _, none⟩) NB115_116.out _).trans (((cell_far (p := ⟨gb116, _, none⟩) NB115_116.out _).trans (((cell_far (p := ⟨gb116, _, none⟩) NB115_116.out _).trans (((cell_far (p := ⟨gb116, _, none⟩) NB115_116.out _).trans (((cell_far (p := ⟨gb116, _, none⟩) NB115_116.out _).trans (((cell_far (p := ⟨gb116, _, none⟩) NB115_116.out _).trans (((cell_far (p := ⟨gb116, _, none⟩) NB115_116.out _).trans (((cell_far (p := ⟨gb116, _, none⟩) NB115_116.out _).trans (hHeld.2.2.2.2.1)))))))))))))))), ((cell_far (p := ⟨gb116, _, none⟩) NB115_116.out _).trans (((cell_far (p := ⟨gb116, _, none⟩) NB115_116.out _).trans (((cell_far (p := ⟨gb116, _, none⟩) NB115_116.out _).trans (((cell_far (p := ⟨gb116, _, none⟩) NB115_116.out _).trans (((cell_far (p := ⟨gb116, _, none⟩) NB115_116.out _).trans (((cell_far (p := ⟨gb116, _, none⟩) NB115_116.out _).trans (((cell_far (p := ⟨gb116, _, none⟩) NB115_116.out _).trans (((cell_far (p := ⟨gb116, _, none⟩) NB115_116.out _).trans (hHeld.2.2.2.2.2.1)))))))))))))))), ((cell_far (p := ⟨gb116, _, none⟩) NB115_116.out _).trans (((cell_far (p := ⟨gb116, _, none⟩) NB115_116.out _).trans (((cell_far (p := ⟨gb116, _, none⟩) NB115_116.out _).trans (((cell_far (p := ⟨gb116, _, none⟩) NB115_116.out _).trans (((cell_far (p := ⟨gb116, _, none⟩) NB115_116.out _).trans (((cell_far (p := ⟨gb116, _, none⟩) NB115_116.out _).trans (((cell_far (p := ⟨gb116, _, none⟩) NB115_116.out _).trans (((cell_far (p := ⟨gb116, _, none⟩) NB115_116.out _).trans (hHeld.2.2.2.2.2.2.1)))))))))))))))), ((cell_far (p := ⟨gb116, _, none⟩) NB115_116.out _).trans (((cell_far (p := ⟨gb116, _, none⟩) NB115_116.out _).trans (((cell_far (p := ⟨gb116, _, none⟩) NB115_116.out _).trans (((cell_far (p := ⟨gb116, _, none⟩) NB115_116.out _).trans (((cell_far (p := ⟨gb116, _, none⟩) NB115_116.out _).trans (((cell_far (p := ⟨gb116, _, none⟩) NB115_116.out _).trans (((cell_far (p := ⟨gb116, _, none⟩) NB115_116.out _).trans (((cell_far (p := ⟨gb116, _, none⟩) NB115_116.out _).trans (hHeld.2.2.2.2.2.2.2))))))))))))))))⟩ (fun hHeld => ?_)
                  clear hK K
                  refine pure_ (i := 7) (N := some 7) (v := ?_) (a' := ?_) #[true, true, true, true, true, true, true, true, false] rfl rfl (any_of HT_.out (by kernel_rfl)) (fun _ _ _ h => h) (Or.inl ⟨by rfl, ?_⟩) ?_ ?_
                  rotate_left
                  · intro w'
                    go_simp
                    with_reducible rfl
                  rotate_left
                  · simp only [Act.put, List.setIfInBounds_toArray, List.set_cons_zero, List.set_cons_succ, i64_w, i32_w]
                    rfl
                  refine pure_ (i := 8) (N := some 8) (v := ?_) (a' := ?_) #[true, true, true, true, true, true, true, true, true] rfl rfl (any_of HT_.out (by kernel_rfl)) (fun _ _ _ h => h) (Or.inl ⟨by rfl, ?_⟩) ?_ ?_
                  rotate_left
                  · intro w'
                    go_simp
                    with_reducible rfl
                  rotate_left
                  · simp only [Act.put, List.setIfInBounds_toArray, List.set_cons_zero, List.set_cons_succ, i64_w, i32_w]
                    rfl
                  refine done_ (done_of HT_.out (by kernel_rfl)) ?_
                  try go_wp2
                  refine bodyPost_ret (results_ctt rfl _ _ gb116 25 #[.string a0_0, .string a0_1, .string a0_2, .string a0_3, .string a1, .bool a0_5, .bool a0_6, .bool a0_7] (0, 0) _ rfl (by (with_reducible repeat (first | refine blk_drewN ?_ _ | refine blk_drew ?_ | refine blk_alloc ?_ _)); refine blk_put (cs := #[.string a0_0, .string a0_1, .string a0_2, .string a0_3, .string a1, .bool a0_5, .bool a0_6, .bool false]) ?_ 7 _ rfl; (with_reducible repeat (first | refine blk_drewN ?_ _ | refine blk_drew ?_ | refine blk_alloc ?_ _)); refine blk_put (cs := #[.string a0_0, .string a0_1, .string a0_2, .string a0_3, .string a1, .bool a0_5, .bool false, .bool false]) ?_ 6 _ rfl; (with_reducible repeat (first | refine blk_drewN ?_ _ | refine blk_drew ?_ | refine blk_alloc ?_ _)); refine blk_put (cs := #[.string a0_0, .string a0_1, .string a0_2, .string a0_3, .string a1, .bool false, .bool false, .bool false]) ?_ 5 _ rfl; (with_reducible repeat (first | refine blk_drewN ?_ _ | refine blk_drew ?_ | refine blk_alloc ?_ _)); refine blk_put (cs := #[.string a0_0, .string a0_1, .string a0_2, .string a0_3, .string (⟨#[]⟩ : ByteArray), .bool false, .bool false, .bool false]) ?_ 4 _ rfl; (with_reducible repeat (first | refine blk_drewN ?_ _ | refine blk_drew ?_ | refine blk_alloc ?_ _)); refine blk_put (cs := #[.string a0_0, .string a0_1, .string a0_2, .string (⟨#[]⟩ : ByteArray), .string (⟨#[]⟩ : ByteArray), .bool false, .bool false, .bool false]) ?_ 3 _ rfl; (with_reducible repeat (first | refine blk_drewN ?_ _ | refine blk_drew ?_ | refine blk_alloc ?_ _)); refine blk_put (cs := #[.string a0_0, .string a0_1, .string (⟨#[]⟩ : ByteArray), .string (⟨#[]⟩ : ByteArray), .string (⟨#[]⟩ : ByteArray), .bool false, .bool false, .bool false]) ?_ 2 _ rfl; (with_reducible repeat (first | refine blk_drewN ?_ _ | refine blk_drew ?_ | refine blk_alloc ?_ _)); refine blk_put (cs := #[.string a0_0, .string (⟨#[]⟩ : ByteArray), .string (⟨#[]⟩ : ByteArray), .string (⟨#[]⟩ : ByteArray), .string (⟨#[]⟩ : ByteArray), .bool false, .bool false, .bool false]) ?_ 1 _ rfl; (with_reducible repeat (first | refine blk_drewN ?_ _ | refine blk_drew ?_ | refine blk_alloc ?_ _)); refine blk_put (cs := #[.string (⟨#[]⟩ : ByteArray), .string (⟨#[]⟩ : ByteArray), .string (⟨#[]⟩ : ByteArray), .string (⟨#[]⟩ : ByteArray), .string (⟨#[]⟩ : ByteArray), .bool false, .bool false, .bool false]) ?_ 0 _ rfl; (with_reducible repeat (first | refine blk_drewN ?_ _ | refine blk_drew ?_ | refine blk_alloc ?_ _)); exact BK116.out) Tryd.underlying25 rfl (by kernel_rfl)) rfl ?_
                  exact ⟨by first | rfl | (simp [errW_none, errW_some] <;> rfl) | (simp [*, errW_none, errW_some] <;> rfl), by repeat (first | (with_reducible first | exact HB.out | apply below_alloc | apply pw_below_drewN | apply below_drew1 | refine below_set ?_ GE115.out | refine below_set ?_ GE116.out) | exact HB.out)⟩
                · rw [if_neg c43] at H
                  have c43b0 : (a0_0.toList == ([98, 105, 110, 100] : List UInt8)) = false := beq_eq_false_iff_ne.mpr c43
                  have c43b1 : (a0_0.toList != ([98, 105, 110, 100] : List UInt8)) = true := bne_iff_ne.mpr c43
                  simp only [Option.some.injEq, Prod.mk.injEq] at H
                  obtain ⟨rfl, rfl, rfl, rfl, rfl, rfl, rfl, rfl, rfl, rfl⟩ := H
                  have hnb57 := NB115_116.out
                  have hnc57 := NB116_115.out
                  have hcz58_0 : wc.cell? ⟨gb115, 0, none⟩ = some (.string a0_0) := (blk_cell BK115.out 0).trans rfl
                  have hcz58_1 : wc.cell? ⟨gb115, 1, none⟩ = some (.string a0_1) := (blk_cell BK115.out 1).trans rfl
                  have hcz58_2 : wc.cell? ⟨gb115, 2, none⟩ = some (.string a0_2) := (blk_cell BK115.out 2).trans rfl
                  have hcz58_3 : wc.cell? ⟨gb115, 3, none⟩ = some (.string a0_3) := (blk_cell BK115.out 3).trans rfl
                  have hcz58_4 : wc.cell? ⟨gb115, 4, none⟩ = some (.string a0_4) := (blk_cell BK115.out 4).trans rfl
                  have hcz58_5 : wc.cell? ⟨gb115, 5, none⟩ = some (.bool a0_5) := (blk_cell BK115.out 5).trans rfl
                  have hcz58_6 : wc.cell? ⟨gb115, 6, none⟩ = some (.bool a0_6) := (blk_cell BK115.out 6).trans rfl
                  have hcz58_7 : wc.cell? ⟨gb115, 7, none⟩ = some (.bool a0_7) := (blk_cell BK115.out 7).trans rfl
                  have hfz58_0 := blk_frozen BK115.out 0
                  have hfz58_1 := blk_frozen BK115.out 1
                  have hfz58_2 := blk_frozen BK115.out 2
                  have hfz58_3 := blk_frozen BK115.out 3
                  have hfz58_4 := blk_frozen BK115.out 4
                  have hfz58_5 := blk_frozen BK115.out 5
                  have hfz58_6 := blk_frozen BK115.out 6
                  have hfz58_7 := blk_frozen BK115.out 7
                  have hcz59_0 : wc.cell? ⟨gb116, 0, none⟩ = some (.string (⟨#[]⟩ : ByteArray)) := (blk_cell BK116.out 0).trans rfl
                  have hcz59_1 : wc.cell? ⟨gb116, 1, none⟩ = some (.string (⟨#[]⟩ : ByteArray)) := (blk_cell BK116.out 1).trans rfl
                  have hcz59_2 : wc.cell? ⟨gb116, 2, none⟩ = some (.string (⟨#[]⟩ : ByteArray)) := (blk_cell BK116.out 2).trans rfl
                  have hcz59_3 : wc.cell? ⟨gb116, 3, none⟩ = some (.string (⟨#[]⟩ : ByteArray)) := (blk_cell BK116.out 3).trans rfl
                  have hcz59_4 : wc.cell? ⟨gb116, 4, none⟩ = some (.string (⟨#[]⟩ : ByteArray)) := (blk_cell BK116.out 4).trans rfl
                  have hcz59_5 : wc.cell? ⟨gb116, 5, none⟩ = some (.bool false) := (blk_cell BK116.out 5).trans rfl
                  have hcz59_6 : wc.cell? ⟨gb116, 6, none⟩ = some (.bool false) := (blk_cell BK116.out 6).trans rfl
                  have hcz59_7 : wc.cell? ⟨gb116, 7, none⟩ = some (.bool false) := (blk_cell BK116.out 7).trans rfl
                  have hfz59_0 := blk_frozen BK116.out 0
                  have hfz59_1 := blk_frozen BK116.out 1
                  have hfz59_2 := blk_frozen BK116.out 2
                  have hfz59_3 := blk_frozen BK116.out 3
                  have hfz59_4 := blk_frozen BK116.out 4
                  have hfz59_5 := blk_frozen BK116.out 5
                  have hfz59_6 := blk_frozen BK116.out 6
                  have hfz59_7 := blk_frozen BK116.out 7
                  go_wp2
                  refine bodyPost_ret (results_ctt rfl _ _ gb116 25 #[.string a0_0, .string a0_1, .string a0_2, .string a0_3, .string a1, .bool a0_5, .bool a0_6, .bool a0_7] (0, 0) _ rfl (by (with_reducible repeat (first | refine blk_drewN ?_ _ | refine blk_drew ?_ | refine blk_alloc ?_ _)); refine blk_put (cs := #[.string a0_0, .string a0_1, .string a0_2, .string a0_3, .string a1, .bool a0_5, .bool a0_6, .bool false]) ?_ 7 _ rfl; (with_reducible repeat (first | refine blk_drewN ?_ _ | refine blk_drew ?_ | refine blk_alloc ?_ _)); refine blk_put (cs := #[.string a0_0, .string a0_1, .string a0_2, .string a0_3, .string a1, .bool a0_5, .bool false, .bool false]) ?_ 6 _ rfl; (with_reducible repeat (first | refine blk_drewN ?_ _ | refine blk_drew ?_ | refine blk_alloc ?_ _)); refine blk_put (cs := #[.string a0_0, .string a0_1, .string a0_2, .string a0_3, .string a1, .bool false, .bool false, .bool false]) ?_ 5 _ rfl; (with_reducible repeat (first | refine blk_drewN ?_ _ | refine blk_drew ?_ | refine blk_alloc ?_ _)); refine blk_put (cs := #[.string a0_0, .string a0_1, .string a0_2, .string a0_3, .string (⟨#[]⟩ : ByteArray), .bool false, .bool false, .bool false]) ?_ 4 _ rfl; (with_reducible repeat (first | refine blk_drewN ?_ _ | refine blk_drew ?_ | refine blk_alloc ?_ _)); refine blk_put (cs := #[.string a0_0, .string a0_1, .string a0_2, .string (⟨#[]⟩ : ByteArray), .string (⟨#[]⟩ : ByteArray), .bool false, .bool false, .bool false]) ?_ 3 _ rfl; (with_reducible repeat (first | refine blk_drewN ?_ _ | refine blk_drew ?_ | refine blk_alloc ?_ _)); refine blk_put (cs := #[.string a0_0, .string a0_1, .string (⟨#[]⟩ : ByteArray), .string (⟨#[]⟩ : ByteArray), .string (⟨#[]⟩ : ByteArray), .bool false, .bool false, .bool false]) ?_ 2 _ rfl; (with_reducible repeat (first | refine blk_drewN ?_ _ | refine blk_drew ?_ | refine blk_alloc ?_ _)); refine blk_put (cs := #[.string a0_0, .string (⟨#[]⟩ : ByteArray), .string (⟨#[]⟩ : ByteArray), .string (⟨#[]⟩ : ByteArray), .string (⟨#[]⟩ : ByteArray), .bool false, .bool false, .bool false]) ?_ 1 _ rfl; (with_reducible repeat (first | refine blk_drewN ?_ _ | refine blk_drew ?_ | refine blk_alloc ?_ _)); refine blk_put (cs := #[.string (⟨#[]⟩ : ByteArray), .string (⟨#[]⟩ : ByteArray), .string (⟨#[]⟩ : ByteArray), .string (⟨#[]⟩ : ByteArray), .string (⟨#[]⟩ : ByteArray), .bool false, .bool false, .bool false]) ?_ 0 _ rfl; (with_reducible repeat (first | refine blk_drewN ?_ _ | refine blk_drew ?_ | refine blk_alloc ?_ _)); refine blk_far ?_ NB116_115.out _; (with_reducible repeat (first | refine blk_drewN ?_ _ | refine blk_drew ?_ | refine blk_alloc ?_ _)); exact BK116.out) Tryd.underlying25 rfl (by kernel_rfl)) rfl ?_
                  exact ⟨by first | rfl | (simp [errW_none, errW_some] <;> rfl) | (simp [*, errW_none, errW_some] <;> rfl), by repeat (first | (with_reducible first | exact HB.out | apply below_alloc | apply pw_below_drewN | apply below_drew1 | refine below_set ?_ GE115.out | refine below_set ?_ GE116.out) | exact HB.out)⟩
              · replace c42 := Bool.eq_false_iff.mpr c42
                subst c42
                have H1 : (if a1.toList = ([112, 114, 105, 118, 97, 116, 101] : List UInt8) then (spec_shortMode.j2 kj39 a1 l2 a1 (a1.toList == ([112, 114, 105, 118, 97, 116, 101] : List UInt8)) a0_0 a0_1 a0_2 a0_3 a0_4 a0_5 a0_6 a0_7) else (if a1.toList = ([114, 112, 114, 105, 118, 97, 116, 101] : List UInt8) then (spec_shortMode.j2 kj39 a1 l2 a1 (a1.toList == ([114, 112, 114, 105, 118, 97, 116, 101] : List UInt8)) a0_0 a0_1 a0_2 a0_3 a0_4 a0_5 a0_6 a0_7) else (if a1.toList = ([115, 104, 97, 114, 101, 100] : List UInt8) then (spec_shortMode.j2 kj39 a1 l2 a1 (a1.toList == ([115, 104, 97, 114, 101, 100] : List UInt8)) a0_0 a0_1 a0_2 a0_3 a0_4 a0_5 a0_6 a0_7) else (if a1.toList = ([114, 115, 104, 97, 114, 101, 100] : List UInt8) then (spec_shortMode.j2 kj39 a1 l2 a1 (a1.toList == ([114, 115, 104, 97, 114, 101, 100] : List UInt8)) a0_0 a0_1 a0_2 a0_3 a0_4 a0_5 a0_6 a0_7) else (if a1.toList = ([115, 108, 97, 118, 101] : List UInt8) then (spec_shortMode.j2 kj39 a1 l2 a1 (a1.toList == ([115, 108, 97, 118, 101] : List UInt8)) a0_0 a0_1 a0_2 a0_3 a0_4 a0_5 a0_6 a0_7) else (spec_shortMode.j2 kj39 a1 l2 a1 (a1.toList == ([114, 115, 108, 97, 118, 101] : List UInt8)) a0_0 a0_1 a0_2 a0_3 a0_4 a0_5 a0_6 a0_7)))))) = some (r1, r2, r3, r4, r5, r6, r7, r8, r9, r10) := by rw [if_neg (show ¬ (false = true) by decide)] at H; exact H
                clear H
                have H := H1
                clear H1
                have HC60 := Aside0.mk H
                clear H
                go_upto_if 38 with (fail)
                go_cut [38] (fun v38 wc => ∃ (kq : Nat) (x38_59 : Bool), v38 = .bool x38_59 ∧ Aside0 (spec_shortMode.j2 kq a1 l2 a1 x38_59 a0_0 a0_1 a0_2 a0_3 a0_4 a0_5 a0_6 a0_7 = some (r1, r2, r3, r4, r5, r6, r7, r8, r9, r10)) ∧ Aside0 (kq ≤ kj39) ∧ Aside0 (wc.heap[gb115]? = some (.cells #[.string a0_0, .string a0_1, .string a0_2, .string a0_3, .string a0_4, .bool a0_5, .bool a0_6, .bool a0_7] 25 (0, 0))) ∧ Aside0 (wc.heap[gb116]? = some (.cells #[.string (⟨#[]⟩ : ByteArray), .string (⟨#[]⟩ : ByteArray), .string (⟨#[]⟩ : ByteArray), .string (⟨#[]⟩ : ByteArray), .string (⟨#[]⟩ : ByteArray), .bool false, .bool false, .bool false] 25 (0, 0))) ∧ Aside0 (Below w.heap.size w wc))
                case first =>
                  have H := HC60.out
                  clear HC60
                  by_cases c61 : a1.toList = ([112, 114, 105, 118, 97, 116, 101] : List UInt8)
                  · rw [if_pos c61] at H
                    have c61b0 : (a1.toList == ([112, 114, 105, 118, 97, 116, 101] : List UInt8)) = true := beq_iff_eq.mpr c61
                    have c61b1 : (a1.toList != ([112, 114, 105, 118, 97, 116, 101] : List UInt8)) = false := bne_eq_false_iff_eq.mpr c61
                    clear c61
                    (first | rw [c61b0] | (simp only [i64_w, i32_w]; rw [c61b0]) | skip)
                    have H' := Aside0.mk H
                    clear H
                    go_wp2
                    go_meet
                    case rel => exact ⟨_, ((a1.toList == ([112, 114, 105, 118, 97, 116, 101] : List UInt8))), (by first | rfl | (simp; done) | (simp [*]; done)), H', ⟨by have := HJ3.out; have := HJ39.out; first | omega | exact Nat.le_refl _⟩, ⟨by (with_reducible repeat (first | refine blk_drewN ?_ _ | refine blk_drew ?_ | refine blk_alloc ?_ _)); exact BK115.out⟩, ⟨by (with_reducible repeat (first | refine blk_drewN ?_ _ | refine blk_drew ?_ | refine blk_alloc ?_ _)); exact BK116.out⟩, ⟨by repeat (first | (with_reducible first | exact HB.out | apply below_alloc | apply pw_below_drewN | apply below_drew1 | refine below_set ?_ GE115.out | refine below_set ?_ GE116.out) | exact HB.out)⟩⟩
                  · rw [if_neg c61] at H
                    have c61b0 : (a1.toList == ([112, 114, 105, 118, 97, 116, 101] : List UInt8)) = false := beq_eq_false_iff_ne.mpr c61
                    have c61b1 : (a1.toList != ([112, 114, 105, 118, 97, 116, 101] : List UInt8)) = true := bne_iff_ne.mpr c61
                    (first | rw [c61b0] | (simp only [i64_w, i32_w]; rw [c61b0]) | skip)
                    by_cases c62 : a1.toList = ([114, 112, 114, 105, 118, 97, 116, 101] : List UInt8)
                    · rw [if_pos c62] at H
                      have c62b0 : (a1.toList == ([114, 112, 114, 105, 118, 97, 116, 101] : List UInt8)) = true := beq_iff_eq.mpr c62
                      have c62b1 : (a1.toList != ([114, 112, 114, 105, 118, 97, 116, 101] : List UInt8)) = false := bne_eq_false_iff_eq.mpr c62
                      clear c62
                      have H' := Aside0.mk H
                      clear H
                      go_wp2
                      go_meet
                      case rel => exact ⟨_, ((a1.toList == ([114, 112, 114, 105, 118, 97, 116, 101] : List UInt8))), (by first | rfl | (simp; done) | (simp [*]; done)), H', ⟨by have := HJ3.out; have := HJ39.out; first | omega | exact Nat.le_refl _⟩, ⟨by (with_reducible repeat (first | refine blk_drewN ?_ _ | refine blk_drew ?_ | refine blk_alloc ?_ _)); exact BK115.out⟩, ⟨by (with_reducible repeat (first | refine blk_drewN ?_ _ | refine blk_drew ?_ | refine blk_alloc ?_ _)); exact BK116.out⟩, ⟨by repeat (first | (with_reducible first | exact HB.out | apply below_alloc | apply pw_below_drewN | apply below_drew1 | refine below_set ?_ GE115.out | refine below_set ?_ GE116.out) | exact HB.out)⟩⟩
                    · rw [if_neg c62] at H
                      have c62b0 : (a1.toList == ([114, 112, 114, 105, 118, 97, 116, 101] : List UInt8)) = false := beq_eq_false_iff_ne.mpr c62
                      have c62b1 : (a1.toList != ([114, 112, 114, 105, 118, 97, 116, 101] : List UInt8)) = true := bne_iff_ne.mpr c62
                      by_cases c63 : a1.toList = ([115, 104, 97, 114, 101, 100] : List UInt8)
                      · rw [if_pos c63] at H
                        have c63b0 : (a1.toList == ([115, 104, 97, 114, 101, 100] : List UInt8)) = true := beq_iff_eq.mpr c63
                        have c63b1 : (a1.toList != ([115, 104, 97, 114, 101, 100] : List UInt8)) = false := bne_eq_false_iff_eq.mpr c63
                        clear c63
                        have H' := Aside0.mk H
                        clear H
                        go_wp2
                        go_meet
                        case rel => exact ⟨_, ((a1.toList == ([115, 104, 97, 114, 101, 100] : List UInt8))), (by first | rfl | (simp; done) | (simp [*]; done)), H', ⟨by have := HJ3.out; have := HJ39.out; first | omega | exact Nat.le_refl _⟩, ⟨by (with_reducible repeat (first | refine blk_drewN ?_ _ | refine blk_drew ?_ | refine blk_alloc ?_ _)); exact BK115.out⟩, ⟨by (with_reducible repeat (first | refine blk_drewN ?_ _ | refine blk_drew ?_ | refine blk_alloc ?_ _)); exact BK116.out⟩, ⟨by repeat (first | (with_reducible first | exact HB.out | apply below_alloc | apply pw_below_drewN | apply below_drew1 | refine below_set ?_ GE115.out | refine below_set ?_ GE116.out) | exact HB.out)⟩⟩
                      · rw [if_neg c63] at H
                        have c63b0 : (a1.toList == ([115, 104, 97, 114, 101, 100] : List UInt8)) = false := beq_eq_false_iff_ne.mpr c63
                        have c63b1 : (a1.toList != ([115, 104, 97, 114, 101, 100] : List UInt8)) = true := bne_iff_ne.mpr c63
                        by_cases c64 : a1.toList = ([114, 115, 104, 97, 114, 101, 100] : List UInt8)
                        · rw [if_pos c64] at H
                          have c64b0 : (a1.toList == ([114, 115, 104, 97, 114, 101, 100] : List UInt8)) = true := beq_iff_eq.mpr c64
                          have c64b1 : (a1.toList != ([114, 115, 104, 97, 114, 101, 100] : List UInt8)) = false := bne_eq_false_iff_eq.mpr c64
                          clear c64
                          have H' := Aside0.mk H
                          clear H
                          go_wp2
                          go_meet
                          case rel => exact ⟨_, ((a1.toList == ([114, 115, 104, 97, 114, 101, 100] : List UInt8))), (by first | rfl | (simp; done) | (simp [*]; done)), H', ⟨by have := HJ3.out; have := HJ39.out; first | omega | exact Nat.le_refl _⟩, ⟨by (with_reducible repeat (first | refine blk_drewN ?_ _ | refine blk_drew ?_ | refine blk_alloc ?_ _)); exact BK115.out⟩, ⟨by (with_reducible repeat (first | refine blk_drewN ?_ _ | refine blk_drew ?_ | refine blk_alloc ?_ _)); exact BK116.out⟩, ⟨by repeat (first | (with_reducible first | exact HB.out | apply below_alloc | apply pw_below_drewN | apply below_drew1 | refine below_set ?_ GE115.out | refine below_set ?_ GE116.out) | exact HB.out)⟩⟩
                        · rw [if_neg c64] at H
                          have c64b0 : (a1.toList == ([114, 115, 104, 97, 114, 101, 100] : List UInt8)) = false := beq_eq_false_iff_ne.mpr c64
                          have c64b1 : (a1.toList != ([114, 115, 104, 97, 114, 101, 100] : List UInt8)) = true := bne_iff_ne.mpr c64
                          by_cases c65 : a1.toList = ([115, 108, 97, 118, 101] : List UInt8)
                          · rw [if_pos c65] at H
                            have c65b0 : (a1.toList == ([115, 108, 97, 118, 101] : List UInt8)) = true := beq_iff_eq.mpr c65
                            have c65b1 : (a1.toList != ([115, 108, 97, 118, 101] : List UInt8)) = false := bne_eq_false_iff_eq.mpr c65
                            clear c65
                            have H' := Aside0.mk H
                            clear H
                            go_wp2
                            go_meet
                            case rel => exact ⟨_, ((a1.toList == ([115, 108, 97, 118, 101] : List UInt8))), (by first | rfl | (simp; done) | (simp [*]; done)), H', ⟨by have := HJ3.out; have := HJ39.out; first | omega | exact Nat.le_refl _⟩, ⟨by (with_reducible repeat (first | refine blk_drewN ?_ _ | refine blk_drew ?_ | refine blk_alloc ?_ _)); exact BK115.out⟩, ⟨by (with_reducible repeat (first | refine blk_drewN ?_ _ | refine blk_drew ?_ | refine blk_alloc ?_ _)); exact BK116.out⟩, ⟨by repeat (first | (with_reducible first | exact HB.out | apply below_alloc | apply pw_below_drewN | apply below_drew1 | refine below_set ?_ GE115.out | refine below_set ?_ GE116.out) | exact HB.out)⟩⟩
                          · rw [if_neg c65] at H
                            have c65b0 : (a1.toList == ([115, 108, 97, 118, 101] : List UInt8)) = false := beq_eq_false_iff_ne.mpr c65
                            have c65b1 : (a1.toList != ([115, 108, 97, 118, 101] : List UInt8)) = true := bne_iff_ne.mpr c65
                            have H' := Aside0.mk H
                            clear H
                            go_wp2
                            go_meet
                            case rel => exact ⟨_, ((a1.toList == ([114, 115, 108, 97, 118, 101] : List UInt8))), (by first | rfl | (simp; done) | (simp [*]; done)), H', ⟨by have := HJ3.out; have := HJ39.out; first | omega | exact Nat.le_refl _⟩, ⟨by (with_reducible repeat (first | refine blk_drewN ?_ _ | refine blk_drew ?_ | refine blk_alloc ?_ _)); exact BK115.out⟩, ⟨by (with_reducible repeat (first | refine blk_drewN ?_ _ | refine blk_drew ?_ | refine blk_alloc ?_ _)); exact BK116.out⟩, ⟨by repeat (first | (with_reducible first | exact HB.out | apply below_alloc | apply pw_below_drewN | apply below_drew1 | refine below_set ?_ GE115.out | refine below_set ?_ GE116.out) | exact HB.out)⟩⟩
                case rest =>
                  clear HC60
                  try clear c1
                  try clear c2
                  try clear p2
                  try clear c3
                  try clear c4
                  try clear c5
                  try clear c6
                  try clear c7
                  try clear c7b0
                  try clear c7b1
                  try clear c8
                  try clear c10
                  try clear c15
                  try clear c19
                  try clear c22
                  try clear c22b0
                  try clear c22b1
                  try clear c23
                  try clear c23b0
                  try clear c23b1
                  try clear c25
                  try clear c37
                  try clear c41
                  try clear c41b0
                  try clear c41b1
                  try clear c42
                  try clear c43
                  try clear c43b0
                  try clear c43b1
                  try clear c45
                  try clear c57
                  try clear c61
                  try clear c61b0
                  try clear c61b1
                  try clear c62
                  try clear c62b0
                  try clear c62b1
                  try clear c63
                  try clear c63b0
                  try clear c63b1
                  try clear c64
                  try clear c64b0
                  try clear c64b1
                  try clear c65
                  try clear c65b0
                  try clear c65b1
                  try clear hcz11_0
                  try clear hcz11_1
                  try clear hcz11_2
                  try clear hcz11_3
                  try clear hcz11_4
                  try clear hcz11_5
                  try clear hcz11_6
                  try clear hcz11_7
                  try clear hcz26_0
                  try clear hcz26_1
                  try clear hcz26_2
                  try clear hcz26_3
                  try clear hcz26_4
                  try clear hcz26_5
                  try clear hcz26_6
                  try clear hcz26_7
                  try clear hcz38_0
                  try clear hcz38_1
                  try clear hcz38_2
                  try clear hcz38_3
                  try clear hcz38_4
                  try clear hcz38_5
                  try clear hcz38_6
                  try clear hcz38_7
                  try clear hcz39_0
                  try clear hcz39_1
                  try clear hcz39_2
                  try clear hcz39_3
                  try clear hcz39_4
                  try clear hcz39_5
                  try clear hcz39_6
                  try clear hcz39_7
                  try clear hcz46_0
                  try clear hcz46_1
                  try clear hcz46_2
                  try clear hcz46_3
                  try clear hcz46_4
                  try clear hcz46_5
                  try clear hcz46_6
                  try clear hcz46_7
                  try clear hcz58_0
                  try clear hcz58_1
                  try clear hcz58_2
                  try clear hcz58_3
                  try clear hcz58_4
                  try clear hcz58_5
                  try clear hcz58_6
                  try clear hcz58_7
                  try clear hcz59_0
                  try clear hcz59_1
                  try clear hcz59_2
                  try clear hcz59_3
                  try clear hcz59_4
                  try clear hcz59_5
                  try clear hcz59_6
                  try clear hcz59_7
                  try clear hfz11_0
                  try clear hfz11_1
                  try clear hfz11_2
                  try clear hfz11_3
                  try clear hfz11_4
                  try clear hfz11_5
                  try clear hfz11_6
                  try clear hfz11_7
                  try clear hfz26_0
                  try clear hfz26_1
                  try clear hfz26_2
                  try clear hfz26_3
                  try clear hfz26_4
                  try clear hfz26_5
                  try clear hfz26_6
                  try clear hfz26_7
                  try clear hfz38_0
                  try clear hfz38_1
                  try clear hfz38_2
                  try clear hfz38_3
                  try clear hfz38_4
                  try clear hfz38_5
                  try clear hfz38_6
                  try clear hfz38_7
                  try clear hfz39_0
                  try clear hfz39_1
                  try clear hfz39_2
                  try clear hfz39_3
                  try clear hfz39_4
                  try clear hfz39_5
                  try clear hfz39_6
                  try clear hfz39_7
                  try clear hfz46_0
                  try clear hfz46_1
                  try clear hfz46_2
                  try clear hfz46_3
                  try clear hfz46_4
                  try clear hfz46_5
                  try clear hfz46_6
                  try clear hfz46_7
                  try clear hfz58_0
                  try clear hfz58_1
                  try clear hfz58_2
                  try clear hfz58_3
                  try clear hfz58_4
                  try clear hfz58_5
                  try clear hfz58_6
                  try clear hfz58_7
                  try clear hfz59_0
                  try clear hfz59_1
                  try clear hfz59_2
                  try clear hfz59_3
                  try clear hfz59_4
                  try clear hfz59_5
                  try clear hfz59_6
                  try clear hfz59_7
                  try clear p2
                  obtain ⟨kq, x38_59, rfl, HA, HJ59, BK115, BK116, HB⟩ := hcut
                  cases kq with
                  | zero => exact absurd HA.out (by simp [spec_shortMode.j2])
                  | succ kj59 =>
                    have H := HA.out
                    clear HA
                    simp only [spec_shortMode.j2] at H
                    by_cases c66 : x38_59 = true
                    · subst c66
                      have H1 : (if a0_0.toList = ([98, 105, 110, 100] : List UInt8) then ((spec_mapsIn.f kj59 l2 (⟨#[115, 104, 97, 114, 101, 100]⟩ : ByteArray)).bind fun t120 => (some (a0_0, a0_1, a0_2, a1, a0_4, a0_5, a0_6, a0_7, (⟨#[115, 104, 97, 114, 101, 100]⟩ : ByteArray), !t120))) else (some (a0_0, a0_1, a0_2, a1, a0_4, a0_5, a0_6, a0_7, (⟨#[115, 104, 97, 114, 101, 100]⟩ : ByteArray), false))) = some (r1, r2, r3, r4, r5, r6, r7, r8, r9, r10) := by rw [if_pos rfl] at H; exact H
                      clear H
                      have H := H1
                      clear H1
                      by_cases c67 : a0_0.toList = ([98, 105, 110, 100] : List UInt8)
                      · rw [if_pos c67] at H
                        have c67b0 : (a0_0.toList == ([98, 105, 110, 100] : List UInt8)) = true := beq_iff_eq.mpr c67
                        have c67b1 : (a0_0.toList != ([98, 105, 110, 100] : List UInt8)) = false := bne_eq_false_iff_eq.mpr c67
                        clear c67
                        replace H := Option.bind_eq_some_iff.mp H
                        obtain ⟨t120, A680, H⟩ := H
                        replace H : (some (a0_0, a0_1, a0_2, a1, a0_4, a0_5, a0_6, a0_7, (⟨#[115, 104, 97, 114, 101, 100]⟩ : ByteArray), !t120)) = some (r1, r2, r3, r4, r5, r6, r7, r8, r9, r10) := H
                        have A68 := Aside0.mk A680
                        clear A680
                        simp only [Option.some.injEq, Prod.mk.injEq] at H
                        obtain ⟨rfl, rfl, rfl, rfl, rfl, rfl, rfl, rfl, rfl, rfl⟩ := H
                        have hnb69 := NB115_116.out
                        have hnc69 := NB116_115.out
                        have hcz70_0 : wc.cell? ⟨gb115, 0, none⟩ = some (.string a0_0) := (blk_cell BK115.out 0).trans rfl
                        have hcz70_1 : wc.cell? ⟨gb115, 1, none⟩ = some (.string a0_1) := (blk_cell BK115.out 1).trans rfl
                        have hcz70_2 : wc.cell? ⟨gb115, 2, none⟩ = some (.string a0_2) := (blk_cell BK115.out 2).trans rfl
                        have hcz70_3 : wc.cell? ⟨gb115, 3, none⟩ = some (.string a0_3) := (blk_cell BK115.out 3).trans rfl
                        have hcz70_4 : wc.cell? ⟨gb115, 4, none⟩ = some (.string a0_4) := (blk_cell BK115.out 4).trans rfl
                        have hcz70_5 : wc.cell? ⟨gb115, 5, none⟩ = some (.bool a0_5) := (blk_cell BK115.out 5).trans rfl
                        have hcz70_6 : wc.cell? ⟨gb115, 6, none⟩ = some (.bool a0_6) := (blk_cell BK115.out 6).trans rfl
                        have hcz70_7 : wc.cell? ⟨gb115, 7, none⟩ = some (.bool a0_7) := (blk_cell BK115.out 7).trans rfl
                        have hfz70_0 := blk_frozen BK115.out 0
                        have hfz70_1 := blk_frozen BK115.out 1
                        have hfz70_2 := blk_frozen BK115.out 2
                        have hfz70_3 := blk_frozen BK115.out 3
                        have hfz70_4 := blk_frozen BK115.out 4
                        have hfz70_5 := blk_frozen BK115.out 5
                        have hfz70_6 := blk_frozen BK115.out 6
                        have hfz70_7 := blk_frozen BK115.out 7
                        try go_wp2
                        have n0_ : Aside0 ((wc.setCell ⟨gb115, 3, none⟩ (.string a1)).heap[gb115]? = some (.cells #[.string a0_0, .string a0_1, .string a0_2, .string a1, .string a0_4, .bool a0_5, .bool a0_6, .bool a0_7] 25 (0, 0))) := ⟨by (with_reducible repeat (first | refine blk_drewN ?_ _ | refine blk_drew ?_ | refine blk_alloc ?_ _)); refine blk_put (cs := #[.string a0_0, .string a0_1, .string a0_2, .string a0_3, .string a0_4, .bool a0_5, .bool a0_6, .bool a0_7]) ?_ 3 _ rfl; (with_reducible repeat (first | refine blk_drewN ?_ _ | refine blk_drew ?_ | refine blk_alloc ?_ _)); exact BK115.out⟩
                        have n1_ : Aside0 ((wc.setCell ⟨gb115, 3, none⟩ (.string a1)).heap[gb116]? = some (.cells #[.string (⟨#[]⟩ : ByteArray), .string (⟨#[]⟩ : ByteArray), .string (⟨#[]⟩ : ByteArray), .string (⟨#[]⟩ : ByteArray), .string (⟨#[]⟩ : ByteArray), .bool false, .bool false, .bool false] 25 (0, 0))) := ⟨by (with_reducible repeat (first | refine blk_drewN ?_ _ | refine blk_drew ?_ | refine blk_alloc ?_ _)); refine blk_far ?_ NB116_115.out _; (with_reducible repeat (first | refine blk_drewN ?_ _ | refine blk_drew ?_ | refine blk_alloc ?_ _)); exact BK116.out⟩
                        have n2_ : Aside0 (Below w.heap.size w (wc.setCell ⟨gb115, 3, none⟩ (.string a1))) := ⟨by repeat (first | (with_reducible first | exact HB.out | apply below_alloc | apply pw_below_drewN | apply below_drew1 | refine below_set ?_ GE115.out | refine below_set ?_ GE116.out) | exact HB.out)⟩
                        (try clear BK115)
                        (try clear BK116)
                        (try clear HB)
                        generalize (wc.setCell ⟨gb115, 3, none⟩ (.string a1)) = w71 at n0_ n1_ n2_ ⊢
                        have BK115 := n0_
                        have BK116 := n1_
                        have HB := n2_
                        clear n0_ n1_ n2_
                        have n0_ := Aside0.mk (blk_drew BK115.out)
                        have n1_ := Aside0.mk (blk_drew BK116.out)
                        have n2_ := Aside0.mk (below_drew1 HB.out)
                        clear BK115
                        clear BK116
                        clear HB
                        have BK115 := n0_
                        have BK116 := n1_
                        have HB := n2_
                        clear n0_ n1_ n2_
                        refine start_ (n := 9) (S := fun w' => w'.cell? ⟨gb115, 0, none⟩ = some (.string a0_0) ∧ w'.cell? ⟨gb115, 1, none⟩ = some (.string a0_1) ∧ w'.cell? ⟨gb115, 2, none⟩ = some (.string a0_2) ∧ w'.cell? ⟨gb115, 3, none⟩ = some (.string a1) ∧ w'.cell? ⟨gb115, 4, none⟩ = some (.string a0_4) ∧ w'.cell? ⟨gb115, 5, none⟩ = some (.bool a0_5) ∧ w'.cell? ⟨gb115, 6, none⟩ = some (.bool a0_6) ∧ w'.cell? ⟨gb115, 7, none⟩ = some (.bool a0_7)) (ds := []) #[false, false, false, false, false, false, false, false, false] (by kernel_rfl) rfl rfl ⟨(blk_cell BK115.out 0).trans rfl, (blk_cell BK115.out 1).trans rfl, (blk_cell BK115.out 2).trans rfl, (blk_cell BK115.out 3).trans rfl, (blk_cell BK115.out 4).trans rfl, (blk_cell BK115.out 5).trans rfl, (blk_cell BK115.out 6).trans rfl, (blk_cell BK115.out 7).trans rfl⟩ (fun hHeld => ?_); refine with_tabW spec_shortMode.tab28 spec_shortMode.bits28 (fun HT_ HW_ => ?_)
                        generalize w71.drew = w72 at BK115 BK116 HB hHeld ⊢
                        refine pure_ (i := 1) (N := some 53) (v := ?_) (a' := ?_) #[false, true, false, false, false, false, false, false, false] rfl rfl (any_of HT_.out (by kernel_rfl)) (fun _ _ _ h => h) (Or.inl ⟨by rfl, ?_⟩) ?_ ?_
                        rotate_left
                        · intro w'
                          go_simp
                          with_reducible rfl
                        rotate_left
                        · simp only [Act.put, List.setIfInBounds_toArray, List.set_cons_zero, List.set_cons_succ, i64_w, i32_w]
                          rfl
                        refine pure_ (i := 2) (N := some 54) (v := ?_) (a' := ?_) #[false, true, true, false, false, false, false, false, false] rfl rfl (any_of HT_.out (by kernel_rfl)) (fun _ _ _ h => h) (Or.inl ⟨by rfl, ?_⟩) ?_ ?_
                        rotate_left
                        · intro w'
                          go_simp
                          with_reducible rfl
                        rotate_left
                        · simp only [Act.put, List.setIfInBounds_toArray, List.set_cons_zero, List.set_cons_succ, i64_w, i32_w]
                          rfl
                        refine pure_ (i := 3) (N := some 55) (v := ?_) (a' := ?_) #[false, true, true, true, false, false, false, false, false] rfl rfl (any_of HT_.out (by kernel_rfl)) (fun _ _ _ h => h) (Or.inl ⟨by rfl, ?_⟩) ?_ ?_
                        rotate_left
                        · intro w'
                          go_simp
                          with_reducible rfl
                        rotate_left
                        · simp only [Act.put, List.setIfInBounds_toArray, List.set_cons_zero, List.set_cons_succ, i64_w, i32_w]
                          rfl
                        refine take_ (i := 0) (N := some 52) (v := ?_) (a' := ?_) #[true, true, true, true, false, false, false, false, false] rfl rfl (take_ofW HT_.out HW_.out (by kernel_rfl)) (fun _ _ _ h => h) (Or.inl ⟨by rfl, ?_⟩) hHeld ?_ ?_
                        rotate_left
                        · rintro w' ⟨s0, s1, s2, s3, s4, s5, s6, s7⟩
                          go_simp
                          with_reducible rfl
                        rotate_left
                        · simp only [Act.put, List.setIfInBounds_toArray, List.set_cons_zero, List.set_cons_succ, i64_w, i32_w]
                          rfl
                        refine one_ (i := 4) (N := some 56) #[true, true, true, true, true, false, false, false, false] rfl rfl (one_of HT_.out (by kernel_rfl)) (by decide) (fun K hK => ?_)
                        refine goes_ Tryd.func19 (by kernel_rfl) rfl #[.slice A2 l2.length c2, .string (⟨#[115, 104, 97, 114, 101, 100]⟩ : ByteArray)] (by rfl) rfl rfl (by (try simp only [List.map_toArray, List.map_cons, List.map_nil]); first | done | rfl | (simp only [List.length_drop, List.length_take]; rfl)) ?_
                        with_reducible refine (spec_mapsIn.calls kj59 _ _ l2 (⟨#[115, 104, 97, 114, 101, 100]⟩ : ByteArray) t120 _ ?side1 ?side2 A68.out).mono ?_
                        (case side1 => repeat (first | exact (Kd.C_below HR2.out HB.out) | (with_reducible refine Kd.C_alloc ?_ _) | (with_reducible refine Kd.C_drewN ?_ _) | (with_reducible refine Kd.C_drew ?_)))
                        (case side2 => exact HC2.out)
                        rintro e w' ⟨rfl, ⟨nd, rfl⟩⟩
                        refine ⟨_, rfl, ?_⟩
                        refine hK.out _ _ ⟨(blk_cell BK115.out 0).trans rfl, (blk_cell BK115.out 1).trans rfl, (blk_cell BK115.out 2).trans rfl, (blk_cell BK115.out 3).trans rfl, (blk_cell BK115.out 4).trans rfl, (blk_cell BK115.out 5).trans rfl, (blk_cell BK115.out 6).trans rfl, (blk_cell BK115.out 7).trans rfl⟩ (fun hHeld => ?_)
                        clear hK K
                        refine norm_ (a' := ?_) ?_ ?_
                        rotate_left
                        · show Act.put _ (some 56) _ = _
                          simp only [Act.put, List.setIfInBounds_toArray, List.set_cons_zero, List.set_cons_succ, i64_w, i32_w]
                          rfl
                        refine pure_ (i := 5) (N := some 57) (v := ?_) (a' := ?_) #[true, true, true, true, true, true, false, false, false] rfl rfl (any_of HT_.out (by kernel_rfl)) (fun _ _ _ h => h) (Or.inl ⟨by rfl, ?_⟩) ?_ ?_
                        rotate_left
                        · intro w'
                          go_simp
                          with_reducible rfl
                        rotate_left
                        · simp only [Act.put, List.setIfInBounds_toArray, List.set_cons_zero, List.set_cons_succ, i64_w, i32_w]
                          rfl
                        refine one_ (i := 6) (N := none) #[true, true, true, true, true, true, true, false, false] rfl rfl (one_of HT_.out (by kernel_rfl)) (by decide) (fun K hK => ?_)
                        have hs73 : w72.cell? ⟨gb116, 0, none⟩ = some (.string (⟨#[]⟩ : ByteArray)) := (blk_cell BK116.out 0).trans rfl
                        have hfs73 := blk_frozen BK116.out 0
                        have hns73_0 := NB115_116.out
                        have hms73_0 := NB116_115.out
                        have hs74 : w72.cell? ⟨gb116, 1, none⟩ = some (.string (⟨#[]⟩ : ByteArray)) := (blk_cell BK116.out 1).trans rfl
                        have hfs74 := blk_frozen BK116.out 1
                        have hns74_0 := NB115_116.out
                        have hms74_0 := NB116_115.out
                        have hs75 : w72.cell? ⟨gb116, 2, none⟩ = some (.string (⟨#[]⟩ : ByteArray)) := (blk_cell BK116.out 2).trans rfl
                        have hfs75 := blk_frozen BK116.out 2
                        have hns75_0 := NB115_116.out
                        have hms75_0 := NB116_115.out
                        have hs76 : w72.cell? ⟨gb116, 3, none⟩ = some (.string (⟨#[]⟩ : ByteArray)) := (blk_cell BK116.out 3).trans rfl
                        have hfs76 := blk_frozen BK116.out 3
                        have hns76_0 := NB115_116.out
                        have hms76_0 := NB116_115.out
                        have hs77 : w72.cell? ⟨gb116, 4, none⟩ = some (.string (⟨#[]⟩ : ByteArray)) := (blk_cell BK116.out 4).trans rfl
                        have hfs77 := blk_frozen BK116.out 4
                        have hns77_0 := NB115_116.out
                        have hms77_0 := NB116_115.out
                        have hs78 : w72.cell? ⟨gb116, 5, none⟩ = some (.bool false) := (blk_cell BK116.out 5).trans rfl
                        have hfs78 := blk_frozen BK116.out 5
                        have hns78_0 := NB115_116.out
                        have hms78_0 := NB116_115.out
                        have hs79 : w72.cell? ⟨gb116, 6, none⟩ = some (.bool false) := (blk_cell BK116.out 6).trans rfl
                        have hfs79 := blk_frozen BK116.out 6
                        have hns79_0 := NB115_116.out
                        have hms79_0 := NB116_115.out
                        have hs80 : w72.cell? ⟨gb116, 7, none⟩ = some (.bool false) := (blk_cell BK116.out 7).trans rfl
                        have hfs80 := blk_frozen BK116.out 7
                        have hns80_0 := NB115_116.out
                        have hms80_0 := NB116_115.out
                        refine skip_ (w1 := ?_) (by rfl) rfl ?_ ?_
                        rotate_left
                        · go_simp
                          rfl
                        refine hK.out _ _ ⟨((cell_far (p := ⟨gb116, _, none⟩) NB115_116.out _).trans (((cell_far (p := ⟨gb116, _, none⟩) NB115_116.out _).trans (((cell_far (p := ⟨gb116, _, none⟩) NB115_116.out _).trans (((cell_far (p := ⟨gb116, _, none⟩) NB115_116.out _).trans (((cell_far (p := ⟨gb116, _, none⟩) NB115_116.out _).trans (((cell_far (p := ⟨gb116, _, none⟩) NB115_116.out _).trans (((cell_far (p := ⟨gb116, _, none⟩) NB115_116.out _).trans (((cell_far (p := ⟨gb116, _, none⟩) NB115_116.out _).trans (hHeld.1)))))))))))))))), ((cell_far (p := ⟨gb116, _, none⟩) NB115_116.out _).trans (((cell_far (p := ⟨gb116, _, none⟩) NB115_116.out _).trans (((cell_far (p := ⟨gb116, _, none⟩) NB115_116.out _).trans (((cell_far (p := ⟨gb116, _, none⟩) NB115_116.out _).trans (((cell_far (p := ⟨gb116, _, none⟩) NB115_116.out _).trans (((cell_far (p := ⟨gb116, _, none⟩) NB115_116.out _).trans (((cell_far (p := ⟨gb116, _, none⟩) NB115_116.out _).trans (((cell_far (p := ⟨gb116, _, none⟩) NB115_116.out _).trans (hHeld.2.1)))))))))))))))), ((cell_far (p := ⟨gb116, _, none⟩) NB115_116.out _).trans (((cell_far (p := ⟨gb116, _, none⟩) NB115_116.out _).trans (((cell_far (p := ⟨gb116, _, none⟩) NB115_116.out _).trans (((cell_far (p := ⟨gb116, _, none⟩) NB115_116.out _).trans (((cell_far (p := ⟨gb116, _, none⟩) NB115_116.out _).trans (((cell_far (p := ⟨gb116, _, none⟩) NB115_116.out _).trans (((cell_far (p := ⟨gb116, _, none⟩) NB115_116.out _).trans (((cell_far (p := ⟨gb116, _, none⟩) NB115_116.out _).trans (hHeld.2.2.1)))))))))))))))), ((cell_far (p := ⟨gb116, _, none⟩) NB115_116.out _).trans (((cell_far (p := ⟨gb116, _, none⟩) NB115_116.out _).trans (((cell_far (p := ⟨gb116, _, none⟩) NB115_116.out _).trans (((cell_far (p := ⟨gb116, _, none⟩) NB115_116.out _).trans (((cell_far (p := ⟨gb116, _, none⟩) NB115_116.out _).trans (((cell_far (p := ⟨gb116, _, none⟩) NB115_116.out _).trans (((cell_far (p := ⟨gb116, _, none⟩) NB115_116.out _).trans (((cell_far (p := ⟨gb116, _, none⟩) NB115_116.out _).trans (hHeld.2.2.2.1)))))))))))))))), ((cell_far (p := ⟨gb116, _, none⟩) NB115_116.out _).trans (((cell_far (p := ⟨gb116, _, none⟩) NB115_116.out _).trans (((cell_far (p := ⟨gb116, _, none⟩) NB115_116.out _).trans (((cell_far (p := ⟨gb116, _, none⟩) NB115_116.out _).trans (((cell_far (p := ⟨gb116, _, none⟩) NB115_116.out _).trans (((cell_far (p := ⟨gb116, _, none⟩) NB115_116.out _).trans (((cell_far (p := ⟨gb116, _, none⟩) NB115_116.out _).trans (((cell_far (p := ⟨gb116, _, none⟩) NB115_116.out _).trans (hHeld.2.2.2.2.1)))))))))))))))), ((cell_far (p := ⟨gb116, _, none⟩) NB115_116.out _).trans (((cell_far (p := ⟨gb116, _, none⟩) NB115_116.out _).trans (((cell_far (p := ⟨gb116, _, none⟩) NB115_116.out _).trans (((cell_far (p := ⟨gb116, _, none⟩) NB115_116.out _).trans (((cell_far (p := ⟨gb116, _, none⟩) NB115_116.out _).trans (((cell_far (p := ⟨gb116, _, none⟩) NB115_116.out _).trans (((cell_far (p := ⟨gb116, _, none⟩) NB115_116.out _).trans (((cell_far (p := ⟨gb116, _, none⟩) NB115_116.out _).trans (hHeld.2.2.2.2.2.1)))))))))))))))), ((cell_far (p := ⟨gb116, _, none⟩) NB115_116.out _).trans (((cell_far (p := ⟨gb116, _, none⟩) NB115_116.out _).trans (((cell_far (p := ⟨gb116, _, none⟩) NB115_116.out _).trans (((cell_far (p := ⟨gb116, _, none⟩) NB115_116.out _).trans (((cell_far (p := ⟨gb116, _, none⟩) NB115_116.out _).trans (((cell_far (p := ⟨gb116, _, none⟩) NB115_116.out _).trans (((cell_far (p := ⟨gb116, _, none⟩) NB115_116.out _).trans (((cell_far (p := ⟨gb116, _, none⟩) NB115_116.out _).trans (hHeld.2.2.2.2.2.2.1)))))))))))))))), ((cell_far (p := ⟨gb116, _, none⟩) NB115_116.out _).trans (((cell_far (p := ⟨gb116, _, none⟩) NB115_116.out _).trans (((cell_far (p := ⟨gb116, _, none⟩) NB115_116.out _).trans (((cell_far (p := ⟨gb116, _, none⟩) NB115_116.out _).trans (((cell_far (p := ⟨gb116, _, none⟩) NB115_116.out _).trans (((cell_far (p := ⟨gb116, _, none⟩) NB115_116.out _).trans (((cell_far (p := ⟨gb116, _, none⟩) NB115_116.out _).trans (((cell_far (p := ⟨gb116, _, none⟩) NB115_116.out _).trans (hHeld.2.2.2.2.2.2.2))))))))))))))))⟩ (fun hHeld => ?_)
                        clear hK K
                        refine pure_ (i := 7) (N := some 7) (v := ?_) (a' := ?_) #[true, true, true, true, true, true, true, true, false] rfl rfl (any_of HT_.out (by kernel_rfl)) (fun _ _ _ h => h) (Or.inl ⟨by rfl, ?_⟩) ?_ ?_
                        rotate_left
                        · intro w'
                          go_simp
                          with_reducible rfl
                        rotate_left
                        · simp only [Act.put, List.setIfInBounds_toArray, List.set_cons_zero, List.set_cons_succ, i64_w, i32_w]
                          rfl
                        refine pure_ (i := 8) (N := some 8) (v := ?_) (a' := ?_) #[true, true, true, true, true, true, true, true, true] rfl rfl (any_of HT_.out (by kernel_rfl)) (fun _ _ _ h => h) (Or.inl ⟨by rfl, ?_⟩) ?_ ?_
                        rotate_left
                        · intro w'
                          go_simp
                          with_reducible rfl
                        rotate_left
                        · simp only [Act.put, List.setIfInBounds_toArray, List.set_cons_zero, List.set_cons_succ, i64_w, i32_w]
                          rfl
                        refine done_ (done_of HT_.out (by kernel_rfl)) ?_
                        try go_wp2
                        refine bodyPost_ret (results_ctt rfl _ _ gb116 25 #[.string a0_0, .string a0_1, .string a0_2, .string a1, .string a0_4, .bool a0_5, .bool a0_6, .bool a0_7] (0, 0) _ rfl (by (with_reducible repeat (first | refine blk_drewN ?_ _ | refine blk_drew ?_ | refine blk_alloc ?_ _)); refine blk_put (cs := #[.string a0_0, .string a0_1, .string a0_2, .string a1, .string a0_4, .bool a0_5, .bool a0_6, .bool false]) ?_ 7 _ rfl; (with_reducible repeat (first | refine blk_drewN ?_ _ | refine blk_drew ?_ | refine blk_alloc ?_ _)); refine blk_put (cs := #[.string a0_0, .string a0_1, .string a0_2, .string a1, .string a0_4, .bool a0_5, .bool false, .bool false]) ?_ 6 _ rfl; (with_reducible repeat (first | refine blk_drewN ?_ _ | refine blk_drew ?_ | refine blk_alloc ?_ _)); refine blk_put (cs := #[.string a0_0, .string a0_1, .string a0_2, .string a1, .string a0_4, .bool false, .bool false, .bool false]) ?_ 5 _ rfl; (with_reducible repeat (first | refine blk_drewN ?_ _ | refine blk_drew ?_ | refine blk_alloc ?_ _)); refine blk_put (cs := #[.string a0_0, .string a0_1, .string a0_2, .string a1, .string (⟨#[]⟩ : ByteArray), .bool false, .bool false, .bool false]) ?_ 4 _ rfl; (with_reducible repeat (first | refine blk_drewN ?_ _ | refine blk_drew ?_ | refine blk_alloc ?_ _)); refine blk_put (cs := #[.string a0_0, .string a0_1, .string a0_2, .string (⟨#[]⟩ : ByteArray), .string (⟨#[]⟩ : ByteArray), .bool false, .bool false, .bool false]) ?_ 3 _ rfl; (with_reducible repeat (first | refine blk_drewN ?_ _ | refine blk_drew ?_ | refine blk_alloc ?_ _)); refine blk_put (cs := #[.string a0_0, .string a0_1, .string (⟨#[]⟩ : ByteArray), .string (⟨#[]⟩ : ByteArray), .string (⟨#[]⟩ : ByteArray), .bool false, .bool false, .bool false]) ?_ 2 _ rfl; (with_reducible repeat (first | refine blk_drewN ?_ _ | refine blk_drew ?_ | refine blk_alloc ?_ _)); refine blk_put (cs := #[.string a0_0, .string (⟨#[]⟩ : ByteArray), .string (⟨#[]⟩ : ByteArray), .string (⟨#[]⟩ : ByteArray), .string (⟨#[]⟩ : ByteArray), .bool false, .bool false, .bool false]) ?_ 1 _ rfl; (with_reducible repeat (first | refine blk_drewN ?_ _ | refine blk_drew ?_ | refine blk_alloc ?_ _)); refine blk_put (cs := #[.string (⟨#[]⟩ : ByteArray), .string (⟨#[]⟩ : ByteArray), .string (⟨#[]⟩ : ByteArray), .string (⟨#[]⟩ : ByteArray), .string (⟨#[]⟩ : ByteArray), .bool false, .bool false, .bool false]) ?_ 0 _ rfl; (with_reducible repeat (first | refine blk_drewN ?_ _ | refine blk_drew ?_ | refine blk_alloc ?_ _)); exact BK116.out) Tryd.underlying25 rfl (by kernel_rfl)) rfl ?_
                        exact ⟨by first | rfl | (simp [errW_none, errW_some] <;> rfl) | (simp [*, errW_none, errW_some] <;> rfl), by repeat (first | (with_reducible first | exact HB.out | apply below_alloc | apply pw_below_drewN | apply below_drew1 | refine below_set ?_ GE115.out | refine below_set ?_ GE116.out) | exact HB.out)⟩
                      · rw [if_neg c67] at H
                        have c67b0 : (a0_0.toList == ([98, 105, 110, 100] : List UInt8)) = false := beq_eq_false_iff_ne.mpr c67
                        have c67b1 : (a0_0.toList != ([98, 105, 110, 100] : List UInt8)) = true := bne_iff_ne.mpr c67
                        simp only [Option.some.injEq, Prod.mk.injEq] at H
                        obtain ⟨rfl, rfl, rfl, rfl, rfl, rfl, rfl, rfl, rfl, rfl⟩ := H
                        have hnb81 := NB115_116.out
                        have hnc81 := NB116_115.out
                        have hcz82_0 : wc.cell? ⟨gb115, 0, none⟩ = some (.string a0_0) := (blk_cell BK115.out 0).trans rfl
                        have hcz82_1 : wc.cell? ⟨gb115, 1, none⟩ = some (.string a0_1) := (blk_cell BK115.out 1).trans rfl
                        have hcz82_2 : wc.cell? ⟨gb115, 2, none⟩ = some (.string a0_2) := (blk_cell BK115.out 2).trans rfl
                        have hcz82_3 : wc.cell? ⟨gb115, 3, none⟩ = some (.string a0_3) := (blk_cell BK115.out 3).trans rfl
                        have hcz82_4 : wc.cell? ⟨gb115, 4, none⟩ = some (.string a0_4) := (blk_cell BK115.out 4).trans rfl
                        have hcz82_5 : wc.cell? ⟨gb115, 5, none⟩ = some (.bool a0_5) := (blk_cell BK115.out 5).trans rfl
                        have hcz82_6 : wc.cell? ⟨gb115, 6, none⟩ = some (.bool a0_6) := (blk_cell BK115.out 6).trans rfl
                        have hcz82_7 : wc.cell? ⟨gb115, 7, none⟩ = some (.bool a0_7) := (blk_cell BK115.out 7).trans rfl
                        have hfz82_0 := blk_frozen BK115.out 0
                        have hfz82_1 := blk_frozen BK115.out 1
                        have hfz82_2 := blk_frozen BK115.out 2
                        have hfz82_3 := blk_frozen BK115.out 3
                        have hfz82_4 := blk_frozen BK115.out 4
                        have hfz82_5 := blk_frozen BK115.out 5
                        have hfz82_6 := blk_frozen BK115.out 6
                        have hfz82_7 := blk_frozen BK115.out 7
                        have hcz83_0 : wc.cell? ⟨gb116, 0, none⟩ = some (.string (⟨#[]⟩ : ByteArray)) := (blk_cell BK116.out 0).trans rfl
                        have hcz83_1 : wc.cell? ⟨gb116, 1, none⟩ = some (.string (⟨#[]⟩ : ByteArray)) := (blk_cell BK116.out 1).trans rfl
                        have hcz83_2 : wc.cell? ⟨gb116, 2, none⟩ = some (.string (⟨#[]⟩ : ByteArray)) := (blk_cell BK116.out 2).trans rfl
                        have hcz83_3 : wc.cell? ⟨gb116, 3, none⟩ = some (.string (⟨#[]⟩ : ByteArray)) := (blk_cell BK116.out 3).trans rfl
                        have hcz83_4 : wc.cell? ⟨gb116, 4, none⟩ = some (.string (⟨#[]⟩ : ByteArray)) := (blk_cell BK116.out 4).trans rfl
                        have hcz83_5 : wc.cell? ⟨gb116, 5, none⟩ = some (.bool false) := (blk_cell BK116.out 5).trans rfl
                        have hcz83_6 : wc.cell? ⟨gb116, 6, none⟩ = some (.bool false) := (blk_cell BK116.out 6).trans rfl
                        have hcz83_7 : wc.cell? ⟨gb116, 7, none⟩ = some (.bool false) := (blk_cell BK116.out 7).trans rfl
                        have hfz83_0 := blk_frozen BK116.out 0
                        have hfz83_1 := blk_frozen BK116.out 1
                        have hfz83_2 := blk_frozen BK116.out 2
                        have hfz83_3 := blk_frozen BK116.out 3
                        have hfz83_4 := blk_frozen BK116.out 4
                        have hfz83_5 := blk_frozen BK116.out 5
                        have hfz83_6 := blk_frozen BK116.out 6
                        have hfz83_7 := blk_frozen BK116.out 7
                        go_wp2
                        refine bodyPost_ret (results_ctt rfl _ _ gb116 25 #[.string a0_0, .string a0_1, .string a0_2, .string a1, .string a0_4, .bool a0_5, .bool a0_6, .bool a0_7] (0, 0) _ rfl (by (with_reducible repeat (first | refine blk_drewN ?_ _ | refine blk_drew ?_ | refine blk_alloc ?_ _)); refine blk_put (cs := #[.string a0_0, .string a0_1, .string a0_2, .string a1, .string a0_4, .bool a0_5, .bool a0_6, .bool false]) ?_ 7 _ rfl; (with_reducible repeat (first | refine blk_drewN ?_ _ | refine blk_drew ?_ | refine blk_alloc ?_ _)); refine blk_put (cs := #[.string a0_0, .string a0_1, .string a0_2, .string a1, .string a0_4, .bool a0_5, .bool false, .bool false]) ?_ 6 _ rfl; (with_reducible repeat (first | refine blk_drewN ?_ _ | refine blk_drew ?_ | refine blk_alloc ?_ _)); refine blk_put (cs := #[.string a0_0, .string a0_1, .string a0_2, .string a1, .string a0_4, .bool false, .bool false, .bool false]) ?_ 5 _ rfl; (with_reducible repeat (first | refine blk_drewN ?_ _ | refine blk_drew ?_ | refine blk_alloc ?_ _)); refine blk_put (cs := #[.string a0_0, .string a0_1, .string a0_2, .string a1, .string (⟨#[]⟩ : ByteArray), .bool false, .bool false, .bool false]) ?_ 4 _ rfl; (with_reducible repeat (first | refine blk_drewN ?_ _ | refine blk_drew ?_ | refine blk_alloc ?_ _)); refine blk_put (cs := #[.string a0_0, .string a0_1, .string a0_2, .string (⟨#[]⟩ : ByteArray), .string (⟨#[]⟩ : ByteArray), .bool false, .bool false, .bool false]) ?_ 3 _ rfl; (with_reducible repeat (first | refine blk_drewN ?_ _ | refine blk_drew ?_ | refine blk_alloc ?_ _)); refine blk_put (cs := #[.string a0_0, .string a0_1, .string (⟨#[]⟩ : ByteArray), .string (⟨#[]⟩ : ByteArray), .string (⟨#[]⟩ : ByteArray), .bool false, .bool false, .bool false]) ?_ 2 _ rfl; (with_reducible repeat (first | refine blk_drewN ?_ _ | refine blk_drew ?_ | refine blk_alloc ?_ _)); refine blk_put (cs := #[.string a0_0, .string (⟨#[]⟩ : ByteArray), .string (⟨#[]⟩ : ByteArray), .string (⟨#[]⟩ : ByteArray), .string (⟨#[]⟩ : ByteArray), .bool false, .bool false, .bool false]) ?_ 1 _ rfl; (with_reducible repeat (first | refine blk_drewN ?_ _ | refine blk_drew ?_ | refine blk_alloc ?_ _)); refine blk_put (cs := #[.string (⟨#[]⟩ : ByteArray), .string (⟨#[]⟩ : ByteArray), .string (⟨#[]⟩ : ByteArray), .string (⟨#[]⟩ : ByteArray), .string (⟨#[]⟩ : ByteArray), .bool false, .bool false, .bool false]) ?_ 0 _ rfl; (with_reducible repeat (first | refine blk_drewN ?_ _ | refine blk_drew ?_ | refine blk_alloc ?_ _)); refine blk_far ?_ NB116_115.out _; (with_reducible repeat (first | refine blk_drewN ?_ _ | refine blk_drew ?_ | refine blk_alloc ?_ _)); exact BK116.out) Tryd.underlying25 rfl (by kernel_rfl)) rfl ?_
                        exact ⟨by first | rfl | (simp [errW_none, errW_some] <;> rfl) | (simp [*, errW_none, errW_some] <;> rfl), by repeat (first | (with_reducible first | exact HB.out | apply below_alloc | apply pw_below_drewN | apply below_drew1 | refine below_set ?_ GE115.out | refine below_set ?_ GE116.out) | exact HB.out)⟩
                    · replace c66 := Bool.eq_false_iff.mpr c66
                      subst c66
                      have H1 : (some (a0_0, a0_1, a0_2, a0_3, a0_4, a0_5, a0_6, a0_7, a1, false)) = some (r1, r2, r3, r4, r5, r6, r7, r8, r9, r10) := by rw [if_neg (show ¬ (false = true) by decide)] at H; exact H
                      clear H
                      have H := H1
                      clear H1
                      simp only [Option.some.injEq, Prod.mk.injEq] at H
                      obtain ⟨rfl, rfl, rfl, rfl, rfl, rfl, rfl, rfl, rfl, rfl⟩ := H
                      have hnb84 := NB115_116.out
                      have hnc84 := NB116_115.out
                      have hcz85_0 : wc.cell? ⟨gb115, 0, none⟩ = some (.string a0_0) := (blk_cell BK115.out 0).trans rfl
                      have hcz85_1 : wc.cell? ⟨gb115, 1, none⟩ = some (.string a0_1) := (blk_cell BK115.out 1).trans rfl
                      have hcz85_2 : wc.cell? ⟨gb115, 2, none⟩ = some (.string a0_2) := (blk_cell BK115.out 2).trans rfl
                      have hcz85_3 : wc.cell? ⟨gb115, 3, none⟩ = some (.string a0_3) := (blk_cell BK115.out 3).trans rfl
                      have hcz85_4 : wc.cell? ⟨gb115, 4, none⟩ = some (.string a0_4) := (blk_cell BK115.out 4).trans rfl
                      have hcz85_5 : wc.cell? ⟨gb115, 5, none⟩ = some (.bool a0_5) := (blk_cell BK115.out 5).trans rfl
                      have hcz85_6 : wc.cell? ⟨gb115, 6, none⟩ = some (.bool a0_6) := (blk_cell BK115.out 6).trans rfl
                      have hcz85_7 : wc.cell? ⟨gb115, 7, none⟩ = some (.bool a0_7) := (blk_cell BK115.out 7).trans rfl
                      have hfz85_0 := blk_frozen BK115.out 0
                      have hfz85_1 := blk_frozen BK115.out 1
                      have hfz85_2 := blk_frozen BK115.out 2
                      have hfz85_3 := blk_frozen BK115.out 3
                      have hfz85_4 := blk_frozen BK115.out 4
                      have hfz85_5 := blk_frozen BK115.out 5
                      have hfz85_6 := blk_frozen BK115.out 6
                      have hfz85_7 := blk_frozen BK115.out 7
                      have hcz86_0 : wc.cell? ⟨gb116, 0, none⟩ = some (.string (⟨#[]⟩ : ByteArray)) := (blk_cell BK116.out 0).trans rfl
                      have hcz86_1 : wc.cell? ⟨gb116, 1, none⟩ = some (.string (⟨#[]⟩ : ByteArray)) := (blk_cell BK116.out 1).trans rfl
                      have hcz86_2 : wc.cell? ⟨gb116, 2, none⟩ = some (.string (⟨#[]⟩ : ByteArray)) := (blk_cell BK116.out 2).trans rfl
                      have hcz86_3 : wc.cell? ⟨gb116, 3, none⟩ = some (.string (⟨#[]⟩ : ByteArray)) := (blk_cell BK116.out 3).trans rfl
                      have hcz86_4 : wc.cell? ⟨gb116, 4, none⟩ = some (.string (⟨#[]⟩ : ByteArray)) := (blk_cell BK116.out 4).trans rfl
                      have hcz86_5 : wc.cell? ⟨gb116, 5, none⟩ = some (.bool false) := (blk_cell BK116.out 5).trans rfl
                      have hcz86_6 : wc.cell? ⟨gb116, 6, none⟩ = some (.bool false) := (blk_cell BK116.out 6).trans rfl
                      have hcz86_7 : wc.cell? ⟨gb116, 7, none⟩ = some (.bool false) := (blk_cell BK116.out 7).trans rfl
                      have hfz86_0 := blk_frozen BK116.out 0
                      have hfz86_1 := blk_frozen BK116.out 1
                      have hfz86_2 := blk_frozen BK116.out 2
                      have hfz86_3 := blk_frozen BK116.out 3
                      have hfz86_4 := blk_frozen BK116.out 4
                      have hfz86_5 := blk_frozen BK116.out 5
                      have hfz86_6 := blk_frozen BK116.out 6
                      have hfz86_7 := blk_frozen BK116.out 7
                      go_wp2
                      refine bodyPost_ret (results_ctt rfl _ _ gb116 25 #[.string a0_0, .string a0_1, .string a0_2, .string a0_3, .string a0_4, .bool a0_5, .bool a0_6, .bool a0_7] (0, 0) _ rfl (by (with_reducible repeat (first | refine blk_drewN ?_ _ | refine blk_drew ?_ | refine blk_alloc ?_ _)); refine blk_put (cs := #[.string a0_0, .string a0_1, .string a0_2, .string a0_3, .string a0_4, .bool a0_5, .bool a0_6, .bool false]) ?_ 7 _ rfl; (with_reducible repeat (first | refine blk_drewN ?_ _ | refine blk_drew ?_ | refine blk_alloc ?_ _)); refine blk_put (cs := #[.string a0_0, .string a0_1, .string a0_2, .string a0_3, .string a0_4, .bool a0_5, .bool false, .bool false]) ?_ 6 _ rfl; (with_reducible repeat (first | refine blk_drewN ?_ _ | refine blk_drew ?_ | refine blk_alloc ?_ _)); refine blk_put (cs := #[.string a0_0, .string a0_1, .string a0_2, .string a0_3, .string a0_4, .bool false, .bool false, .bool false]) ?_ 5 _ rfl; (with_reducible repeat (first | refine blk_drewN ?_ _ | refine blk_drew ?_ | refine blk_alloc ?_ _)); refine blk_put (cs := #[.string a0_0, .string a0_1, .string a0_2, .string a0_3, .string (⟨#[]⟩ : ByteArray), .bool false, .bool false, .bool false]) ?_ 4 _ rfl; (with_reducible repeat (first | refine blk_drewN ?_ _ | refine blk_drew ?_ | refine blk_alloc ?_ _)); refine blk_put (cs := #[.string a0_0, .string a0_1, .string a0_2, .string (⟨#[]⟩ : ByteArray), .string (⟨#[]⟩ : ByteArray), .bool false, .bool false, .bool false]) ?_ 3 _ rfl; (with_reducible repeat (first | refine blk_drewN ?_ _ | refine blk_drew ?_ | refine blk_alloc ?_ _)); refine blk_put (cs := #[.string a0_0, .string a0_1, .string (⟨#[]⟩ : ByteArray), .string (⟨#[]⟩ : ByteArray), .string (⟨#[]⟩ : ByteArray), .bool false, .bool false, .bool false]) ?_ 2 _ rfl; (with_reducible repeat (first | refine blk_drewN ?_ _ | refine blk_drew ?_ | refine blk_alloc ?_ _)); refine blk_put (cs := #[.string a0_0, .string (⟨#[]⟩ : ByteArray), .string (⟨#[]⟩ : ByteArray), .string (⟨#[]⟩ : ByteArray), .string (⟨#[]⟩ : ByteArray), .bool false, .bool false, .bool false]) ?_ 1 _ rfl; (with_reducible repeat (first | refine blk_drewN ?_ _ | refine blk_drew ?_ | refine blk_alloc ?_ _)); refine blk_put (cs := #[.string (⟨#[]⟩ : ByteArray), .string (⟨#[]⟩ : ByteArray), .string (⟨#[]⟩ : ByteArray), .string (⟨#[]⟩ : ByteArray), .string (⟨#[]⟩ : ByteArray), .bool false, .bool false, .bool false]) ?_ 0 _ rfl; (with_reducible repeat (first | refine blk_drewN ?_ _ | refine blk_drew ?_ | refine blk_alloc ?_ _)); exact BK116.out) Tryd.underlying25 rfl (by kernel_rfl)) rfl ?_
                      exact ⟨by first | rfl | (simp [errW_none, errW_some] <;> rfl) | (simp [*, errW_none, errW_some] <;> rfl), by repeat (first | (with_reducible first | exact HB.out | apply below_alloc | apply pw_below_drewN | apply below_drew1 | refine below_set ?_ GE115.out | refine below_set ?_ GE116.out) | exact HB.out)⟩

end Go.Proofs.YtklbghadhneejaaDoor.PX
