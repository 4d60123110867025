/- The law on the transform of depends_on (printed by gen_needlaw.py). -/
import Derived.Test.YtgeamhmenmomhaaNeedT
import Derived.Test.YtgeamhmenmomhaaPartN
namespace Go.Proofs.Ytgeamhmenmomhaa.A
set_option linter.unusedVariables false
set_option linter.unusedSimpArgs false
set_option linter.unusedSectionVars false
open Go.RowKit Go.Proofs.YtgeamhmenmomhaaW.PrintWords Go.Proofs.YtgeamhmenmomhaaW.PrintLast Go.Proofs.YtgeamhmenmomhaaW.PrintMore Go.Proofs.Ytgeamhmenmomhaa.PT Go.Proofs.Ytgeamhmenmomhaa.L Go.Proofs.Ytgeamhmenmomhaa.SM

theorem NeedC.canon {y z : IV} (h : NeedC y z) : Canon y := by
  cases h with
  | map h => exact h.fine.canon
  | list hb => exact (Fine.list (by rw [List.length_map]; omega) (fun c hc => by obtain ⟨q, _, rfl⟩ := List.mem_map.1 hc; exact Fine.text q)).canon
set_option maxHeartbeats 4000000 in
set_option maxRecDepth 100000 in
theorem law_TransformDependsOn {x : SV} (hx : Bnd x) (hw : wt x ≤ 1048576) {v : Value} {w : World} (hv : MadeS x w v) (g : Bool) :
    Calls Try.prog 3 #[v, .bool g] w fun e w' => e = .returned (.bool true) ∧ Below w.heap.size w w' := by
  obtain ⟨A3, c3, A4, c4, rfl, p3, g3, p4, g4⟩ := hv
  obtain ⟨W0, hW0⟩ : ∃ W0 : World, W0 = w.alloc (Obj.cells #[.int .i64 x.f0, .int .i64 x.f1, .string x.f2, .slice A3 x.f3.length c3, .slice A4 x.f4.length c4] 25) := ⟨_, rfl⟩
  have hb0 : Below w.heap.size w W0 := by rw [hW0]; exact (Below.refl _ _).alloc (Nat.le_refl _) _
  have hbx : W0.heap[w.heap.size]? = some (.cells #[.int .i64 x.f0, .int .i64 x.f1, .string x.f2, .slice A3 x.f3.length c3, .slice A4 x.f4.length c4] 25 (0, 0)) := by rw [hW0]; exact new_atI rfl
  have HX : Aside0 (MadeS x W0 (cellsS x A3 c3 A4 c4)) := ⟨A3, c3, A4, c4, rfl, p3, Kd.C_below g3 hb0, p4, Kd.C_below g4 hb0⟩
  have HB0 := Aside0.mk hb0
  have HBX := Aside0.mk hbx
  have HW0 := Lib.hid hW0
  have HS0 : Hid (w.heap.size < W0.heap.size) := Lib.hid (by rw [hW0]; simp)
  have HBN := Lib.hid hx
  have HWT := Lib.hid hw
  have m0 : W0.cell? ⟨w.heap.size, 0, none⟩ = some (.int .i64 x.f0) := (blk_cell hbx 0).trans rfl
  have m1 : W0.cell? ⟨w.heap.size, 1, none⟩ = some (.int .i64 x.f1) := (blk_cell hbx 1).trans rfl
  have m2 : W0.cell? ⟨w.heap.size, 2, none⟩ = some (.string x.f2) := (blk_cell hbx 2).trans rfl
  have m3 : W0.cell? ⟨w.heap.size, 3, none⟩ = some (.slice A3 x.f3.length c3) := (blk_cell hbx 3).trans rfl
  have m4 : W0.cell? ⟨w.heap.size, 4, none⟩ = some (.slice A4 x.f4.length c4) := (blk_cell hbx 4).trans rfl
  clear hb0 hW0 hbx p3 g3 p4 g4 hx hw
  go_enter Try.func3, Try.ntmps3
  go_upto_region 1 with fail
  rw [← HW0.out]
  go_wp2_with fail
  refine (law_fits1 (v := cellsS x A3 c3 A4 c4) HX.out).mono ?_
  clear m0 m1 m2 m3 m4
  rintro e w1 ⟨⟨r, rfl⟩, hb1⟩
  have hbx1 := blk_below HBX.out hb1
  have HX1 := Aside0.mk (HX.out.below_ hb1)
  have HB1 := Aside0.mk (HB0.out.trans (hb1.mono HB0.out.size))
  have HBX1 := Aside0.mk hbx1
  have HS1 : Hid (w.heap.size < w1.heap.size) := Lib.hid (Nat.lt_of_lt_of_le HS0.out hb1.size)
  have m0 : w1.cell? ⟨w.heap.size, 0, none⟩ = some (.int .i64 x.f0) := (blk_cell hbx1 0).trans rfl
  have m1 : w1.cell? ⟨w.heap.size, 1, none⟩ = some (.int .i64 x.f1) := (blk_cell hbx1 1).trans rfl
  have m2 : w1.cell? ⟨w.heap.size, 2, none⟩ = some (.string x.f2) := (blk_cell hbx1 2).trans rfl
  have m3 : w1.cell? ⟨w.heap.size, 3, none⟩ = some (.slice A3 x.f3.length c3) := (blk_cell hbx1 3).trans rfl
  have m4 : w1.cell? ⟨w.heap.size, 4, none⟩ = some (.slice A4 x.f4.length c4) := (blk_cell hbx1 4).trans rfl
  clear hb1 hbx1
  cases r with
  | false =>
    go_wp2
    go_ret
    exact ⟨rfl, HB1.out⟩
  | true =>
    go_wp2_with fail
    refine (law_fit HBN.out (v := cellsS x A3 c3 A4 c4) HX1.out).mono ?_
    clear m0 m1 m2 m3 m4
    rintro e w2 ⟨y, u, rfl, hfy, hwy, hmy, hky, hb2⟩
    obtain ⟨B3, d3, B4, d4, rfl, _, _, _, _⟩ := hmy
    have hbx2 := blk_below HBX1.out hb2
    have HB2 := Aside0.mk (below_then HB1.out HB1.out.size hb2)
    obtain ⟨W3, hW3⟩ : ∃ W3 : World, W3 = (((((w2.setCell ⟨w.heap.size, 0, none⟩ (.int .i64 y.f0)).setCell ⟨w.heap.size, 1, none⟩ (.int .i64 y.f1)).setCell ⟨w.heap.size, 2, none⟩ (.string y.f2)).setCell ⟨w.heap.size, 3, none⟩ (.slice B3 y.f3.length d3)).setCell ⟨w.heap.size, 4, none⟩ (.slice B4 y.f4.length d4)) := ⟨_, rfl⟩
    have hbx3 : W3.heap[w.heap.size]? = some (.cells #[.int .i64 y.f0, .int .i64 y.f1, .string y.f2, .slice B3 y.f3.length d3, .slice B4 y.f4.length d4] 25 (0, 0)) := by rw [hW3]; exact box5 hbx2 _ _ _ _ _
    have HY3 : Aside0 (MadeS y W3 (cellsS y B3 d3 B4 d4)) := ⟨by rw [hW3]; exact hky _ (fun k hk _ => far5 (by have := HS1.out; omega) _ _ _ _ _)⟩
    have HB3 : Aside0 (Below w.heap.size w W3) := ⟨by rw [hW3]; exact below5 HB2.out _ (Nat.le_refl _) _ _ _ _ _⟩
    have HBX3 := Aside0.mk hbx3
    have HW3 := Lib.hid hW3
    have HFY := Lib.hid hfy
    have HWY : Hid (wt y ≤ 1048576) := Lib.hid (Nat.le_trans hwy HWT.out)
    have n0 : w2.cell? ⟨w.heap.size, 0, none⟩ = some (.int .i64 x.f0) := (blk_cell hbx2 0).trans rfl
    have n1 : w2.cell? ⟨w.heap.size, 1, none⟩ = some (.int .i64 x.f1) := (blk_cell hbx2 1).trans rfl
    have n2 : w2.cell? ⟨w.heap.size, 2, none⟩ = some (.string x.f2) := (blk_cell hbx2 2).trans rfl
    have n3 : w2.cell? ⟨w.heap.size, 3, none⟩ = some (.slice A3 x.f3.length c3) := (blk_cell hbx2 3).trans rfl
    have n4 : w2.cell? ⟨w.heap.size, 4, none⟩ = some (.slice A4 x.f4.length c4) := (blk_cell hbx2 4).trans rfl
    have f0 := blk_frozen hbx2 0
    have f1 := blk_frozen hbx2 1
    have f2 := blk_frozen hbx2 2
    have f3 := blk_frozen hbx2 3
    have f4 := blk_frozen hbx2 4
    clear hfy hwy hky hb2 hbx2 hW3 hbx3
    unfold cellsS
    go_upto_region 4 with fail
    rw [← HW3.out]
    clear n0 n1 n2 n3 n4 f0 f1 f2 f3 f4
    have q0 : W3.cell? ⟨w.heap.size, 0, none⟩ = some (.int .i64 y.f0) := (blk_cell HBX3.out 0).trans rfl
    have q1 : W3.cell? ⟨w.heap.size, 1, none⟩ = some (.int .i64 y.f1) := (blk_cell HBX3.out 1).trans rfl
    have q2 : W3.cell? ⟨w.heap.size, 2, none⟩ = some (.string y.f2) := (blk_cell HBX3.out 2).trans rfl
    have q3 : W3.cell? ⟨w.heap.size, 3, none⟩ = some (.slice B3 y.f3.length d3) := (blk_cell HBX3.out 3).trans rfl
    have q4 : W3.cell? ⟨w.heap.size, 4, none⟩ = some (.slice B4 y.f4.length d4) := (blk_cell HBX3.out 4).trans rfl
    have HPN := Lib.hid (spec_PartNeeds HFY.out HWY.out (v := cellsS y B3 d3 B4 d4) (w := W3) HY3.out)
    unfold cellsS at HPN
    go_wp2_with fail
    refine HPN.out.mono ?_
    clear q0 q1 q2 q3 q4
    rintro e w4 ⟨⟨r, said, rfl, hsaid⟩, hb4⟩
    obtain ⟨gl, hgl⟩ : ∃ gl, gl = w4.heap.size := ⟨_, rfl⟩
    obtain ⟨W5, hW5⟩ : ∃ W5 : World, W5 = w4.alloc (Obj.cells #[.int .i64 r.n0, .int .i64 r.n1, .string r.t, .slice r.A r.an r.ac, .slice r.B r.bn r.bc] 25) := ⟨_, rfl⟩
    have hg5 : W5.heap[gl]? = some (.cells #[.int .i64 r.n0, .int .i64 r.n1, .string r.t, .slice r.A r.an r.ac, .slice r.B r.bn r.bc] 25 (0, 0)) := by rw [hW5, hgl]; exact new_atI rfl
    have hb45 : Below w4.heap.size w4 W5 := by rw [hW5]; exact (Below.refl _ _).alloc (Nat.le_refl _) _
    have hb5 : Below W3.heap.size W3 W5 := below_then hb4 hb4.size hb45
    have HB5 : Aside0 (Below w.heap.size w W5) := ⟨below_then HB3.out HB3.out.size hb5⟩
    have HY5 := Aside0.mk (HY3.out.below_ hb5)
    have hbx5 := blk_below HBX3.out hb5
    have HW5 := Lib.hid hW5
    have HGL := Lib.hid hgl
    have q0 : W5.cell? ⟨w.heap.size, 0, none⟩ = some (.int .i64 y.f0) := (blk_cell hbx5 0).trans rfl
    have q1 : W5.cell? ⟨w.heap.size, 1, none⟩ = some (.int .i64 y.f1) := (blk_cell hbx5 1).trans rfl
    have q2 : W5.cell? ⟨w.heap.size, 2, none⟩ = some (.string y.f2) := (blk_cell hbx5 2).trans rfl
    have q3 : W5.cell? ⟨w.heap.size, 3, none⟩ = some (.slice B3 y.f3.length d3) := (blk_cell hbx5 3).trans rfl
    have q4 : W5.cell? ⟨w.heap.size, 4, none⟩ = some (.slice B4 y.f4.length d4) := (blk_cell hbx5 4).trans rfl
    have g0 : W5.cell? ⟨gl, 0, none⟩ = some (.int .i64 r.n0) := (blk_cell hg5 0).trans rfl
    have g1 : W5.cell? ⟨gl, 1, none⟩ = some (.int .i64 r.n1) := (blk_cell hg5 1).trans rfl
    have g2 : W5.cell? ⟨gl, 2, none⟩ = some (.string r.t) := (blk_cell hg5 2).trans rfl
    have g3 : W5.cell? ⟨gl, 3, none⟩ = some (.slice r.A r.an r.ac) := (blk_cell hg5 3).trans rfl
    have g4 : W5.cell? ⟨gl, 4, none⟩ = some (.slice r.B r.bn r.bc) := (blk_cell hg5 4).trans rfl
    have HSD : Hid (said = true → NeedsS y ∧ MadeS (needsS y) W5 r.val) := Lib.hid (fun h => ⟨(hsaid h).1, (hsaid h).2.below_ hb45⟩)
    clear hb4 hsaid hg5 hb45 hb5 hbx5 hW5 hgl
    go_upto_region 5 with fail
    rw [← HW5.out, ← HGL.out]
    cases said with
    | false =>
      go_wp2
      go_ret
      exact ⟨rfl, HB5.out⟩
    | true =>
      obtain ⟨hns, hmw⟩ := HSD.out (by first | rfl | trivial)
      obtain ⟨t, z, ht1, ht2, hc, hn1, hn2⟩ := need_facts HFY.out HWY.out hns
      have hcz : Canon z := hn2.canon
      have HPI := Lib.hid (laws_partIs 8 enters_needs g y (needsS y) t z ht1 ht2 (turns_needs hc hn1 g) (turns_needs hcz hn2 g) W5 (v := cellsS y B3 d3 B4 d4) (u := r.val) HY5.out hmw)
      unfold cellsS RV.val at HPI
      clear hns hmw ht1 ht2 hc hn1 hn2 hcz
      go_wp2_with fail
      refine HPI.out.mono ?_
      clear q0 q1 q2 q3 q4 g0 g1 g2 g3 g4
      rintro e w6 ⟨rfl, hb6⟩
      have HB6 := Aside0.mk (below_then HB5.out HB5.out.size hb6)
      clear hb6
      go_wp2
      go_ret
      exact ⟨rfl, HB6.out⟩
end Go.Proofs.Ytgeamhmenmomhaa.A
