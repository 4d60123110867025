/- Joined texts. -/
import Derived.Test.YtgeamhmenmomhaaNeedX
import Derived.Test.YtgeamhmenmomhaaNeedT
/- The walk of laws.partIs, of any transform that answers. -/
namespace Go.Proofs.Ytgeamhmenmomhaa.A
set_option linter.unusedVariables false
set_option linter.unusedSimpArgs false
set_option linter.unusedSectionVars false
open Go.RowKit Go.Proofs.YtgeamhmenmomhaaW.PrintWords Go.Proofs.YtgeamhmenmomhaaW.PrintLast Go.Proofs.YtgeamhmenmomhaaW.PrintMore Go.Proofs.Ytgeamhmenmomhaa.PT Go.Proofs.Ytgeamhmenmomhaa.L Go.Proofs.Ytgeamhmenmomhaa.SM

set_option maxHeartbeats 8000000 in
set_option maxRecDepth 100000 in
theorem laws_partIs (f : FuncId) (hen : ∀ args w, (callFunc f args).run Try.prog w = .ok (.enter f args) w) (g : Bool) (x want : SV) (y z : IV) (hxy : Twin x y) (hwz : Twin want z) (h1 : Turns f g y z) (h2 : Turns f g z z) (w : World) {v u : Value} (hv : MadeS x w v) (hu : MadeS want w u) :
    Calls Try.prog 7 #[.func (.func f) #[] #[], v, u, .bool g] w fun e w' => e = .returned (.bool true) ∧ Below w.heap.size w w' := by
  obtain ⟨A3, c3, A4, c4, rfl, p3, g3, p4, g4⟩ := hv
  obtain ⟨B3, d3, B4, d4, rfl, l3, k3, l4, k4⟩ := hu
  obtain ⟨W0, hW0⟩ : ∃ W0 : World, W0 = (w.alloc (Obj.cells #[.int .i64 x.f0, .int .i64 x.f1, .string x.f2, .slice A3 x.f3.length c3, .slice A4 x.f4.length c4] 25)).alloc (Obj.cells #[.int .i64 want.f0, .int .i64 want.f1, .string want.f2, .slice B3 want.f3.length d3, .slice B4 want.f4.length d4] 25) := ⟨_, rfl⟩
  have hb0 : Below w.heap.size w W0 := by rw [hW0]; exact ((Below.refl _ _).alloc (Nat.le_refl _) _).alloc (by simp) _
  have hbx : W0.heap[w.heap.size]? = some (.cells #[.int .i64 x.f0, .int .i64 x.f1, .string x.f2, .slice A3 x.f3.length c3, .slice A4 x.f4.length c4] 25 (0, 0)) := by rw [hW0]; exact heap_oldI (new_atI rfl)
  have HWB : Aside0 (W0.heap[w.heap.size + 1]? = some (.cells #[.int .i64 want.f0, .int .i64 want.f1, .string want.f2, .slice B3 want.f3.length d3, .slice B4 want.f4.length d4] 25 (0, 0))) := ⟨by rw [hW0]; exact new_atI (by simp)⟩
  have HX : Aside0 (MadeS x W0 (cellsS x A3 c3 A4 c4)) := ⟨A3, c3, A4, c4, rfl, p3, Kd.C_below g3 hb0, p4, Kd.C_below g4 hb0⟩
  have HW : Aside0 (MadeS want W0 (cellsS want B3 d3 B4 d4)) := ⟨B3, d3, B4, d4, rfl, l3, Kd.C_below k3 hb0, l4, Kd.C_below k4 hb0⟩
  have HB0 := Aside0.mk hb0
  have HW0 := Lib.hid hW0
  have m0 : W0.cell? ⟨w.heap.size, 0, none⟩ = some (.int .i64 x.f0) := (blk_cell hbx 0).trans rfl
  have m1 : W0.cell? ⟨w.heap.size, 1, none⟩ = some (.int .i64 x.f1) := (blk_cell hbx 1).trans rfl
  have m2 : W0.cell? ⟨w.heap.size, 2, none⟩ = some (.string x.f2) := (blk_cell hbx 2).trans rfl
  have m3 : W0.cell? ⟨w.heap.size, 3, none⟩ = some (.slice A3 x.f3.length c3) := (blk_cell hbx 3).trans rfl
  have m4 : W0.cell? ⟨w.heap.size, 4, none⟩ = some (.slice A4 x.f4.length c4) := (blk_cell hbx 4).trans rfl
  have H1 := Lib.hid h1
  have H2 := Lib.hid h2
  have HXY := Lib.hid hxy
  have HWZ := Lib.hid hwz
  clear hb0 hW0 hbx p3 g3 p4 g4 l3 k3 l4 k4 h1 h2 hxy hwz
  go_enter Try.func7, Try.ntmps7
  go_upto_region 1 with fail
  rw [← HW0.out]
  go_wp2_with fail
  refine (law_to HXY.out HX.out).mono ?_
  clear m0 m1 m2 m3 m4
  rintro e w1 ⟨⟨u1, rfl, hu1⟩, hb1⟩
  have HU1 := Aside0.mk hu1
  have HB1 := Aside0.mk hb1
  clear hu1 hb1
  go_wp2_with fail
  refine (H1.out.use HU1.out).mono ?_
  rintro e w2 ⟨⟨u2, rfl, hu2⟩, hb2⟩
  obtain ⟨E3, a3, E4, a4, rfl, q3, r3, q4, r4⟩ := hu2
  obtain ⟨W3, hW3⟩ : ∃ W3 : World, W3 = w2.alloc (Obj.cells #[.int .i64 z.f0, .int .i64 z.f1, .string z.f2, .slice E3 z.f3.length a3, .slice E4 z.f4.length a4] 41) := ⟨_, rfl⟩
  have hb3 : Below W0.heap.size W0 W3 := by rw [hW3]; exact (below_then HB1.out HB1.out.size hb2).alloc (Nat.le_trans HB1.out.size hb2.size) _
  have hu3 : MadeI z W3 (cellsI z E3 a3 E4 a4) := MadeI.below_ ⟨E3, a3, E4, a4, rfl, q3, r3, q4, r4⟩ (by rw [hW3]; exact (Below.refl _ _).alloc (Nat.le_refl _) _)
  have hz3 : W3.heap[w2.heap.size]? = some (.cells #[.int .i64 z.f0, .int .i64 z.f1, .string z.f2, .slice E3 z.f3.length a3, .slice E4 z.f4.length a4] 41 (0, 0)) := by rw [hW3]; exact new_atI rfl
  obtain ⟨b9, hb9⟩ : ∃ b9, b9 = w2.heap.size := ⟨_, rfl⟩
  have HB9 := Lib.hid hb9
  have HW3 := Lib.hid hW3
  rw [← hb9] at hz3
  have HB3 := Aside0.mk hb3
  have HU3 := Aside0.mk hu3
  have HZ3 := Aside0.mk hz3
  have n0 : W3.cell? ⟨b9, 0, none⟩ = some (.int .i64 z.f0) := (blk_cell hz3 0).trans rfl
  have n1 : W3.cell? ⟨b9, 1, none⟩ = some (.int .i64 z.f1) := (blk_cell hz3 1).trans rfl
  have n2 : W3.cell? ⟨b9, 2, none⟩ = some (.string z.f2) := (blk_cell hz3 2).trans rfl
  have n3 : W3.cell? ⟨b9, 3, none⟩ = some (.slice E3 z.f3.length a3) := (blk_cell hz3 3).trans rfl
  have n4 : W3.cell? ⟨b9, 4, none⟩ = some (.slice E4 z.f4.length a4) := (blk_cell hz3 4).trans rfl
  clear hb2 q3 r3 q4 r4 hW3 hb3 hu3 hz3 hb9
  unfold cellsI
  go_upto_region 2 with fail
  rw [← HW3.out, ← HB9.out]
  go_wp2_with fail
  refine (H2.out.use HU3.out).mono ?_
  clear n0 n1 n2 n3 n4
  rintro e w4 ⟨⟨u4, rfl, hu4⟩, hb4⟩
  obtain ⟨F3, s3, F4, s4, rfl, q3, r3, q4, r4⟩ := hu4
  obtain ⟨W5, hW5⟩ : ∃ W5 : World, W5 = w4.alloc (Obj.cells #[.int .i64 z.f0, .int .i64 z.f1, .string z.f2, .slice F3 z.f3.length s3, .slice F4 z.f4.length s4] 41) := ⟨_, rfl⟩
  have hb35 : Below W3.heap.size W3 W5 := by rw [hW5]; exact hb4.alloc hb4.size _
  have hb5 : Below W0.heap.size W0 W5 := below_then HB3.out HB3.out.size hb35
  have hu5 : MadeI z W5 (cellsI z F3 s3 F4 s4) := MadeI.below_ ⟨F3, s3, F4, s4, rfl, q3, r3, q4, r4⟩ (by rw [hW5]; exact (Below.refl _ _).alloc (Nat.le_refl _) _)
  have hz5 : W5.heap[w4.heap.size]? = some (.cells #[.int .i64 z.f0, .int .i64 z.f1, .string z.f2, .slice F3 z.f3.length s3, .slice F4 z.f4.length s4] 41 (0, 0)) := by rw [hW5]; exact new_atI rfl
  obtain ⟨b11, hb11⟩ : ∃ b11, b11 = w4.heap.size := ⟨_, rfl⟩
  have HB11 := Lib.hid hb11
  have HW5 := Lib.hid hW5
  rw [← hb11] at hz5
  have HB5 := Aside0.mk (HB0.out.trans (hb5.mono HB0.out.size))
  have HU5 := Aside0.mk hu5
  have HV5 := Aside0.mk (HU3.out.below_ hb35)
  have HW5' := Aside0.mk (HW.out.below_ hb5)
  have n0 : W5.cell? ⟨b9, 0, none⟩ = some (.int .i64 z.f0) := (blk_cell (blk_below HZ3.out hb35) 0).trans rfl
  have n1 : W5.cell? ⟨b9, 1, none⟩ = some (.int .i64 z.f1) := (blk_cell (blk_below HZ3.out hb35) 1).trans rfl
  have n2 : W5.cell? ⟨b9, 2, none⟩ = some (.string z.f2) := (blk_cell (blk_below HZ3.out hb35) 2).trans rfl
  have n3 : W5.cell? ⟨b9, 3, none⟩ = some (.slice E3 z.f3.length a3) := (blk_cell (blk_below HZ3.out hb35) 3).trans rfl
  have n4 : W5.cell? ⟨b9, 4, none⟩ = some (.slice E4 z.f4.length a4) := (blk_cell (blk_below HZ3.out hb35) 4).trans rfl
  have o0 : W5.cell? ⟨b11, 0, none⟩ = some (.int .i64 z.f0) := (blk_cell hz5 0).trans rfl
  have o1 : W5.cell? ⟨b11, 1, none⟩ = some (.int .i64 z.f1) := (blk_cell hz5 1).trans rfl
  have o2 : W5.cell? ⟨b11, 2, none⟩ = some (.string z.f2) := (blk_cell hz5 2).trans rfl
  have o3 : W5.cell? ⟨b11, 3, none⟩ = some (.slice F3 z.f3.length s3) := (blk_cell hz5 3).trans rfl
  have o4 : W5.cell? ⟨b11, 4, none⟩ = some (.slice F4 z.f4.length s4) := (blk_cell hz5 4).trans rfl
  have t0 : W5.cell? ⟨w.heap.size + 1, 0, none⟩ = some (.int .i64 want.f0) := (blk_cell (blk_below HWB.out hb5) 0).trans rfl
  have t1 : W5.cell? ⟨w.heap.size + 1, 1, none⟩ = some (.int .i64 want.f1) := (blk_cell (blk_below HWB.out hb5) 1).trans rfl
  have t2 : W5.cell? ⟨w.heap.size + 1, 2, none⟩ = some (.string want.f2) := (blk_cell (blk_below HWB.out hb5) 2).trans rfl
  have t3 : W5.cell? ⟨w.heap.size + 1, 3, none⟩ = some (.slice B3 want.f3.length d3) := (blk_cell (blk_below HWB.out hb5) 3).trans rfl
  have t4 : W5.cell? ⟨w.heap.size + 1, 4, none⟩ = some (.slice B4 want.f4.length d4) := (blk_cell (blk_below HWB.out hb5) 4).trans rfl
  clear hb4 q3 r3 q4 r4 hW5 hb35 hb5 hu5 hz5 hb11
  unfold cellsI
  go_upto_region 3 with fail
  rw [← HW5.out, ← HB11.out]
  refine start_ (n := 17) (S := fun w' => w'.cell? ⟨b9, 0, none⟩ = some (.int .i64 z.f0) ∧ w'.cell? ⟨b9, 1, none⟩ = some (.int .i64 z.f1) ∧ w'.cell? ⟨b9, 2, none⟩ = some (.string z.f2) ∧ w'.cell? ⟨b9, 3, none⟩ = some (.slice E3 z.f3.length a3) ∧ w'.cell? ⟨b9, 4, none⟩ = some (.slice E4 z.f4.length a4) ∧ w'.cell? ⟨b11, 0, none⟩ = some (.int .i64 z.f0) ∧ w'.cell? ⟨b11, 1, none⟩ = some (.int .i64 z.f1) ∧ w'.cell? ⟨b11, 2, none⟩ = some (.string z.f2) ∧ w'.cell? ⟨b11, 3, none⟩ = some (.slice F3 z.f3.length s3) ∧ w'.cell? ⟨b11, 4, none⟩ = some (.slice F4 z.f4.length s4) ∧ w'.cell? ⟨w.heap.size + 1, 0, none⟩ = some (.int .i64 want.f0) ∧ w'.cell? ⟨w.heap.size + 1, 1, none⟩ = some (.int .i64 want.f1) ∧ w'.cell? ⟨w.heap.size + 1, 2, none⟩ = some (.string want.f2) ∧ w'.cell? ⟨w.heap.size + 1, 3, none⟩ = some (.slice B3 want.f3.length d3) ∧ w'.cell? ⟨w.heap.size + 1, 4, none⟩ = some (.slice B4 want.f4.length d4)) (ds := []) #[false, false, false, false, false, false, false, false, false, false, false, false, false, false, false, false, false] (by kernel_rfl) rfl rfl ⟨n0, n1, n2, n3, n4, o0, o1, o2, o3, o4, t0, t1, t2, t3, t4⟩ (fun hHeld => ?_)
  refine pure_ (i := 0) (N := some 28) (v := ?_) (a' := ?_) #[true, false, false, false, false, false, false, false, false, false, false, false, false, false, false, false, false] rfl rfl (by kernel_rfl) (fun _ _ _ h => h) (Or.inl ⟨by rfl, ?_⟩) ?_ ?_
  rotate_left
  · intro w'
    go_simp
    with_reducible rfl
  rotate_left
  · simp only [Act.put, List.setIfInBounds_toArray, List.set_cons_zero, List.set_cons_succ, i64_w, i32_w]
    rfl
  refine pure_ (i := 1) (N := some 29) (v := ?_) (a' := ?_) #[true, true, false, false, false, false, false, false, false, false, false, false, false, false, false, false, false] rfl rfl (by kernel_rfl) (fun _ _ _ h => h) (Or.inl ⟨by rfl, ?_⟩) ?_ ?_
  rotate_left
  · intro w'
    go_simp
    with_reducible rfl
  rotate_left
  · simp only [Act.put, List.setIfInBounds_toArray, List.set_cons_zero, List.set_cons_succ, i64_w, i32_w]
    rfl
  refine pure_ (i := 2) (N := some 30) (v := ?_) (a' := ?_) #[true, true, true, false, false, false, false, false, false, false, false, false, false, false, false, false, false] rfl rfl (by kernel_rfl) (fun _ _ _ h => h) (Or.inl ⟨by rfl, ?_⟩) ?_ ?_
  rotate_left
  · intro w'
    go_simp
    with_reducible rfl
  rotate_left
  · simp only [Act.put, List.setIfInBounds_toArray, List.set_cons_zero, List.set_cons_succ, i64_w, i32_w]
    rfl
  refine pure_ (i := 3) (N := some 31) (v := ?_) (a' := ?_) #[true, true, true, true, false, false, false, false, false, false, false, false, false, false, false, false, false] rfl rfl (by kernel_rfl) (fun _ _ _ h => h) (Or.inl ⟨by rfl, ?_⟩) ?_ ?_
  rotate_left
  · intro w'
    go_simp
    with_reducible rfl
  rotate_left
  · simp only [Act.put, List.setIfInBounds_toArray, List.set_cons_zero, List.set_cons_succ, i64_w, i32_w]
    rfl
  refine pure_ (i := 4) (N := some 32) (v := ?_) (a' := ?_) #[true, true, true, true, true, false, false, false, false, false, false, false, false, false, false, false, false] rfl rfl (by kernel_rfl) (fun _ _ _ h => h) (Or.inl ⟨by rfl, ?_⟩) ?_ ?_
  rotate_left
  · intro w'
    go_simp
    with_reducible rfl
  rotate_left
  · simp only [Act.put, List.setIfInBounds_toArray, List.set_cons_zero, List.set_cons_succ, i64_w, i32_w]
    rfl
  refine take_ (i := 5) (N := some 33) (v := ?_) (a' := ?_) #[true, true, true, true, true, true, false, false, false, false, false, false, false, false, false, false, false] rfl rfl (by kernel_rfl) (fun _ _ _ h => h) (Or.inl ⟨by rfl, ?_⟩) hHeld ?_ ?_
  rotate_left
  · rintro w' ⟨s0, s1, s2, s3, s4, s5, s6, s7, s8, s9, s10, s11, s12, s13, s14⟩
    go_simp
    with_reducible rfl
  rotate_left
  · simp only [Act.put, List.setIfInBounds_toArray, List.set_cons_zero, List.set_cons_succ, i64_w, i32_w]
    rfl
  refine take_ (i := 7) (N := some 35) (v := ?_) (a' := ?_) #[true, true, true, true, true, true, false, true, false, false, false, false, false, false, false, false, false] rfl rfl (by kernel_rfl) (fun _ _ _ h => h) (Or.inl ⟨by rfl, ?_⟩) hHeld ?_ ?_
  rotate_left
  · rintro w' ⟨s0, s1, s2, s3, s4, s5, s6, s7, s8, s9, s10, s11, s12, s13, s14⟩
    go_simp
    with_reducible rfl
  rotate_left
  · simp only [Act.put, List.setIfInBounds_toArray, List.set_cons_zero, List.set_cons_succ, i64_w, i32_w]
    rfl
  refine one_ (i := 6) (N := some 34) #[true, true, true, true, true, true, true, true, false, false, false, false, false, false, false, false, false] rfl rfl (by kernel_rfl) (by decide) (fun K hK => ?_)
  refine goes_ Try.func19 (by kernel_rfl) rfl #[cellsI z E3 a3 E4 a4] (by rfl) rfl rfl (by simp only [List.map_toArray, List.map_cons, List.map_nil]; rfl) ?_
  with_reducible refine (law_from HWZ.out (v := cellsI z E3 a3 E4 a4) (w := W5.drew) (HV5.out.below_ (below_drew1 (Below.refl _ _)))).mono ?_
  rintro e w6 ⟨⟨u6, rfl, hu6⟩, hb6⟩
  refine ⟨_, rfl, ?_⟩
  obtain ⟨J3, j3, J4, j4, rfl, i3, x3, i4, x4⟩ := hu6
  have hc6 : Below W5.heap.size W5 w6 := below_un hb6
  have HC6 := Aside0.mk hc6
  have HQ6 : Aside0 (MadeS want w6 (cellsS want J3 j3 J4 j4)) := ⟨J3, j3, J4, j4, rfl, i3, x3, i4, x4⟩
  have HR6 := Aside0.mk (HW5'.out.below_ hc6)
  clear hb6 hc6 i3 x3 i4 x4
  refine hK.out _ _ ⟨(HC6.out.cell (World.block_lt_of_cell? W5 _ n0)).trans n0, (HC6.out.cell (World.block_lt_of_cell? W5 _ n1)).trans n1, (HC6.out.cell (World.block_lt_of_cell? W5 _ n2)).trans n2, (HC6.out.cell (World.block_lt_of_cell? W5 _ n3)).trans n3, (HC6.out.cell (World.block_lt_of_cell? W5 _ n4)).trans n4, (HC6.out.cell (World.block_lt_of_cell? W5 _ o0)).trans o0, (HC6.out.cell (World.block_lt_of_cell? W5 _ o1)).trans o1, (HC6.out.cell (World.block_lt_of_cell? W5 _ o2)).trans o2, (HC6.out.cell (World.block_lt_of_cell? W5 _ o3)).trans o3, (HC6.out.cell (World.block_lt_of_cell? W5 _ o4)).trans o4, (HC6.out.cell (World.block_lt_of_cell? W5 _ t0)).trans t0, (HC6.out.cell (World.block_lt_of_cell? W5 _ t1)).trans t1, (HC6.out.cell (World.block_lt_of_cell? W5 _ t2)).trans t2, (HC6.out.cell (World.block_lt_of_cell? W5 _ t3)).trans t3, (HC6.out.cell (World.block_lt_of_cell? W5 _ t4)).trans t4⟩ (fun hHeld => ?_)
  clear hK K
  refine norm_ (a' := ?_) ?_ ?_
  rotate_left
  · show Act.put _ (some 34) _ = _
    simp only [Act.put, List.setIfInBounds_toArray, List.set_cons_zero, List.set_cons_succ, i64_w, i32_w]
    rfl
  refine one_ (i := 8) (N := some 36) #[true, true, true, true, true, true, true, true, true, false, false, false, false, false, false, false, false] rfl rfl (by kernel_rfl) (by decide) (fun K hK => ?_)
  refine goes_ Try.func18 (by kernel_rfl) rfl #[cellsS want J3 j3 J4 j4, cellsS want B3 d3 B4 d4] (by rfl) rfl rfl (by simp only [List.map_toArray, List.map_cons, List.map_nil]; rfl) ?_
  with_reducible refine (law_same HWZ.out.bnd (v := cellsS want J3 j3 J4 j4) (u := cellsS want B3 d3 B4 d4) (w := w6) HQ6.out HR6.out).mono ?_
  rintro e w7 ⟨rfl, hb7⟩
  refine ⟨_, rfl, ?_⟩
  have HC7 := Aside0.mk (below_then HC6.out HC6.out.size hb7)
  clear hb7
  refine hK.out _ _ ⟨(HC7.out.cell (World.block_lt_of_cell? W5 _ n0)).trans n0, (HC7.out.cell (World.block_lt_of_cell? W5 _ n1)).trans n1, (HC7.out.cell (World.block_lt_of_cell? W5 _ n2)).trans n2, (HC7.out.cell (World.block_lt_of_cell? W5 _ n3)).trans n3, (HC7.out.cell (World.block_lt_of_cell? W5 _ n4)).trans n4, (HC7.out.cell (World.block_lt_of_cell? W5 _ o0)).trans o0, (HC7.out.cell (World.block_lt_of_cell? W5 _ o1)).trans o1, (HC7.out.cell (World.block_lt_of_cell? W5 _ o2)).trans o2, (HC7.out.cell (World.block_lt_of_cell? W5 _ o3)).trans o3, (HC7.out.cell (World.block_lt_of_cell? W5 _ o4)).trans o4, (HC7.out.cell (World.block_lt_of_cell? W5 _ t0)).trans t0, (HC7.out.cell (World.block_lt_of_cell? W5 _ t1)).trans t1, (HC7.out.cell (World.block_lt_of_cell? W5 _ t2)).trans t2, (HC7.out.cell (World.block_lt_of_cell? W5 _ t3)).trans t3, (HC7.out.cell (World.block_lt_of_cell? W5 _ t4)).trans t4⟩ (fun hHeld => ?_)
  clear hK K
  refine norm_ (a' := ?_) ?_ ?_
  rotate_left
  · show Act.put _ (some 36) _ = _
    simp only [Act.put, List.setIfInBounds_toArray, List.set_cons_zero, List.set_cons_succ, i64_w, i32_w]
    rfl
  refine pure_ (i := 9) (N := some 37) (v := ?_) (a' := ?_) #[true, true, true, true, true, true, true, true, true, true, false, false, false, false, false, false, false] rfl rfl (by kernel_rfl) (fun _ _ _ h => h) (Or.inl ⟨by rfl, ?_⟩) ?_ ?_
  rotate_left
  · intro w'
    go_simp
    with_reducible rfl
  rotate_left
  · simp only [Act.put, List.setIfInBounds_toArray, List.set_cons_zero, List.set_cons_succ, i64_w, i32_w]
    rfl
  refine pure_ (i := 10) (N := some 38) (v := ?_) (a' := ?_) #[true, true, true, true, true, true, true, true, true, true, true, false, false, false, false, false, false] rfl rfl (by kernel_rfl) (fun _ _ _ h => h) (Or.inl ⟨by rfl, ?_⟩) ?_ ?_
  rotate_left
  · intro w'
    go_simp
    with_reducible rfl
  rotate_left
  · simp only [Act.put, List.setIfInBounds_toArray, List.set_cons_zero, List.set_cons_succ, i64_w, i32_w]
    rfl
  refine take_ (i := 11) (N := some 39) (v := ?_) (a' := ?_) #[true, true, true, true, true, true, true, true, true, true, true, true, false, false, false, false, false] rfl rfl (by kernel_rfl) (fun _ _ _ h => h) (Or.inl ⟨by rfl, ?_⟩) hHeld ?_ ?_
  rotate_left
  · rintro w' ⟨s0, s1, s2, s3, s4, s5, s6, s7, s8, s9, s10, s11, s12, s13, s14⟩
    go_simp
    with_reducible rfl
  rotate_left
  · simp only [Act.put, List.setIfInBounds_toArray, List.set_cons_zero, List.set_cons_succ, i64_w, i32_w]
    rfl
  refine take_ (i := 13) (N := some 41) (v := ?_) (a' := ?_) #[true, true, true, true, true, true, true, true, true, true, true, true, false, true, false, false, false] rfl rfl (by kernel_rfl) (fun _ _ _ h => h) (Or.inl ⟨by rfl, ?_⟩) hHeld ?_ ?_
  rotate_left
  · rintro w' ⟨s0, s1, s2, s3, s4, s5, s6, s7, s8, s9, s10, s11, s12, s13, s14⟩
    go_simp
    with_reducible rfl
  rotate_left
  · simp only [Act.put, List.setIfInBounds_toArray, List.set_cons_zero, List.set_cons_succ, i64_w, i32_w]
    rfl
  refine one_ (i := 12) (N := some 40) #[true, true, true, true, true, true, true, true, true, true, true, true, true, true, false, false, false] rfl rfl (by kernel_rfl) (by decide) (fun K hK => ?_)
  refine goes_ Try.func19 (by kernel_rfl) rfl #[cellsI z F3 s3 F4 s4] (by rfl) rfl rfl (by simp only [List.map_toArray, List.map_cons, List.map_nil]; rfl) ?_
  with_reducible refine (law_from HWZ.out (v := cellsI z F3 s3 F4 s4) (w := w7) (HU5.out.below_ HC7.out)).mono ?_
  rintro e w8 ⟨⟨u8, rfl, hu8⟩, hb8⟩
  refine ⟨_, rfl, ?_⟩
  obtain ⟨M3, j5, M4, j6, rfl, i3, x3, i4, x4⟩ := hu8
  have hc8 : Below W5.heap.size W5 w8 := below_then HC7.out HC7.out.size hb8
  have HC8 := Aside0.mk hc8
  have HQ8 : Aside0 (MadeS want w8 (cellsS want M3 j5 M4 j6)) := ⟨M3, j5, M4, j6, rfl, i3, x3, i4, x4⟩
  have HR8 := Aside0.mk (HW5'.out.below_ hc8)
  clear hb8 hc8 i3 x3 i4 x4
  refine hK.out _ _ ⟨(HC8.out.cell (World.block_lt_of_cell? W5 _ n0)).trans n0, (HC8.out.cell (World.block_lt_of_cell? W5 _ n1)).trans n1, (HC8.out.cell (World.block_lt_of_cell? W5 _ n2)).trans n2, (HC8.out.cell (World.block_lt_of_cell? W5 _ n3)).trans n3, (HC8.out.cell (World.block_lt_of_cell? W5 _ n4)).trans n4, (HC8.out.cell (World.block_lt_of_cell? W5 _ o0)).trans o0, (HC8.out.cell (World.block_lt_of_cell? W5 _ o1)).trans o1, (HC8.out.cell (World.block_lt_of_cell? W5 _ o2)).trans o2, (HC8.out.cell (World.block_lt_of_cell? W5 _ o3)).trans o3, (HC8.out.cell (World.block_lt_of_cell? W5 _ o4)).trans o4, (HC8.out.cell (World.block_lt_of_cell? W5 _ t0)).trans t0, (HC8.out.cell (World.block_lt_of_cell? W5 _ t1)).trans t1, (HC8.out.cell (World.block_lt_of_cell? W5 _ t2)).trans t2, (HC8.out.cell (World.block_lt_of_cell? W5 _ t3)).trans t3, (HC8.out.cell (World.block_lt_of_cell? W5 _ t4)).trans t4⟩ (fun hHeld => ?_)
  clear hK K
  refine norm_ (a' := ?_) ?_ ?_
  rotate_left
  · show Act.put _ (some 40) _ = _
    simp only [Act.put, List.setIfInBounds_toArray, List.set_cons_zero, List.set_cons_succ, i64_w, i32_w]
    rfl
  refine one_ (i := 14) (N := some 42) #[true, true, true, true, true, true, true, true, true, true, true, true, true, true, true, false, false] rfl rfl (by kernel_rfl) (by decide) (fun K hK => ?_)
  refine goes_ Try.func18 (by kernel_rfl) rfl #[cellsS want M3 j5 M4 j6, cellsS want B3 d3 B4 d4] (by rfl) rfl rfl (by simp only [List.map_toArray, List.map_cons, List.map_nil]; rfl) ?_
  with_reducible refine (law_same HWZ.out.bnd (v := cellsS want M3 j5 M4 j6) (u := cellsS want B3 d3 B4 d4) (w := w8) HQ8.out HR8.out).mono ?_
  rintro e w9 ⟨rfl, hb9⟩
  refine ⟨_, rfl, ?_⟩
  have HC9 := Aside0.mk (below_then HC8.out HC8.out.size hb9)
  clear hb9
  refine hK.out _ _ ⟨(HC9.out.cell (World.block_lt_of_cell? W5 _ n0)).trans n0, (HC9.out.cell (World.block_lt_of_cell? W5 _ n1)).trans n1, (HC9.out.cell (World.block_lt_of_cell? W5 _ n2)).trans n2, (HC9.out.cell (World.block_lt_of_cell? W5 _ n3)).trans n3, (HC9.out.cell (World.block_lt_of_cell? W5 _ n4)).trans n4, (HC9.out.cell (World.block_lt_of_cell? W5 _ o0)).trans o0, (HC9.out.cell (World.block_lt_of_cell? W5 _ o1)).trans o1, (HC9.out.cell (World.block_lt_of_cell? W5 _ o2)).trans o2, (HC9.out.cell (World.block_lt_of_cell? W5 _ o3)).trans o3, (HC9.out.cell (World.block_lt_of_cell? W5 _ o4)).trans o4, (HC9.out.cell (World.block_lt_of_cell? W5 _ t0)).trans t0, (HC9.out.cell (World.block_lt_of_cell? W5 _ t1)).trans t1, (HC9.out.cell (World.block_lt_of_cell? W5 _ t2)).trans t2, (HC9.out.cell (World.block_lt_of_cell? W5 _ t3)).trans t3, (HC9.out.cell (World.block_lt_of_cell? W5 _ t4)).trans t4⟩ (fun hHeld => ?_)
  clear hK K
  refine norm_ (a' := ?_) ?_ ?_
  rotate_left
  · show Act.put _ (some 42) _ = _
    simp only [Act.put, List.setIfInBounds_toArray, List.set_cons_zero, List.set_cons_succ, i64_w, i32_w]
    rfl
  refine pure_ (i := 15) (N := some 43) (v := ?_) (a' := ?_) #[true, true, true, true, true, true, true, true, true, true, true, true, true, true, true, true, false] rfl rfl (by kernel_rfl) (fun _ _ _ h => h) (Or.inl ⟨by rfl, ?_⟩) ?_ ?_
  rotate_left
  · intro w'
    go_simp
    with_reducible rfl
  rotate_left
  · simp only [Act.put, List.setIfInBounds_toArray, List.set_cons_zero, List.set_cons_succ, i64_w, i32_w]
    rfl
  refine pure_ (i := 16) (N := some 8) (v := ?_) (a' := ?_) #[true, true, true, true, true, true, true, true, true, true, true, true, true, true, true, true, true] rfl rfl (by kernel_rfl) (fun _ _ _ h => h) (Or.inl ⟨by rfl, ?_⟩) ?_ ?_
  rotate_left
  · intro w'
    go_simp
    with_reducible rfl
  rotate_left
  · simp only [Act.put, List.setIfInBounds_toArray, List.set_cons_zero, List.set_cons_succ, i64_w, i32_w]
    rfl
  refine done_ (by kernel_rfl) ?_
  
  go_wp2
  go_ret
  exact ⟨rfl, HB5.out.trans (HC9.out.mono HB5.out.size)⟩
end Go.Proofs.Ytgeamhmenmomhaa.A
/- The law on the transform of depends_on (printed by gen_needlaw.py). -/
namespace Go.Proofs.Ytgeamhmenmomhaa.A
set_option linter.unusedVariables false
set_option linter.unusedSimpArgs false
set_option linter.unusedSectionVars false
open Go.RowKit Go.Proofs.YtgeamhmenmomhaaW.PrintWords Go.Proofs.YtgeamhmenmomhaaW.PrintLast Go.Proofs.YtgeamhmenmomhaaW.PrintMore Go.Proofs.Ytgeamhmenmomhaa.PT Go.Proofs.Ytgeamhmenmomhaa.L Go.Proofs.Ytgeamhmenmomhaa.SM

theorem NeedC.canon {y z : IV} (h : NeedC y z) : Canon y := by
  cases h with
  | map h => exact h.fine.canon
  | list hb => exact (Fine.list (by rw [List.length_map]; omega) (fun c hc => by obtain ⟨q, _, rfl⟩ := List.mem_map.1 hc; exact Fine.text q)).canon
set_option maxHeartbeats 4000000 in
set_option maxRecDepth 100000 in
theorem law_TransformDependsOn {x : SV} (hx : Bnd x) (hw : wt x ≤ 1048576) {v : Value} {w : World} (hv : MadeS x w v) (g : Bool) :
    Calls Try.prog 3 #[v, .bool g] w fun e w' => e = .returned (.bool true) ∧ Below w.heap.size w w' := by
  obtain ⟨A3, c3, A4, c4, rfl, p3, g3, p4, g4⟩ := hv
  obtain ⟨W0, hW0⟩ : ∃ W0 : World, W0 = w.alloc (Obj.cells #[.int .i64 x.f0, .int .i64 x.f1, .string x.f2, .slice A3 x.f3.length c3, .slice A4 x.f4.length c4] 25) := ⟨_, rfl⟩
  have hb0 : Below w.heap.size w W0 := by rw [hW0]; exact (Below.refl _ _).alloc (Nat.le_refl _) _
  have hbx : W0.heap[w.heap.size]? = some (.cells #[.int .i64 x.f0, .int .i64 x.f1, .string x.f2, .slice A3 x.f3.length c3, .slice A4 x.f4.length c4] 25 (0, 0)) := by rw [hW0]; exact new_atI rfl
  have HX : Aside0 (MadeS x W0 (cellsS x A3 c3 A4 c4)) := ⟨A3, c3, A4, c4, rfl, p3, Kd.C_below g3 hb0, p4, Kd.C_below g4 hb0⟩
  have HB0 := Aside0.mk hb0
  have HBX := Aside0.mk hbx
  have HW0 := Lib.hid hW0
  have HS0 : Hid (w.heap.size < W0.heap.size) := Lib.hid (by rw [hW0]; simp)
  have HBN := Lib.hid hx
  have HWT := Lib.hid hw
  have m0 : W0.cell? ⟨w.heap.size, 0, none⟩ = some (.int .i64 x.f0) := (blk_cell hbx 0).trans rfl
  have m1 : W0.cell? ⟨w.heap.size, 1, none⟩ = some (.int .i64 x.f1) := (blk_cell hbx 1).trans rfl
  have m2 : W0.cell? ⟨w.heap.size, 2, none⟩ = some (.string x.f2) := (blk_cell hbx 2).trans rfl
  have m3 : W0.cell? ⟨w.heap.size, 3, none⟩ = some (.slice A3 x.f3.length c3) := (blk_cell hbx 3).trans rfl
  have m4 : W0.cell? ⟨w.heap.size, 4, none⟩ = some (.slice A4 x.f4.length c4) := (blk_cell hbx 4).trans rfl
  clear hb0 hW0 hbx p3 g3 p4 g4 hx hw
  go_enter Try.func3, Try.ntmps3
  go_upto_region 1 with fail
  rw [← HW0.out]
  go_wp2_with fail
  refine (law_fits1 (v := cellsS x A3 c3 A4 c4) HX.out).mono ?_
  clear m0 m1 m2 m3 m4
  rintro e w1 ⟨⟨r, rfl⟩, hb1⟩
  have hbx1 := blk_below HBX.out hb1
  have HX1 := Aside0.mk (HX.out.below_ hb1)
  have HB1 := Aside0.mk (HB0.out.trans (hb1.mono HB0.out.size))
  have HBX1 := Aside0.mk hbx1
  have HS1 : Hid (w.heap.size < w1.heap.size) := Lib.hid (Nat.lt_of_lt_of_le HS0.out hb1.size)
  have m0 : w1.cell? ⟨w.heap.size, 0, none⟩ = some (.int .i64 x.f0) := (blk_cell hbx1 0).trans rfl
  have m1 : w1.cell? ⟨w.heap.size, 1, none⟩ = some (.int .i64 x.f1) := (blk_cell hbx1 1).trans rfl
  have m2 : w1.cell? ⟨w.heap.size, 2, none⟩ = some (.string x.f2) := (blk_cell hbx1 2).trans rfl
  have m3 : w1.cell? ⟨w.heap.size, 3, none⟩ = some (.slice A3 x.f3.length c3) := (blk_cell hbx1 3).trans rfl
  have m4 : w1.cell? ⟨w.heap.size, 4, none⟩ = some (.slice A4 x.f4.length c4) := (blk_cell hbx1 4).trans rfl
  clear hb1 hbx1
  cases r with
  | false =>
    go_wp2
    go_ret
    exact ⟨rfl, HB1.out⟩
  | true =>
    go_wp2_with fail
    refine (law_fit HBN.out (v := cellsS x A3 c3 A4 c4) HX1.out).mono ?_
    clear m0 m1 m2 m3 m4
    rintro e w2 ⟨y, u, rfl, hfy, hwy, hmy, hky, hb2⟩
    obtain ⟨B3, d3, B4, d4, rfl, _, _, _, _⟩ := hmy
    have hbx2 := blk_below HBX1.out hb2
    have HB2 := Aside0.mk (below_then HB1.out HB1.out.size hb2)
    obtain ⟨W3, hW3⟩ : ∃ W3 : World, W3 = (((((w2.setCell ⟨w.heap.size, 0, none⟩ (.int .i64 y.f0)).setCell ⟨w.heap.size, 1, none⟩ (.int .i64 y.f1)).setCell ⟨w.heap.size, 2, none⟩ (.string y.f2)).setCell ⟨w.heap.size, 3, none⟩ (.slice B3 y.f3.length d3)).setCell ⟨w.heap.size, 4, none⟩ (.slice B4 y.f4.length d4)) := ⟨_, rfl⟩
    have hbx3 : W3.heap[w.heap.size]? = some (.cells #[.int .i64 y.f0, .int .i64 y.f1, .string y.f2, .slice B3 y.f3.length d3, .slice B4 y.f4.length d4] 25 (0, 0)) := by rw [hW3]; exact box5 hbx2 _ _ _ _ _
    have HY3 : Aside0 (MadeS y W3 (cellsS y B3 d3 B4 d4)) := ⟨by rw [hW3]; exact hky _ (fun k hk _ => far5 (by have := HS1.out; omega) _ _ _ _ _)⟩
    have HB3 : Aside0 (Below w.heap.size w W3) := ⟨by rw [hW3]; exact below5 HB2.out _ (Nat.le_refl _) _ _ _ _ _⟩
    have HBX3 := Aside0.mk hbx3
    have HW3 := Lib.hid hW3
    have HFY := Lib.hid hfy
    have HWY : Hid (wt y ≤ 1048576) := Lib.hid (Nat.le_trans hwy HWT.out)
    have n0 : w2.cell? ⟨w.heap.size, 0, none⟩ = some (.int .i64 x.f0) := (blk_cell hbx2 0).trans rfl
    have n1 : w2.cell? ⟨w.heap.size, 1, none⟩ = some (.int .i64 x.f1) := (blk_cell hbx2 1).trans rfl
    have n2 : w2.cell? ⟨w.heap.size, 2, none⟩ = some (.string x.f2) := (blk_cell hbx2 2).trans rfl
    have n3 : w2.cell? ⟨w.heap.size, 3, none⟩ = some (.slice A3 x.f3.length c3) := (blk_cell hbx2 3).trans rfl
    have n4 : w2.cell? ⟨w.heap.size, 4, none⟩ = some (.slice A4 x.f4.length c4) := (blk_cell hbx2 4).trans rfl
    have f0 := blk_frozen hbx2 0
    have f1 := blk_frozen hbx2 1
    have f2 := blk_frozen hbx2 2
    have f3 := blk_frozen hbx2 3
    have f4 := blk_frozen hbx2 4
    clear hfy hwy hky hb2 hbx2 hW3 hbx3
    unfold cellsS
    go_upto_region 4 with fail
    rw [← HW3.out]
    clear n0 n1 n2 n3 n4 f0 f1 f2 f3 f4
    have q0 : W3.cell? ⟨w.heap.size, 0, none⟩ = some (.int .i64 y.f0) := (blk_cell HBX3.out 0).trans rfl
    have q1 : W3.cell? ⟨w.heap.size, 1, none⟩ = some (.int .i64 y.f1) := (blk_cell HBX3.out 1).trans rfl
    have q2 : W3.cell? ⟨w.heap.size, 2, none⟩ = some (.string y.f2) := (blk_cell HBX3.out 2).trans rfl
    have q3 : W3.cell? ⟨w.heap.size, 3, none⟩ = some (.slice B3 y.f3.length d3) := (blk_cell HBX3.out 3).trans rfl
    have q4 : W3.cell? ⟨w.heap.size, 4, none⟩ = some (.slice B4 y.f4.length d4) := (blk_cell HBX3.out 4).trans rfl
    have HPN := Lib.hid (spec_PartNeeds HFY.out HWY.out (v := cellsS y B3 d3 B4 d4) (w := W3) HY3.out)
    unfold cellsS at HPN
    go_wp2_with fail
    refine HPN.out.mono ?_
    clear q0 q1 q2 q3 q4
    rintro e w4 ⟨⟨r, said, rfl, hsaid⟩, hb4⟩
    obtain ⟨gl, hgl⟩ : ∃ gl, gl = w4.heap.size := ⟨_, rfl⟩
    obtain ⟨W5, hW5⟩ : ∃ W5 : World, W5 = w4.alloc (Obj.cells #[.int .i64 r.n0, .int .i64 r.n1, .string r.t, .slice r.A r.an r.ac, .slice r.B r.bn r.bc] 25) := ⟨_, rfl⟩
    have hg5 : W5.heap[gl]? = some (.cells #[.int .i64 r.n0, .int .i64 r.n1, .string r.t, .slice r.A r.an r.ac, .slice r.B r.bn r.bc] 25 (0, 0)) := by rw [hW5, hgl]; exact new_atI rfl
    have hb45 : Below w4.heap.size w4 W5 := by rw [hW5]; exact (Below.refl _ _).alloc (Nat.le_refl _) _
    have hb5 : Below W3.heap.size W3 W5 := below_then hb4 hb4.size hb45
    have HB5 : Aside0 (Below w.heap.size w W5) := ⟨below_then HB3.out HB3.out.size hb5⟩
    have HY5 := Aside0.mk (HY3.out.below_ hb5)
    have hbx5 := blk_below HBX3.out hb5
    have HW5 := Lib.hid hW5
    have HGL := Lib.hid hgl
    have q0 : W5.cell? ⟨w.heap.size, 0, none⟩ = some (.int .i64 y.f0) := (blk_cell hbx5 0).trans rfl
    have q1 : W5.cell? ⟨w.heap.size, 1, none⟩ = some (.int .i64 y.f1) := (blk_cell hbx5 1).trans rfl
    have q2 : W5.cell? ⟨w.heap.size, 2, none⟩ = some (.string y.f2) := (blk_cell hbx5 2).trans rfl
    have q3 : W5.cell? ⟨w.heap.size, 3, none⟩ = some (.slice B3 y.f3.length d3) := (blk_cell hbx5 3).trans rfl
    have q4 : W5.cell? ⟨w.heap.size, 4, none⟩ = some (.slice B4 y.f4.length d4) := (blk_cell hbx5 4).trans rfl
    have g0 : W5.cell? ⟨gl, 0, none⟩ = some (.int .i64 r.n0) := (blk_cell hg5 0).trans rfl
    have g1 : W5.cell? ⟨gl, 1, none⟩ = some (.int .i64 r.n1) := (blk_cell hg5 1).trans rfl
    have g2 : W5.cell? ⟨gl, 2, none⟩ = some (.string r.t) := (blk_cell hg5 2).trans rfl
    have g3 : W5.cell? ⟨gl, 3, none⟩ = some (.slice r.A r.an r.ac) := (blk_cell hg5 3).trans rfl
    have g4 : W5.cell? ⟨gl, 4, none⟩ = some (.slice r.B r.bn r.bc) := (blk_cell hg5 4).trans rfl
    have HSD : Hid (said = true → NeedsS y ∧ MadeS (needsS y) W5 r.val) := Lib.hid (fun h => ⟨(hsaid h).1, (hsaid h).2.below_ hb45⟩)
    clear hb4 hsaid hg5 hb45 hb5 hbx5 hW5 hgl
    go_upto_region 5 with fail
    rw [← HW5.out, ← HGL.out]
    cases said with
    | false =>
      go_wp2
      go_ret
      exact ⟨rfl, HB5.out⟩
    | true =>
      obtain ⟨hns, hmw⟩ := HSD.out (by first | rfl | trivial)
      obtain ⟨t, z, ht1, ht2, hc, hn1, hn2⟩ := need_facts HFY.out HWY.out hns
      have hcz : Canon z := hn2.canon
      have HPI := Lib.hid (laws_partIs 8 enters_needs g y (needsS y) t z ht1 ht2 (turns_needs hc hn1 g) (turns_needs hcz hn2 g) W5 (v := cellsS y B3 d3 B4 d4) (u := r.val) HY5.out hmw)
      unfold cellsS RV.val at HPI
      clear hns hmw ht1 ht2 hc hn1 hn2 hcz
      go_wp2_with fail
      refine HPI.out.mono ?_
      clear q0 q1 q2 q3 q4 g0 g1 g2 g3 g4
      rintro e w6 ⟨rfl, hb6⟩
      have HB6 := Aside0.mk (below_then HB5.out HB5.out.size hb6)
      clear hb6
      go_wp2
      go_ret
      exact ⟨rfl, HB6.out⟩
end Go.Proofs.Ytgeamhmenmomhaa.A
