/- The walk of the law on merges of models without a common key (printed by gen_mglaw.py). -/
import Derived.Test.YtiamiagjkfioiaaGreatDoorUni
namespace Go.Proofs.YtiamiagjkfioiaaGreatDoor.A
set_option linter.unusedVariables false
set_option linter.unusedSimpArgs false
set_option linter.unusedSectionVars false
open Go.RowKit Go.Proofs.YtiamiagjkfioiaaGreatDoorW.PrintWords Go.Proofs.YtiamiagjkfioiaaGreatDoorW.PrintLast Go.Proofs.YtiamiagjkfioiaaGreatDoorW.PrintMore Go.Proofs.YtiamiagjkfioiaaGreatDoor.PT Go.Proofs.YtiamiagjkfioiaaGreatDoor.L Go.Proofs.YtiamiagjkfioiaaGreatDoor.SM

set_option maxRecDepth 100000 in
/-- what spec.Has answers of a value with its cells -/
theorem has_ex {P : Nat → Prop} {w : World} {x : SV} {r : RV} (hd : DeepP P w x r) (hf : FineS x) (h5 : x.f0 = 5) (key : ByteArray) : ∃ b : Bool, (∀ W, Below w.heap.size w W → Calls Tryz.prog 21 #[.agg #[.int .i64 r.n0, .int .i64 r.n1, .string r.t, .slice r.A r.an r.ac, .slice r.B r.bn r.bc], .string key] W fun e w' => e = .returned (.bool b) ∧ Below W.heap.size W w') ∧ (b = false → key ∉ x.f3) := by
  obtain ⟨g, b, hget, _, hno⟩ := get_ex hd hf key
  refine ⟨b, fun W hW => ?_, fun hb => hno hb h5⟩
  have HC := Lib.hid (fun (V : World) (hV : Below W.heap.size W V) => hget V (hW.trans (hV.mono hW.size)))
  unfold RV.val at HC
  obtain ⟨W0, hW0⟩ : ∃ W0 : World, W0 = W.alloc (Obj.cells #[.int .i64 r.n0, .int .i64 r.n1, .string r.t, .slice r.A r.an r.ac, .slice r.B r.bn r.bc] 26) := ⟨_, rfl⟩
  have hb0 : Below W.heap.size W W0 := by rw [hW0]; exact (Below.refl _ _).alloc (Nat.le_refl _) _
  have HB0 := Aside0.mk hb0
  have HW0 := Lib.hid hW0
  clear hget hno hd hf h5 hW hb0 hW0
  go_enter Tryz.func21, Tryz.ntmps21
  go_wp2_with fail
  rw [← HW0.out]
  refine (HC.out W0 HB0.out).mono ?_
  rintro e w1 ⟨rfl, hb1⟩
  have HB1 := Aside0.mk (below_then HB0.out HB0.out.size hb1)
  clear hb1
  go_wp2
  go_ret
  exact ⟨rfl, HB1.out.alloc HB1.out.size _⟩
/-- the loop's state: the union as far as i keys -/
structure ApL (W7 wr : World) (a b : SV) (bt i : Nat) (z : SV) (t : RV) : Prop where
  box : wr.heap[bt]? = some (.cells #[.int .i64 t.n0, .int .i64 t.n1, .string t.t, .slice t.A t.an t.ac, .slice t.B t.bn t.bc] 26 (0, 0))
  uni : UniS a b i z
  deep : DeepP (fun k => k ≠ bt) wr z t
  bel : Below bt W7 wr
  size : bt < wr.heap.size
theorem wt_kids {x : SV} : x.f4.length ≤ wt x := by
  rw [wt_eq]
  have : ∀ l : List SV, l.length ≤ (l.map wt).sum := fun l => by
    induction l with
    | nil => exact Nat.le_refl _
    | cons a l ih =>
      have h1 : 1 ≤ wt a := by rw [wt_eq]; omega
      simp only [List.length_cons, List.map_cons, List.sum_cons]
      omega
  have := this x.f4
  omega
set_option maxHeartbeats 16000000 in
set_option maxRecDepth 100000 in
theorem law_MergeApart {x : SV} (hx : Bnd x) (hwx : wt x ≤ 1048576) {v : Value} {w : World} (hv : MadeS x w v) {y : SV} (hy : Bnd y) (hwy : wt y ≤ 1048576) {u : Value} (hu : MadeS y w u) :
    Calls Tryz.prog 5 #[v, u] w fun e w' => e = .returned (.bool true) ∧ Below w.heap.size w w' := by
  obtain ⟨A3, c3, A4, c4, rfl, p3, g3, p4, g4⟩ := hv
  obtain ⟨B3, d3, B4, d4, rfl, q3, j3, q4, j4⟩ := hu
  obtain ⟨W0, hW0⟩ : ∃ W0 : World, W0 = (w.alloc (Obj.cells #[.int .i64 x.f0, .int .i64 x.f1, .string x.f2, .slice A3 x.f3.length c3, .slice A4 x.f4.length c4] 26)).alloc (Obj.cells #[.int .i64 y.f0, .int .i64 y.f1, .string y.f2, .slice B3 y.f3.length d3, .slice B4 y.f4.length d4] 26) := ⟨_, rfl⟩
  have hb0 : Below w.heap.size w W0 := by rw [hW0]; exact ((Below.refl _ _).alloc (Nat.le_refl _) _).alloc (by simp) _
  have hbx : W0.heap[w.heap.size]? = some (.cells #[.int .i64 x.f0, .int .i64 x.f1, .string x.f2, .slice A3 x.f3.length c3, .slice A4 x.f4.length c4] 26 (0, 0)) := by rw [hW0]; exact heap_oldI (new_atI rfl)
  have hby : W0.heap[w.heap.size + 1]? = some (.cells #[.int .i64 y.f0, .int .i64 y.f1, .string y.f2, .slice B3 y.f3.length d3, .slice B4 y.f4.length d4] 26 (0, 0)) := by rw [hW0]; exact new_atI (by simp)
  have HX : Aside0 (MadeS x W0 (cellsS x A3 c3 A4 c4)) := ⟨A3, c3, A4, c4, rfl, p3, Kd.C_below g3 hb0, p4, Kd.C_below g4 hb0⟩
  have HY : Aside0 (MadeS y W0 (cellsS y B3 d3 B4 d4)) := ⟨B3, d3, B4, d4, rfl, q3, Kd.C_below j3 hb0, q4, Kd.C_below j4 hb0⟩
  have HB0 := Aside0.mk hb0
  have HBX := Aside0.mk hbx
  have HBY := Aside0.mk hby
  have HW0 := Lib.hid hW0
  have HS0 : Hid (W0.heap.size = w.heap.size + 2) := Lib.hid (by rw [hW0]; simp)
  have HFTX := Lib.hid (fun (W : World) (hW : Below W0.heap.size W0 W) => (spec_Fit hx W).use A3 c3 A4 c4 p3 (Kd.C_below (Kd.C_below g3 hb0) hW) p4 (Kd.C_below (Kd.C_below g4 hb0) hW))
  have HFTY := Lib.hid (fun (W : World) (hW : Below W0.heap.size W0 W) => (spec_Fit hy W).use B3 d3 B4 d4 q3 (Kd.C_below (Kd.C_below j3 hb0) hW) q4 (Kd.C_below (Kd.C_below j4 hb0) hW))
  have HWX := Lib.hid hwx
  have HWY := Lib.hid hwy
  have m0 : W0.cell? ⟨w.heap.size, 0, none⟩ = some (.int .i64 x.f0) := (blk_cell hbx 0).trans rfl
  have m1 : W0.cell? ⟨w.heap.size, 1, none⟩ = some (.int .i64 x.f1) := (blk_cell hbx 1).trans rfl
  have m2 : W0.cell? ⟨w.heap.size, 2, none⟩ = some (.string x.f2) := (blk_cell hbx 2).trans rfl
  have m3 : W0.cell? ⟨w.heap.size, 3, none⟩ = some (.slice A3 x.f3.length c3) := (blk_cell hbx 3).trans rfl
  have m4 : W0.cell? ⟨w.heap.size, 4, none⟩ = some (.slice A4 x.f4.length c4) := (blk_cell hbx 4).trans rfl
  clear hb0 hW0 hbx hby p3 g3 p4 g4 q3 j3 q4 j4 hx hy hwx hwy
  go_enter Tryz.func5, Tryz.ntmps5
  go_upto_region 1 with fail
  rw [← HW0.out]
  go_wp2_with fail
  refine (law_fits1 (v := cellsS x A3 c3 A4 c4) HX.out).mono ?_
  clear m0 m1 m2 m3 m4
  rintro e w1 ⟨⟨rr, rfl⟩, hb1⟩
  have HX1 := Aside0.mk (HX.out.below_ hb1)
  have HY1 := Aside0.mk (HY.out.below_ hb1)
  have HB1 := Aside0.mk (HB0.out.trans (hb1.mono HB0.out.size))
  have HBX1 := Aside0.mk (blk_below HBX.out hb1)
  have hby1 := blk_below HBY.out hb1
  have HBY1 := Aside0.mk hby1
  have HBA1 := Aside0.mk hb1
  have HS1 : Hid (w.heap.size + 2 ≤ w1.heap.size) := Lib.hid (by have h1 := HS0.out; have h2 := hb1.size; omega)
  clear hb1
  cases rr with
  | false =>
    clear hby1
    go_wp2
    go_ret
    exact ⟨rfl, HB1.out⟩
  | true =>
    have k0 : w1.cell? ⟨w.heap.size + 1, 0, none⟩ = some (.int .i64 y.f0) := (blk_cell hby1 0).trans rfl
    have k1 : w1.cell? ⟨w.heap.size + 1, 1, none⟩ = some (.int .i64 y.f1) := (blk_cell hby1 1).trans rfl
    have k2 : w1.cell? ⟨w.heap.size + 1, 2, none⟩ = some (.string y.f2) := (blk_cell hby1 2).trans rfl
    have k3 : w1.cell? ⟨w.heap.size + 1, 3, none⟩ = some (.slice B3 y.f3.length d3) := (blk_cell hby1 3).trans rfl
    have k4 : w1.cell? ⟨w.heap.size + 1, 4, none⟩ = some (.slice B4 y.f4.length d4) := (blk_cell hby1 4).trans rfl
    clear hby1
    go_wp2_with fail
    refine (law_fits1 (v := cellsS y B3 d3 B4 d4) HY1.out).mono ?_
    clear k0 k1 k2 k3 k4
    rintro e w2 ⟨⟨rr, rfl⟩, hb2⟩
    have HX2 := Aside0.mk (HX1.out.below_ hb2)
    have HY2 := Aside0.mk (HY1.out.below_ hb2)
    have HB2 := Aside0.mk (HB1.out.trans (hb2.mono HB1.out.size))
    have hbx2 := blk_below HBX1.out hb2
    have hby2 := blk_below HBY1.out hb2
    have HBX2 := Aside0.mk hbx2
    have HBY2 := Aside0.mk hby2
    have HBA2 := Aside0.mk hb2
    have HS2 : Hid (w.heap.size + 2 ≤ w2.heap.size) := Lib.hid (Nat.le_trans HS1.out hb2.size)
    clear hb2
    cases rr with
    | false =>
      clear hbx2 hby2
      go_wp2
      go_ret
      exact ⟨rfl, HB2.out⟩
    | true =>
      have m0 : w2.cell? ⟨w.heap.size, 0, none⟩ = some (.int .i64 x.f0) := (blk_cell hbx2 0).trans rfl
      have m1 : w2.cell? ⟨w.heap.size, 1, none⟩ = some (.int .i64 x.f1) := (blk_cell hbx2 1).trans rfl
      have m2 : w2.cell? ⟨w.heap.size, 2, none⟩ = some (.string x.f2) := (blk_cell hbx2 2).trans rfl
      have m3 : w2.cell? ⟨w.heap.size, 3, none⟩ = some (.slice A3 x.f3.length c3) := (blk_cell hbx2 3).trans rfl
      have m4 : w2.cell? ⟨w.heap.size, 4, none⟩ = some (.slice A4 x.f4.length c4) := (blk_cell hbx2 4).trans rfl
      have k0 : w2.cell? ⟨w.heap.size + 1, 0, none⟩ = some (.int .i64 y.f0) := (blk_cell hby2 0).trans rfl
      have k1 : w2.cell? ⟨w.heap.size + 1, 1, none⟩ = some (.int .i64 y.f1) := (blk_cell hby2 1).trans rfl
      have k2 : w2.cell? ⟨w.heap.size + 1, 2, none⟩ = some (.string y.f2) := (blk_cell hby2 2).trans rfl
      have k3 : w2.cell? ⟨w.heap.size + 1, 3, none⟩ = some (.slice B3 y.f3.length d3) := (blk_cell hby2 3).trans rfl
      have k4 : w2.cell? ⟨w.heap.size + 1, 4, none⟩ = some (.slice B4 y.f4.length d4) := (blk_cell hby2 4).trans rfl
      clear hbx2 hby2
      have HBZ2 := Aside0.mk (HBA1.out.trans (HBA2.out.mono HBA1.out.size))
      go_upto_region 3 with fail
      refine start_ (n := 6) (S := fun w' => w'.cell? ⟨w.heap.size, 0, none⟩ = some (.int .i64 x.f0) ∧ w'.cell? ⟨w.heap.size, 1, none⟩ = some (.int .i64 x.f1) ∧ w'.cell? ⟨w.heap.size, 2, none⟩ = some (.string x.f2) ∧ w'.cell? ⟨w.heap.size, 3, none⟩ = some (.slice A3 x.f3.length c3) ∧ w'.cell? ⟨w.heap.size, 4, none⟩ = some (.slice A4 x.f4.length c4) ∧ w'.cell? ⟨w.heap.size + 1, 0, none⟩ = some (.int .i64 y.f0) ∧ w'.cell? ⟨w.heap.size + 1, 1, none⟩ = some (.int .i64 y.f1) ∧ w'.cell? ⟨w.heap.size + 1, 2, none⟩ = some (.string y.f2) ∧ w'.cell? ⟨w.heap.size + 1, 3, none⟩ = some (.slice B3 y.f3.length d3) ∧ w'.cell? ⟨w.heap.size + 1, 4, none⟩ = some (.slice B4 y.f4.length d4)) (ds := [4, 5]) #[false, false, false, false, false, false] (by kernel_rfl) rfl rfl ⟨m0, m1, m2, m3, m4, k0, k1, k2, k3, k4⟩ (fun hHeld => ?_)
      refine take_ (i := 0) (N := some 19) (v := ?_) (a' := ?_) #[true, false, false, false, false, false] rfl rfl (by kernel_rfl) (fun _ _ _ h => h) (Or.inl ⟨by rfl, ?_⟩) hHeld ?_ ?_
      rotate_left
      · rintro w' ⟨s0, s1, s2, s3, s4, s5, s6, s7, s8, s9⟩
        go_simp
        with_reducible rfl
      rotate_left
      · simp only [Act.put, List.setIfInBounds_toArray, List.set_cons_zero, List.set_cons_succ, i64_w, i32_w]
        rfl
      refine take_ (i := 2) (N := some 21) (v := ?_) (a' := ?_) #[true, false, true, false, false, false] rfl rfl (by kernel_rfl) (fun _ _ _ h => h) (Or.inl ⟨by rfl, ?_⟩) hHeld ?_ ?_
      rotate_left
      · rintro w' ⟨s0, s1, s2, s3, s4, s5, s6, s7, s8, s9⟩
        go_simp
        with_reducible rfl
      rotate_left
      · simp only [Act.put, List.setIfInBounds_toArray, List.set_cons_zero, List.set_cons_succ, i64_w, i32_w]
        rfl
      refine one_ (i := 1) (N := some 20) #[true, true, true, false, false, false] rfl rfl (by kernel_rfl) (by decide) (fun K hK => ?_)
      refine goes_ Tryz.func18 (by kernel_rfl) rfl #[cellsS x A3 c3 A4 c4] (by rfl) rfl rfl (by simp only [List.map_toArray, List.map_cons, List.map_nil]; rfl) ?_
      with_reducible refine (HFTX.out w2.drew (below_drew1 HBZ2.out)).mono ?_
      rintro e w3 ⟨a, r, rfl, hfa, hwa, hda, hb3⟩
      refine ⟨_, rfl, ?_⟩
      unfold RV.val
      have hc3 : Below w2.heap.size w2 w3 := below_un hb3
      have HC3 := Aside0.mk hc3
      have HFA := Lib.hid hfa
      have HWA : Hid (wt a ≤ 1048576) := Lib.hid (Nat.le_trans hwa HWX.out)
      have HDA : Aside0 (DeepP (fun k => w2.heap.size ≤ k) w3 a r) := ⟨hda.imp (fun k hk _ => hk)⟩
      clear hfa hwa hda hb3 hc3
      refine hK.out _ _ ⟨(HC3.out.cell (World.block_lt_of_cell? w2 _ m0)).trans m0, (HC3.out.cell (World.block_lt_of_cell? w2 _ m1)).trans m1, (HC3.out.cell (World.block_lt_of_cell? w2 _ m2)).trans m2, (HC3.out.cell (World.block_lt_of_cell? w2 _ m3)).trans m3, (HC3.out.cell (World.block_lt_of_cell? w2 _ m4)).trans m4, (HC3.out.cell (World.block_lt_of_cell? w2 _ k0)).trans k0, (HC3.out.cell (World.block_lt_of_cell? w2 _ k1)).trans k1, (HC3.out.cell (World.block_lt_of_cell? w2 _ k2)).trans k2, (HC3.out.cell (World.block_lt_of_cell? w2 _ k3)).trans k3, (HC3.out.cell (World.block_lt_of_cell? w2 _ k4)).trans k4⟩ (fun hHeld => ?_)
      clear hK K
      refine norm_ (a' := ?_) ?_ ?_
      rotate_left
      · show Act.put _ (some 20) _ = _
        simp only [Act.put, List.setIfInBounds_toArray, List.set_cons_zero, List.set_cons_succ, i64_w, i32_w]
        rfl
      refine one_ (i := 3) (N := some 22) #[true, true, true, true, false, false] rfl rfl (by kernel_rfl) (by decide) (fun K hK => ?_)
      refine goes_ Tryz.func18 (by kernel_rfl) rfl #[cellsS y B3 d3 B4 d4] (by rfl) rfl rfl (by simp only [List.map_toArray, List.map_cons, List.map_nil]; rfl) ?_
      with_reducible refine (HFTY.out w3 (below_then HBZ2.out HBZ2.out.size HC3.out)).mono ?_
      rintro e w4 ⟨b, s, rfl, hfb, hwb, hdb, hb4⟩
      refine ⟨_, rfl, ?_⟩
      unfold RV.val
      have HC34 := Aside0.mk hb4
      have HC4 := Aside0.mk (below_then HC3.out HC3.out.size hb4)
      have HFB := Lib.hid hfb
      have HWB : Hid (wt b ≤ 1048576) := Lib.hid (Nat.le_trans hwb HWY.out)
      have HDB : Aside0 (DeepP (fun k => w2.heap.size ≤ k) w4 b s) := ⟨hdb.imp (fun k hk _ => Nat.le_trans HC3.out.size hk)⟩
      clear hfb hwb hdb hb4
      refine hK.out _ _ ⟨(HC4.out.cell (World.block_lt_of_cell? w2 _ m0)).trans m0, (HC4.out.cell (World.block_lt_of_cell? w2 _ m1)).trans m1, (HC4.out.cell (World.block_lt_of_cell? w2 _ m2)).trans m2, (HC4.out.cell (World.block_lt_of_cell? w2 _ m3)).trans m3, (HC4.out.cell (World.block_lt_of_cell? w2 _ m4)).trans m4, (HC4.out.cell (World.block_lt_of_cell? w2 _ k0)).trans k0, (HC4.out.cell (World.block_lt_of_cell? w2 _ k1)).trans k1, (HC4.out.cell (World.block_lt_of_cell? w2 _ k2)).trans k2, (HC4.out.cell (World.block_lt_of_cell? w2 _ k3)).trans k3, (HC4.out.cell (World.block_lt_of_cell? w2 _ k4)).trans k4⟩ (fun hHeld => ?_)
      clear hK K
      refine norm_ (a' := ?_) ?_ ?_
      rotate_left
      · show Act.put _ (some 22) _ = _
        simp only [Act.put, List.setIfInBounds_toArray, List.set_cons_zero, List.set_cons_succ, i64_w, i32_w]
        rfl
      refine last_ (i := 4) (N := none) #[true, true, true, true, true, false] rfl rfl (by kernel_rfl) (by decide) (fun K hK => ?_)
      refine store_step (cur := #[.int .i64 x.f0, .int .i64 x.f1, .string x.f2, .slice A3 x.f3.length c3, .slice A4 x.f4.length c4]) (e := 26) (g := w.heap.size) 26 _ _ (.agg #[.int .i64 r.n0, .int .i64 r.n1, .string r.t, .slice r.A r.an r.ac, .slice r.B r.bn r.bc]) [.int .i64 r.n0, .int .i64 r.n1, .string r.t, .slice r.A r.an r.ac, .slice r.B r.bn r.bc] (by rfl) rfl rfl rfl rfl (blk_below HBX2.out HC4.out) rfl (show (Tryz.prog.info? 26).map (·.size) = some 5 by kernel_rfl) rfl (by simp [Value.oneCell']) ?_
      intro w5 h_w5 hg_w5
      have H_w5 := Aside0.mk h_w5
      have HG_w5 := Aside0.mk hg_w5
      clear h_w5 hg_w5
      refine hK.out _ _ ?_
      clear hK K
      refine last_ (i := 5) (N := none) #[true, true, true, true, true, true] rfl rfl (by kernel_rfl) (by decide) (fun K hK => ?_)
      refine store_step (cur := #[.int .i64 y.f0, .int .i64 y.f1, .string y.f2, .slice B3 y.f3.length d3, .slice B4 y.f4.length d4]) (e := 26) (g := w.heap.size + 1) 26 _ _ (.agg #[.int .i64 s.n0, .int .i64 s.n1, .string s.t, .slice s.A s.an s.ac, .slice s.B s.bn s.bc]) [.int .i64 s.n0, .int .i64 s.n1, .string s.t, .slice s.A s.an s.ac, .slice s.B s.bn s.bc] (by rfl) rfl rfl rfl rfl ((HG_w5.out.block (w.heap.size + 1) (blk_lt (blk_below HBY2.out HC4.out)) (fun e => by injection e with e; omega)).trans (blk_below HBY2.out HC4.out)) rfl (show (Tryz.prog.info? 26).map (·.size) = some 5 by kernel_rfl) rfl (by simp [Value.oneCell']) ?_
      intro w6 h_w6 hg_w6
      have H_w6 := Aside0.mk h_w6
      have HG_w6 := Aside0.mk hg_w6
      clear h_w6 hg_w6
      refine hK.out _ _ ?_
      clear hK K
      refine done_ (by kernel_rfl) ?_
      
      clear m0 m1 m2 m3 m4 k0 k1 k2 k3 k4
      have HB6 : Aside0 (Below w.heap.size w w6) := ⟨((HB2.out.trans (HC4.out.mono HB2.out.size)).grown HG_w5.out (by have h1 := HC4.out.size; have h2 := HS2.out; omega) (fun k e => by injection e with e; omega)).grown HG_w6.out (by have h1 := HC4.out.size; have h2 := HS2.out; have h3 := HG_w5.out.size; omega) (fun k e => by injection e with e; omega)⟩
      have HSZ : Hid (w2.heap.size ≤ w6.heap.size) := Lib.hid (by have h1 := HC4.out.size; have h3 := HG_w5.out.size; have h4 := HG_w6.out.size; omega)
      have hfar : ∀ k, w2.heap.size ≤ k → k < w4.heap.size → w6.heap[k]? = w4.heap[k]? := fun k hk hlt => (HG_w6.out.block k (Nat.lt_of_lt_of_le hlt HG_w5.out.size) (fun e => by injection e with e; have h2 := HS2.out; omega)).trans (HG_w5.out.block k hlt (fun e => by injection e with e; have h2 := HS2.out; omega))
      have hda6 : DeepP (fun k => w2.heap.size ≤ k ∧ k < w6.heap.size) w6 a r := (((HDA.out.below_ HC34.out).kept (fun k hk hlt => hfar k hk hlt))).imp (fun k hk hlt => ⟨hk, hlt⟩)
      have hdb6 : DeepP (fun k => w2.heap.size ≤ k ∧ k < w6.heap.size) w6 b s := (HDB.out.kept (fun k hk hlt => hfar k hk hlt)).imp (fun k hk hlt => ⟨hk, hlt⟩)
      have hx6 : w6.heap[w.heap.size]? = some (.cells #[.int .i64 r.n0, .int .i64 r.n1, .string r.t, .slice r.A r.an r.ac, .slice r.B r.bn r.bc] 26 (0, 0)) := (HG_w6.out.block w.heap.size (blk_lt H_w5.out) (fun e => by injection e with e; omega)).trans H_w5.out
      have hy6 := H_w6.out
      obtain ⟨-, er0, -, -, -, -, -, -, -, -, -⟩ := hda6.rows
      obtain ⟨rs, es0, -, -, esn, -, esk, esm, -, esr, esa⟩ := hdb6.rows
      obtain ⟨s0, s1, st, sA, sn, sc, sB, n, sd⟩ := s
      obtain ⟨r0, r1, rt, rA, rn, rc, rB, rm, rd⟩ := r
      dsimp only at es0 esn esk esm esr hy6 er0 hx6 hda6 hdb6 ⊢
      have HDA6 := Aside0.mk hda6
      have HDB6 := Aside0.mk hdb6
      have HX6 := Aside0.mk hx6
      have HER : Hid (r0 = a.f0) := Lib.hid er0
      have HES : Hid (s0 = b.f0) := Lib.hid es0
      have HESK := Aside0.mk esk
      have HESR := Aside0.mk esr
      have HESA := Aside0.mk esa
      have ESN := Lib.hid esn
      have ESM := Lib.hid esm
      have HY6 := Aside0.mk hy6
      have m0 : w6.cell? ⟨w.heap.size, 0, none⟩ = some (.int .i64 r0) := (blk_cell hx6 0).trans rfl
      have k0 : w6.cell? ⟨w.heap.size + 1, 0, none⟩ = some (.int .i64 s0) := (blk_cell hy6 0).trans rfl
      clear hfar hda6 hdb6 hx6 er0 es0 esk esr esa esn esm hy6
      by_cases ha5 : r0 = 5
      case neg =>
        have tq : (r0 != 5) = true := by rw [bne_iff_ne]; exact ha5
        go_wp2
        go_ret
        exact ⟨rfl, HB6.out⟩
      have a5 : a.f0 = 5 := HER.out.symm.trans ha5
      subst ha5
      by_cases hb5 : s0 = 5
      case neg =>
        have tq : (s0 != 5) = true := by rw [bne_iff_ne]; exact hb5
        go_wp2
        go_ret
        exact ⟨rfl, HB6.out⟩
      have b5 : b.f0 = 5 := HES.out.symm.trans hb5
      subst hb5
      obtain ⟨hae, haa, hal, _, _⟩ := fineS_map HFA.out a5
      obtain ⟨hbe, hba, hbl, hbb, _⟩ := fineS_map HFB.out b5
      have hn4 : b.f4.length = n := by rw [ESM.out]
      have hn3 : n = b.f3.length := by rw [← hn4, hbl]
      have hsn : n = sn := by rw [ESN.out, hn3]
      have HN := Lib.hid hn3
      clear hn3
      subst hsn
      have A5 := Lib.hid a5
      have B5 := Lib.hid b5
      have HN4 := Lib.hid hn4
      have HNB : Hid (n ≤ 1048576) := Lib.hid (by rw [← hn4]; exact Nat.le_trans wt_kids HWB.out)
      have HAL : Hid (a.f4.length ≤ 1048576) := Lib.hid (Nat.le_trans wt_kids HWA.out)
      have hx6 := HX6.out
      have m1 : w6.cell? ⟨w.heap.size, 1, none⟩ = some (.int .i64 r1) := (blk_cell hx6 1).trans rfl
      have m2 : w6.cell? ⟨w.heap.size, 2, none⟩ = some (.string rt) := (blk_cell hx6 2).trans rfl
      have m3 : w6.cell? ⟨w.heap.size, 3, none⟩ = some (.slice rA rn rc) := (blk_cell hx6 3).trans rfl
      have m4 : w6.cell? ⟨w.heap.size, 4, none⟩ = some (.slice rB rm rd) := (blk_cell hx6 4).trans rfl
      clear hx6 a5 b5 hae haa hal hbe hba hbl hbb hn4
      obtain ⟨W7, hW7⟩ : ∃ W7 : World, W7 = w6.alloc (Obj.cells #[.int .i64 5, .int .i64 r1, .string rt, .slice rA rn rc, .slice rB rm rd] 26) := ⟨_, rfl⟩
      obtain ⟨bt, hbt⟩ : ∃ bt, bt = w6.heap.size := ⟨_, rfl⟩
      have hb7 : Below w6.heap.size w6 W7 := by rw [hW7]; exact (Below.refl _ _).alloc (Nat.le_refl _) _
      have HBT : Hid (w.heap.size + 2 ≤ bt) := Lib.hid (by rw [hbt]; exact Nat.le_trans HS2.out HSZ.out)
      have HT7 : Aside0 (W7.heap[bt]? = some (.cells #[.int .i64 5, .int .i64 r1, .string rt, .slice rA rn rc, .slice rB rm rd] 26 (0, 0))) := ⟨by rw [hW7, hbt]; exact new_atI rfl⟩
      have HX7 : Aside0 (W7.heap[w.heap.size]? = some (.cells #[.int .i64 5, .int .i64 r1, .string rt, .slice rA rn rc, .slice rB rm rd] 26 (0, 0))) := ⟨blk_below HX6.out hb7⟩
      have HY7 : Aside0 (W7.heap[w.heap.size + 1]? = some (.cells #[.int .i64 5, .int .i64 s1, .string st, .slice sA n sc, .slice sB n sd] 26 (0, 0))) := ⟨blk_below HY6.out hb7⟩
      have HB7 : Aside0 (Below w.heap.size w W7) := ⟨HB6.out.trans (hb7.mono HB6.out.size)⟩
      have HDA7 : Aside0 (DeepP (fun k => k < bt) W7 a ⟨5, r1, rt, rA, rn, rc, rB, rm, rd⟩) := ⟨(HDA6.out.below_ hb7).imp (fun k hk _ => by rw [hbt]; exact hk.2)⟩
      have HDB7 : Aside0 (DeepP (fun k => k < bt) W7 b ⟨5, s1, st, sA, n, sc, sB, n, sd⟩) := ⟨(HDB6.out.below_ hb7).imp (fun k hk _ => by rw [hbt]; exact hk.2)⟩
      have HSK := Aside0.mk (Kd.C_below HESK.out hb7)
      have HSR := Aside0.mk (Kd.C_below HESR.out hb7)
      have HSA : Aside0 (All2 (DeepP (fun k => k < bt) W7) b.f4 rs) := ⟨HESA.out.imp (fun _ _ h => (h.below_ hb7).imp (fun k hk _ => by rw [hbt]; exact hk.2))⟩
      have HRL : Hid (rs.length = n) := Lib.hid (by rw [← HN4.out]; exact HSA.out.1.symm)
      have HS7 : Hid (W7.heap.size = bt + 1) := Lib.hid (by rw [hW7, hbt]; simp)
      have HW7 := Lib.hid hW7
      have HBTE := Lib.hid hbt
      have HB67 := Aside0.mk hb7
      clear hb7 hW7 hbt
      go_upto_region 7 with fail
      rw [← HW7.out, ← HBTE.out]
      clear m0 m1 m2 m3 m4 k0
      have HST : Hid (ApL W7 W7 a b bt 0 a ⟨5, r1, rt, rA, rn, rc, rB, rm, rd⟩) := Lib.hid ⟨HT7.out, UniS.start HFA.out A5.out, HDA7.out.imp (fun k hk _ => Nat.ne_of_lt hk), Below.refl _ _, by rw [HS7.out]; exact Nat.lt_succ_self _⟩
      go_wp2
      go_loopw [6] (fun v6 wr => ∃ (i : Nat) (z : SV) (t : RV), i ≤ n ∧ v6 = .int .i64 i ∧ Aside0 (ApL W7 wr a b bt i z t)) (fun v6 _ => n - (intOf v6).toNat)
      case atStart => exact ⟨0, a, ⟨5, r1, rt, rA, rn, rc, rB, rm, rd⟩, Nat.zero_le _, rfl, ⟨HST.out⟩⟩
      case round =>
        obtain ⟨i, z, t, hi, rfl, HL⟩ := hrel
        have hbw : Below bt W7 wr := HL.out.bel
        have hx := (hbw.block w.heap.size (by have := HBT.out; omega)).trans HX7.out
        have hy := (hbw.block (w.heap.size + 1) (by have := HBT.out; omega)).trans HY7.out
        have HXR := Aside0.mk hx
        have HYR := Aside0.mk hy
        have HBW := Aside0.mk hbw
        have y3 : wr.cell? ⟨w.heap.size + 1, 3, none⟩ = some (.slice sA n sc) := (blk_cell hy 3).trans rfl
        clear hbw
        by_cases hlt : i < n
        · have i0 : (0 : Int) ≤ (i : Int) := Int.natCast_nonneg _
          have i1 : (i : Int) < (n : Int) := Int.ofNat_lt.2 hlt
          have h3 : i < b.f3.length := by rw [← HN.out]; exact hlt
          have h4 : i < b.f4.length := by rw [HN4.out]; exact hlt
          have hr : i < rs.length := by rw [HRL.out]; exact hlt
          have tr : ∀ {p : Addr} {u : Value}, w6.cell? p = some u → wr.cell? p = some u := fun h => by
            have hb := World.block_lt_of_cell? w6 _ h
            exact (HBW.out.cell (by rw [HBTE.out]; exact hb)).trans ((HB67.out.cell hb).trans h)
          obtain ⟨adk, eK, hk0⟩ := Kd.at_string HESK.out (i : Int) i0 (by rw [← HN.out]; exact i1)
          obtain ⟨ade, eA, he0, he1, he2, he3, he4⟩ := at_R HESR.out i hr hr
          obtain ⟨q, hq⟩ : ∃ q, q = rs[i]'hr := ⟨_, rfl⟩
          obtain ⟨key, hkey⟩ : ∃ key, key = b.f3[i]'h3 := ⟨_, rfl⟩
          rw [rdK h3, Int.toNat_natCast, ← hkey] at hk0
          rw [← hq] at he0 he1 he2 he3 he4
          replace hk0 := tr hk0
          replace he0 := tr he0
          replace he1 := tr he1
          replace he2 := tr he2
          replace he3 := tr he3
          replace he4 := tr he4
          obtain ⟨yb, hyb⟩ : ∃ yb, yb = b.f4[i]'h4 := ⟨_, rfl⟩
          have HYB : Hid (∀ h : i < b.f4.length, yb = b.f4[i]'h) := Lib.hid (fun _ => hyb)
          have HDQ : Aside0 (DeepP (fun k => k < bt) wr yb q) := ⟨by rw [hyb, hq]; exact (HSA.out.2 i h4 hr).kept (fun k hk _ => HBW.out.block k hk)⟩
          have hda : DeepP (fun k => k < bt) wr a ⟨5, r1, rt, rA, rn, rc, rB, rm, rd⟩ := HDA7.out.kept (fun k hk _ => HBW.out.block k hk)
          obtain ⟨hb, hhas, hno⟩ := has_ex hda HFA.out A5.out key
          have HHAS := Lib.hid hhas
          have HNO := Lib.hid hno
          have HKEY : Hid (∀ h : i < b.f3.length, key = b.f3[i]'h) := Lib.hid (fun _ => hkey)
          have HI3 := Lib.hid h3
          have HI4 := Lib.hid h4
          have HWR : Aside0 (Below w.heap.size w wr) := ⟨HB7.out.trans (HBW.out.mono (by have := HBT.out; omega))⟩
          have wk := wrF hlt (Nat.le_trans HNB.out (by decide))
          have x0 : wr.cell? ⟨w.heap.size, 0, none⟩ = some (.int .i64 5) := (blk_cell hx 0).trans rfl
          have x1 : wr.cell? ⟨w.heap.size, 1, none⟩ = some (.int .i64 r1) := (blk_cell hx 1).trans rfl
          have x2 : wr.cell? ⟨w.heap.size, 2, none⟩ = some (.string rt) := (blk_cell hx 2).trans rfl
          have x3 : wr.cell? ⟨w.heap.size, 3, none⟩ = some (.slice rA rn rc) := (blk_cell hx 3).trans rfl
          have x4 : wr.cell? ⟨w.heap.size, 4, none⟩ = some (.slice rB rm rd) := (blk_cell hx 4).trans rfl
          have y4 : wr.cell? ⟨w.heap.size + 1, 4, none⟩ = some (.slice sB n sd) := (blk_cell hy 4).trans rfl
          subst eK
          subst eA
          clear hx hy tr h3 h4 hr hq hkey hyb hda hhas hno
          go_upto_region 10 with fail
          refine start_ (n := 7) (S := fun w' => w'.cell? ⟨w.heap.size, 0, none⟩ = some (.int .i64 5) ∧ w'.cell? ⟨w.heap.size, 1, none⟩ = some (.int .i64 r1) ∧ w'.cell? ⟨w.heap.size, 2, none⟩ = some (.string rt) ∧ w'.cell? ⟨w.heap.size, 3, none⟩ = some (.slice rA rn rc) ∧ w'.cell? ⟨w.heap.size, 4, none⟩ = some (.slice rB rm rd) ∧ w'.cell? ⟨w.heap.size + 1, 3, none⟩ = some (.slice (some adk) n sc) ∧ w'.cell? (adk.add i) = some (.string key)) (ds := []) #[false, false, false, false, false, false, false] (by kernel_rfl) rfl rfl ⟨x0, x1, x2, x3, x4, y3, hk0⟩ (fun hHeld => ?_)
          refine pure_ (i := 1) (N := some 40) (v := ?_) (a' := ?_) #[false, true, false, false, false, false, false] rfl rfl (by kernel_rfl) (fun _ _ _ h => h) (Or.inl ⟨by rfl, ?_⟩) ?_ ?_
          rotate_left
          · intro w'
            go_simp
            with_reducible rfl
          rotate_left
          · simp only [Act.put, List.setIfInBounds_toArray, List.set_cons_zero, List.set_cons_succ, i64_w, i32_w]
            rfl
          refine pure_ (i := 3) (N := some 42) (v := ?_) (a' := ?_) #[false, true, false, true, false, false, false] rfl rfl (by kernel_rfl) (fun _ _ _ h => h) (Or.inl ⟨by rfl, ?_⟩) ?_ ?_
          rotate_left
          · intro w'
            go_simp
            with_reducible rfl
          rotate_left
          · simp only [Act.put, List.setIfInBounds_toArray, List.set_cons_zero, List.set_cons_succ, i64_w, i32_w]
            rfl
          refine take_ (i := 0) (N := some 39) (v := ?_) (a' := ?_) #[true, true, false, true, false, false, false] rfl rfl (by kernel_rfl) (fun _ _ _ h => h) (Or.inl ⟨by rfl, ?_⟩) hHeld ?_ ?_
          rotate_left
          · rintro w' ⟨s0, s1, s2, s3, s4, s5, s6⟩
            go_simp
            with_reducible rfl
          rotate_left
          · simp only [Act.put, List.setIfInBounds_toArray, List.set_cons_zero, List.set_cons_succ, i64_w, i32_w]
            rfl
          refine take_ (i := 2) (N := some 41) (v := ?_) (a' := ?_) #[true, true, true, true, false, false, false] rfl rfl (by kernel_rfl) (fun _ _ _ h => h) (Or.inl ⟨by rfl, ?_⟩) hHeld ?_ ?_
          rotate_left
          · rintro w' ⟨s0, s1, s2, s3, s4, s5, s6⟩
            go_simp
            with_reducible rfl
          rotate_left
          · simp only [Act.put, List.setIfInBounds_toArray, List.set_cons_zero, List.set_cons_succ, i64_w, i32_w]
            rfl
          refine pure_ (i := 4) (N := some 43) (v := ?_) (a' := ?_) #[true, true, true, true, true, false, false] rfl rfl (by kernel_rfl) (fun _ _ _ h => h) (Or.inl ⟨by rfl, ?_⟩) ?_ ?_
          rotate_left
          · intro w'
            go_simp
            with_reducible rfl
          rotate_left
          · simp only [Act.put, List.setIfInBounds_toArray, List.set_cons_zero, List.set_cons_succ, i64_w, i32_w]
            rfl
          refine take_ (i := 5) (N := some 44) (v := ?_) (a' := ?_) #[true, true, true, true, true, true, false] rfl rfl (by kernel_rfl) (fun _ _ _ h => h) (Or.inl ⟨by rfl, ?_⟩) hHeld ?_ ?_
          rotate_left
          · rintro w' ⟨s0, s1, s2, s3, s4, s5, s6⟩
            go_simp
            with_reducible rfl
          rotate_left
          · simp only [Act.put, List.setIfInBounds_toArray, List.set_cons_zero, List.set_cons_succ, i64_w, i32_w]
            rfl
          refine one_ (i := 6) (N := some 45) #[true, true, true, true, true, true, true] rfl rfl (by kernel_rfl) (by decide) (fun K hK => ?_)
          refine goes_ Tryz.func21 (by kernel_rfl) rfl #[.agg #[.int .i64 5, .int .i64 r1, .string rt, .slice rA rn rc, .slice rB rm rd], .string key] (by rfl) rfl rfl (by simp only [List.map_toArray, List.map_cons, List.map_nil]; rfl) ?_
          with_reducible refine (HHAS.out wr.drew (below_drew1 (Below.refl _ _))).mono ?_
          rintro e w8 ⟨rfl, hb8⟩
          refine ⟨_, rfl, ?_⟩
          have hc8 : Below wr.heap.size wr w8 := below_un hb8
          have HC8 := Aside0.mk hc8
          clear hb8 hc8
          refine hK.out _ _ ⟨(HC8.out.cell (World.block_lt_of_cell? wr _ x0)).trans x0, (HC8.out.cell (World.block_lt_of_cell? wr _ x1)).trans x1, (HC8.out.cell (World.block_lt_of_cell? wr _ x2)).trans x2, (HC8.out.cell (World.block_lt_of_cell? wr _ x3)).trans x3, (HC8.out.cell (World.block_lt_of_cell? wr _ x4)).trans x4, (HC8.out.cell (World.block_lt_of_cell? wr _ y3)).trans y3, (HC8.out.cell (World.block_lt_of_cell? wr _ hk0)).trans hk0⟩ (fun hHeld => ?_)
          clear hK K
          refine norm_ (a' := ?_) ?_ ?_
          rotate_left
          · show Act.put _ (some 45) _ = _
            simp only [Act.put, List.setIfInBounds_toArray, List.set_cons_zero, List.set_cons_succ, i64_w, i32_w]
            rfl
          refine done_ (by kernel_rfl) ?_
          
          cases hb with
          | true =>
            go_wp2
            go_ret
            exact ⟨rfl, HWR.out.trans (HC8.out.mono HWR.out.size)⟩
          | false =>
            have hnk : key ∉ a.f3 := HNO.out rfl
            have HNK := Lib.hid hnk
            obtain ⟨_, hza, hzl, hzb, _⟩ := fineS_map HL.out.uni.fine HL.out.uni.z5
            have hzb3 : z.f3.length ≤ 1099511627776 := by rw [← hzl]; exact hzb
            have HT8 := Aside0.mk (blk_below HL.out.box HC8.out)
            have HBS : Hid (bt < w8.heap.size) := Lib.hid (Nat.lt_of_lt_of_le HL.out.size HC8.out.size)
            have HWITH := Lib.hid (fun (W : World) (hW : Below w8.heap.size w8 W) => law_WithN (P := fun k => k ≠ bt) (((HL.out.deep.below_ HC8.out)).below_ hW) hzl hzb3 key (((HDQ.out.below_ HC8.out).imp (fun k hk _ => Nat.ne_of_lt hk)).below_ hW) (fun k hk => by have h1 := HBS.out; have h2 := hW.size; omega))
            unfold RV.val at HWITH
            have t0 : w8.cell? ⟨bt, 0, none⟩ = some (.int .i64 t.n0) := (blk_cell HT8.out 0).trans rfl
            have t1 : w8.cell? ⟨bt, 1, none⟩ = some (.int .i64 t.n1) := (blk_cell HT8.out 1).trans rfl
            have t2 : w8.cell? ⟨bt, 2, none⟩ = some (.string t.t) := (blk_cell HT8.out 2).trans rfl
            have t3 : w8.cell? ⟨bt, 3, none⟩ = some (.slice t.A t.an t.ac) := (blk_cell HT8.out 3).trans rfl
            have t4 : w8.cell? ⟨bt, 4, none⟩ = some (.slice t.B t.bn t.bc) := (blk_cell HT8.out 4).trans rfl
            have tr : ∀ {p : Addr} {u : Value}, wr.cell? p = some u → w8.cell? p = some u := fun h => (HC8.out.cell (World.block_lt_of_cell? wr _ h)).trans h
            replace y3 := tr y3
            replace y4 := tr y4
            replace hk0 := tr hk0
            replace he0 := tr he0
            replace he1 := tr he1
            replace he2 := tr he2
            replace he3 := tr he3
            replace he4 := tr he4
            clear tr x0 x1 x2 x3 x4 hnk hza hzl hzb hzb3
            go_upto_region 12 with fail
            refine start_ (n := 13) (S := fun w' => w'.cell? ⟨bt, 0, none⟩ = some (.int .i64 t.n0) ∧ w'.cell? ⟨bt, 1, none⟩ = some (.int .i64 t.n1) ∧ w'.cell? ⟨bt, 2, none⟩ = some (.string t.t) ∧ w'.cell? ⟨bt, 3, none⟩ = some (.slice t.A t.an t.ac) ∧ w'.cell? ⟨bt, 4, none⟩ = some (.slice t.B t.bn t.bc) ∧ w'.cell? ⟨w.heap.size + 1, 3, none⟩ = some (.slice (some adk) n sc) ∧ w'.cell? ⟨w.heap.size + 1, 4, none⟩ = some (.slice (some ade) n sd) ∧ w'.cell? (adk.add i) = some (.string key) ∧ w'.cell? (ade.add (i * 5)) = some (.int .i64 q.n0) ∧ w'.cell? ⟨(ade.add (i * 5)).block, (ade.add (i * 5)).off + 1, none⟩ = some (.int .i64 q.n1) ∧ w'.cell? ⟨(ade.add (i * 5)).block, (ade.add (i * 5)).off + 2, none⟩ = some (.string q.t) ∧ w'.cell? ⟨(ade.add (i * 5)).block, (ade.add (i * 5)).off + 3, none⟩ = some (.slice q.A q.an q.ac) ∧ w'.cell? ⟨(ade.add (i * 5)).block, (ade.add (i * 5)).off + 4, none⟩ = some (.slice q.B q.bn q.bc)) (ds := [12]) #[false, false, false, false, false, false, false, false, false, false, false, false, false] (by kernel_rfl) rfl rfl ⟨t0, t1, t2, t3, t4, y3, y4, hk0, he0, he1, he2, he3, he4⟩ (fun hHeld => ?_)
            refine pure_ (i := 1) (N := some 47) (v := ?_) (a' := ?_) #[false, true, false, false, false, false, false, false, false, false, false, false, false] rfl rfl (by kernel_rfl) (fun _ _ _ h => h) (Or.inl ⟨by rfl, ?_⟩) ?_ ?_
            rotate_left
            · intro w'
              go_simp
              with_reducible rfl
            rotate_left
            · simp only [Act.put, List.setIfInBounds_toArray, List.set_cons_zero, List.set_cons_succ, i64_w, i32_w]
              rfl
            refine pure_ (i := 3) (N := some 49) (v := ?_) (a' := ?_) #[false, true, false, true, false, false, false, false, false, false, false, false, false] rfl rfl (by kernel_rfl) (fun _ _ _ h => h) (Or.inl ⟨by rfl, ?_⟩) ?_ ?_
            rotate_left
            · intro w'
              go_simp
              with_reducible rfl
            rotate_left
            · simp only [Act.put, List.setIfInBounds_toArray, List.set_cons_zero, List.set_cons_succ, i64_w, i32_w]
              rfl
            refine pure_ (i := 6) (N := some 52) (v := ?_) (a' := ?_) #[false, true, false, true, false, false, true, false, false, false, false, false, false] rfl rfl (by kernel_rfl) (fun _ _ _ h => h) (Or.inl ⟨by rfl, ?_⟩) ?_ ?_
            rotate_left
            · intro w'
              go_simp
              with_reducible rfl
            rotate_left
            · simp only [Act.put, List.setIfInBounds_toArray, List.set_cons_zero, List.set_cons_succ, i64_w, i32_w]
              rfl
            refine pure_ (i := 8) (N := some 54) (v := ?_) (a' := ?_) #[false, true, false, true, false, false, true, false, true, false, false, false, false] rfl rfl (by kernel_rfl) (fun _ _ _ h => h) (Or.inl ⟨by rfl, ?_⟩) ?_ ?_
            rotate_left
            · intro w'
              go_simp
              with_reducible rfl
            rotate_left
            · simp only [Act.put, List.setIfInBounds_toArray, List.set_cons_zero, List.set_cons_succ, i64_w, i32_w]
              rfl
            refine take_ (i := 0) (N := some 46) (v := ?_) (a' := ?_) #[true, true, false, true, false, false, true, false, true, false, false, false, false] rfl rfl (by kernel_rfl) (fun _ _ _ h => h) (Or.inl ⟨by rfl, ?_⟩) hHeld ?_ ?_
            rotate_left
            · rintro w' ⟨s0, s1, s2, s3, s4, s5, s6, s7, s8, s9, s10, s11, s12⟩
              go_simp
              with_reducible rfl
            rotate_left
            · simp only [Act.put, List.setIfInBounds_toArray, List.set_cons_zero, List.set_cons_succ, i64_w, i32_w]
              rfl
            refine take_ (i := 2) (N := some 48) (v := ?_) (a' := ?_) #[true, true, true, true, false, false, true, false, true, false, false, false, false] rfl rfl (by kernel_rfl) (fun _ _ _ h => h) (Or.inl ⟨by rfl, ?_⟩) hHeld ?_ ?_
            rotate_left
            · rintro w' ⟨s0, s1, s2, s3, s4, s5, s6, s7, s8, s9, s10, s11, s12⟩
              go_simp
              with_reducible rfl
            rotate_left
            · simp only [Act.put, List.setIfInBounds_toArray, List.set_cons_zero, List.set_cons_succ, i64_w, i32_w]
              rfl
            refine pure_ (i := 4) (N := some 50) (v := ?_) (a' := ?_) #[true, true, true, true, true, false, true, false, true, false, false, false, false] rfl rfl (by kernel_rfl) (fun _ _ _ h => h) (Or.inl ⟨by rfl, ?_⟩) ?_ ?_
            rotate_left
            · intro w'
              go_simp
              with_reducible rfl
            rotate_left
            · simp only [Act.put, List.setIfInBounds_toArray, List.set_cons_zero, List.set_cons_succ, i64_w, i32_w]
              rfl
            refine take_ (i := 5) (N := some 51) (v := ?_) (a' := ?_) #[true, true, true, true, true, true, true, false, true, false, false, false, false] rfl rfl (by kernel_rfl) (fun _ _ _ h => h) (Or.inl ⟨by rfl, ?_⟩) hHeld ?_ ?_
            rotate_left
            · rintro w' ⟨s0, s1, s2, s3, s4, s5, s6, s7, s8, s9, s10, s11, s12⟩
              go_simp
              with_reducible rfl
            rotate_left
            · simp only [Act.put, List.setIfInBounds_toArray, List.set_cons_zero, List.set_cons_succ, i64_w, i32_w]
              rfl
            refine take_ (i := 7) (N := some 53) (v := ?_) (a' := ?_) #[true, true, true, true, true, true, true, true, true, false, false, false, false] rfl rfl (by kernel_rfl) (fun _ _ _ h => h) (Or.inl ⟨by rfl, ?_⟩) hHeld ?_ ?_
            rotate_left
            · rintro w' ⟨s0, s1, s2, s3, s4, s5, s6, s7, s8, s9, s10, s11, s12⟩
              go_simp
              with_reducible rfl
            rotate_left
            · simp only [Act.put, List.setIfInBounds_toArray, List.set_cons_zero, List.set_cons_succ, i64_w, i32_w]
              rfl
            refine pure_ (i := 9) (N := some 55) (v := ?_) (a' := ?_) #[true, true, true, true, true, true, true, true, true, true, false, false, false] rfl rfl (by kernel_rfl) (fun _ _ _ h => h) (Or.inl ⟨by rfl, ?_⟩) ?_ ?_
            rotate_left
            · intro w'
              go_simp
              with_reducible rfl
            rotate_left
            · simp only [Act.put, List.setIfInBounds_toArray, List.set_cons_zero, List.set_cons_succ, i64_w, i32_w]
              rfl
            refine take_ (i := 10) (N := some 56) (v := ?_) (a' := ?_) #[true, true, true, true, true, true, true, true, true, true, true, false, false] rfl rfl (by kernel_rfl) (fun _ _ _ h => h) (Or.inl ⟨by rfl, ?_⟩) hHeld ?_ ?_
            rotate_left
            · rintro w' ⟨s0, s1, s2, s3, s4, s5, s6, s7, s8, s9, s10, s11, s12⟩
              go_simp
              with_reducible rfl
            rotate_left
            · simp only [Act.put, List.setIfInBounds_toArray, List.set_cons_zero, List.set_cons_succ, i64_w, i32_w]
              rfl
            refine one_ (i := 11) (N := some 57) #[true, true, true, true, true, true, true, true, true, true, true, true, false] rfl rfl (by kernel_rfl) (by decide) (fun K hK => ?_)
            refine goes_ Tryz.func22 (by kernel_rfl) rfl #[.agg #[.int .i64 t.n0, .int .i64 t.n1, .string t.t, .slice t.A t.an t.ac, .slice t.B t.bn t.bc], .string key, .agg #[.int .i64 q.n0, .int .i64 q.n1, .string q.t, .slice q.A q.an q.ac, .slice q.B q.bn q.bc]] (by rfl) rfl rfl (by simp only [List.map_toArray, List.map_cons, List.map_nil]; rfl) ?_
            with_reducible refine (HWITH.out w8.drew (below_drew1 (Below.refl _ _))).mono ?_
            rintro e w9 ⟨⟨tt, rfl, hd9⟩, hb9⟩
            refine ⟨_, rfl, ?_⟩
            have hc9 : Below w8.heap.size w8 w9 := below_un hb9
            have HC9 := Aside0.mk hc9
            have HD9 := Aside0.mk hd9
            clear hb9 hc9 hd9
            refine hK.out _ _ ⟨(HC9.out.cell (World.block_lt_of_cell? w8 _ t0)).trans t0, (HC9.out.cell (World.block_lt_of_cell? w8 _ t1)).trans t1, (HC9.out.cell (World.block_lt_of_cell? w8 _ t2)).trans t2, (HC9.out.cell (World.block_lt_of_cell? w8 _ t3)).trans t3, (HC9.out.cell (World.block_lt_of_cell? w8 _ t4)).trans t4, (HC9.out.cell (World.block_lt_of_cell? w8 _ y3)).trans y3, (HC9.out.cell (World.block_lt_of_cell? w8 _ y4)).trans y4, (HC9.out.cell (World.block_lt_of_cell? w8 _ hk0)).trans hk0, (HC9.out.cell (World.block_lt_of_cell? w8 _ he0)).trans he0, (HC9.out.cell (World.block_lt_of_cell? w8 _ he1)).trans he1, (HC9.out.cell (World.block_lt_of_cell? w8 _ he2)).trans he2, (HC9.out.cell (World.block_lt_of_cell? w8 _ he3)).trans he3, (HC9.out.cell (World.block_lt_of_cell? w8 _ he4)).trans he4⟩ (fun hHeld => ?_)
            clear hK K
            refine norm_ (a' := ?_) ?_ ?_
            rotate_left
            · show Act.put _ (some 57) _ = _
              simp only [Act.put, List.setIfInBounds_toArray, List.set_cons_zero, List.set_cons_succ, i64_w, i32_w]
              rfl
            refine last_ (i := 12) (N := none) #[true, true, true, true, true, true, true, true, true, true, true, true, true] rfl rfl (by kernel_rfl) (by decide) (fun K hK => ?_)
            refine store_step (cur := #[.int .i64 t.n0, .int .i64 t.n1, .string t.t, .slice t.A t.an t.ac, .slice t.B t.bn t.bc]) (e := 26) (g := bt) 26 _ _ (.agg #[.int .i64 tt.n0, .int .i64 tt.n1, .string tt.t, .slice tt.A tt.an tt.ac, .slice tt.B tt.bn tt.bc]) [.int .i64 tt.n0, .int .i64 tt.n1, .string tt.t, .slice tt.A tt.an tt.ac, .slice tt.B tt.bn tt.bc] (by rfl) rfl rfl rfl rfl (blk_below HT8.out HC9.out) rfl (show (Tryz.prog.info? 26).map (·.size) = some 5 by kernel_rfl) rfl (by simp [Value.oneCell']) ?_
            intro w10 h_w10 hg_w10
            have H_w10 := Aside0.mk h_w10
            have HG_w10 := Aside0.mk hg_w10
            clear h_w10 hg_w10
            refine hK.out _ _ ?_
            clear hK K
            refine done_ (by kernel_rfl) ?_
            
            clear t0 t1 t2 t3 t4 y3 y4 hk0 he0 he1 he2 he3 he4
            go_wp2
            go_roundw
            case rel =>
              have hke := HKEY.out HI3.out
              have hnx := HL.out.uni.next HFB.out B5.out HI3.out HI4.out (by rw [← hke]; exact HNK.out) (by have h1 := HAL.out; have h2 := HNB.out; omega)
              rw [← hke, ← HYB.out HI4.out] at hnx
              refine ⟨i + 1, _, tt, hlt, by go_num, ⟨⟨H_w10.out, hnx, HD9.out.kept (fun k hk hlt' => HG_w10.out.block k hlt' (fun e => by injection e with e; exact hk e)), ?_, ?_⟩⟩⟩
              · exact ((HBW.out.trans (HC8.out.mono (Nat.le_of_lt HL.out.size))).trans (HC9.out.mono (Nat.le_of_lt HBS.out))).grown HG_w10.out (Nat.le_of_lt (Nat.lt_of_lt_of_le HBS.out HC9.out.size)) (fun k e => by injection e with e; omega)
              · exact Nat.lt_of_lt_of_le HBS.out (Nat.le_trans HC9.out.size HG_w10.out.size)
            case measure => first | exact msF hlt | (rw [wk]; exact msF hlt)
        · obtain rfl : i = n := by omega
          have hlt0 : ¬ ((i : Int) < (i : Int)) := Int.lt_irrefl _
          have hun := HL.out.uni
          rw [HN.out] at hun
          obtain ⟨hm1, hm2⟩ := hun.mrg HFA.out A5.out HFB.out B5.out noRule_be
          obtain ⟨zi, hzi⟩ : ∃ zi, zi = toI z := ⟨_, rfl⟩
          obtain ⟨tz, fz⟩ := hun.fine.isI
          have z5 : zi.f0 = 5 := by rw [hzi, toI_eq]; exact hun.z5
          rw [← hzi] at hm1 hm2 tz fz
          have e5 : ∀ q : SV, q.f0 = 5 → (toI q).f0 = 5 := fun q h => by rw [toI_eq]; exact h
          obtain ⟨ta, fa⟩ := HFA.out.isI
          obtain ⟨tb, fb⟩ := HFB.out.isI
          have HMGA := Lib.hid (fun (v u : Value) (W : World) (h1 : MadeI (toI a) W v) (h2 : MadeI (toI b) W u) => impl_Merge hm1 z5 fa fb (e5 a A5.out) (e5 b B5.out) h1 h2)
          have HMGB := Lib.hid (fun (v u : Value) (W : World) (h1 : MadeI (toI b) W v) (h2 : MadeI (toI a) W u) => impl_Merge hm2 z5 fb fa (e5 b B5.out) (e5 a A5.out) h1 h2)
          have HTA := Lib.hid ta
          have HTB := Lib.hid tb
          have HTZ := Lib.hid tz
          have HBDZ := Lib.hid tz.bnd
          have hma : MadeS a wr (.agg #[.int .i64 5, .int .i64 r1, .string rt, .slice rA rn rc, .slice rB rm rd]) := (HDA7.out.kept (fun k hk _ => HBW.out.block k hk)).parts
          have hmb : MadeS b wr (.agg #[.int .i64 5, .int .i64 s1, .string st, .slice sA i sc, .slice sB i sd]) := (HDB7.out.kept (fun k hk _ => HBW.out.block k hk)).parts
          have hmz : MadeS z wr (.agg #[.int .i64 t.n0, .int .i64 t.n1, .string t.t, .slice t.A t.an t.ac, .slice t.B t.bn t.bc]) := HL.out.deep.parts
          have HMA := Aside0.mk hma
          have HMB := Aside0.mk hmb
          have HMZ := Aside0.mk hmz
          have HWR : Aside0 (Below w.heap.size w wr) := ⟨HB7.out.trans (HBW.out.mono (by have := HBT.out; omega))⟩
          have HBX := Aside0.mk HL.out.box
          clear y3
          have x0 : wr.cell? ⟨w.heap.size, 0, none⟩ = some (.int .i64 5) := (blk_cell hx 0).trans rfl
          have x1 : wr.cell? ⟨w.heap.size, 1, none⟩ = some (.int .i64 r1) := (blk_cell hx 1).trans rfl
          have x2 : wr.cell? ⟨w.heap.size, 2, none⟩ = some (.string rt) := (blk_cell hx 2).trans rfl
          have x3 : wr.cell? ⟨w.heap.size, 3, none⟩ = some (.slice rA rn rc) := (blk_cell hx 3).trans rfl
          have x4 : wr.cell? ⟨w.heap.size, 4, none⟩ = some (.slice rB rm rd) := (blk_cell hx 4).trans rfl
          have y0 : wr.cell? ⟨w.heap.size + 1, 0, none⟩ = some (.int .i64 5) := (blk_cell hy 0).trans rfl
          have y1 : wr.cell? ⟨w.heap.size + 1, 1, none⟩ = some (.int .i64 s1) := (blk_cell hy 1).trans rfl
          have y2 : wr.cell? ⟨w.heap.size + 1, 2, none⟩ = some (.string st) := (blk_cell hy 2).trans rfl
          have y3 : wr.cell? ⟨w.heap.size + 1, 3, none⟩ = some (.slice sA i sc) := (blk_cell hy 3).trans rfl
          have y4 : wr.cell? ⟨w.heap.size + 1, 4, none⟩ = some (.slice sB i sd) := (blk_cell hy 4).trans rfl
          clear hx hy hun hm1 hm2 hzi tz fz z5 e5 ta fa tb fb hma hmb hmz
          go_upto_region 13 with fail
          refine start_ (n := 11) (S := fun w' => w'.cell? ⟨w.heap.size, 0, none⟩ = some (.int .i64 5) ∧ w'.cell? ⟨w.heap.size, 1, none⟩ = some (.int .i64 r1) ∧ w'.cell? ⟨w.heap.size, 2, none⟩ = some (.string rt) ∧ w'.cell? ⟨w.heap.size, 3, none⟩ = some (.slice rA rn rc) ∧ w'.cell? ⟨w.heap.size, 4, none⟩ = some (.slice rB rm rd) ∧ w'.cell? ⟨w.heap.size + 1, 0, none⟩ = some (.int .i64 5) ∧ w'.cell? ⟨w.heap.size + 1, 1, none⟩ = some (.int .i64 s1) ∧ w'.cell? ⟨w.heap.size + 1, 2, none⟩ = some (.string st) ∧ w'.cell? ⟨w.heap.size + 1, 3, none⟩ = some (.slice sA i sc) ∧ w'.cell? ⟨w.heap.size + 1, 4, none⟩ = some (.slice sB i sd)) (ds := [9]) #[false, false, false, false, false, false, false, false, false, false, false] (by kernel_rfl) rfl rfl ⟨x0, x1, x2, x3, x4, y0, y1, y2, y3, y4⟩ (fun hHeld => ?_)
          refine take_ (i := 0) (N := some 59) (v := ?_) (a' := ?_) #[true, false, false, false, false, false, false, false, false, false, false] rfl rfl (by kernel_rfl) (fun _ _ _ h => h) (Or.inl ⟨by rfl, ?_⟩) hHeld ?_ ?_
          rotate_left
          · rintro w' ⟨s0, s1, s2, s3, s4, s5, s6, s7, s8, s9⟩
            go_simp
            with_reducible rfl
          rotate_left
          · simp only [Act.put, List.setIfInBounds_toArray, List.set_cons_zero, List.set_cons_succ, i64_w, i32_w]
            rfl
          refine take_ (i := 2) (N := some 61) (v := ?_) (a' := ?_) #[true, false, true, false, false, false, false, false, false, false, false] rfl rfl (by kernel_rfl) (fun _ _ _ h => h) (Or.inl ⟨by rfl, ?_⟩) hHeld ?_ ?_
          rotate_left
          · rintro w' ⟨s0, s1, s2, s3, s4, s5, s6, s7, s8, s9⟩
            go_simp
            with_reducible rfl
          rotate_left
          · simp only [Act.put, List.setIfInBounds_toArray, List.set_cons_zero, List.set_cons_succ, i64_w, i32_w]
            rfl
          refine join_ (σ := Value × Value × (Option Addr × Nat) × (Option Addr × Nat) × Nat) 2 #[true, true, true, true, true, true, true, true, true, false, false] (fun s => [(60, s.1), (62, s.2.1), (63, .tuple #[.agg #[.int .i64 zi.f0, .int .i64 zi.f1, .string zi.f2, .slice s.2.2.1.1 zi.f3.length s.2.2.1.2, .slice s.2.2.2.1.1 zi.f4.length s.2.2.2.1.2], .bool true]), (58, .tuple #[.agg #[.int .i64 zi.f0, .int .i64 zi.f1, .string zi.f2, .slice s.2.2.1.1 zi.f3.length s.2.2.1.2, .slice s.2.2.2.1.1 zi.f4.length s.2.2.2.1.2], .bool true]), (64, .agg #[.int .i64 zi.f0, .int .i64 zi.f1, .string zi.f2, .slice s.2.2.1.1 zi.f3.length s.2.2.1.2, .slice s.2.2.2.1.1 zi.f4.length s.2.2.2.1.2]), (65, .bool true), (7, .pointer (some ⟨s.2.2.2.2, 0, none⟩))]) (fun s w' => Below wr.heap.size wr w' ∧ w'.heap[s.2.2.2.2]? = some (.cells #[.int .i64 0, .int .i64 0, .string ⟨#[]⟩, .slice none 0 0, .slice none 0 0] 34 (0, 0)) ∧ (∀ W' : World, w'.grownBy W' (some s.2.2.2.2) → MadeI zi W' (.agg #[.int .i64 zi.f0, .int .i64 zi.f1, .string zi.f2, .slice s.2.2.1.1 zi.f3.length s.2.2.1.2, .slice s.2.2.2.1.1 zi.f4.length s.2.2.2.1.2])) ∧ wr.heap.size ≤ s.2.2.2.2) ?_ ?_
          rotate_left
          · intro hCont
            refine two_ (i := 1) (j := 8) (Ni := some 60) (Nj := some 7) #[true, true, true, false, false, false, false, false, false, false, false] #[true, false, true, false, false, false, false, false, true, false, false] rfl rfl rfl rfl (by kernel_rfl) (by decide) (by decide) (fun K hK => ?_) (fun K hK => ?_)
            · skip
              refine goes_ Tryz.func14 (by kernel_rfl) rfl #[.agg #[.int .i64 5, .int .i64 r1, .string rt, .slice rA rn rc, .slice rB rm rd]] (by rfl) rfl rfl (by simp only [List.map_toArray, List.map_cons, List.map_nil]; rfl) ?_
              with_reducible refine (law_to HTA.out (w := wr.drew) (HMA.out.below_ (below_drew1 (Below.refl wr.heap.size wr)))).mono ?_
              rintro e w1A ⟨⟨u1A, rfl, hu⟩, hb⟩
              refine ⟨_, rfl, ?_⟩
              have hbb : Below wr.heap.size wr w1A := below_un hb
              have HC1A := Aside0.mk hbb
              have HU1A := Aside0.mk hu
              clear hb hbb hu
              refine hK.out _ _ ⟨(HC1A.out.cell (World.block_lt_of_cell? wr _ x0)).trans x0, (HC1A.out.cell (World.block_lt_of_cell? wr _ x1)).trans x1, (HC1A.out.cell (World.block_lt_of_cell? wr _ x2)).trans x2, (HC1A.out.cell (World.block_lt_of_cell? wr _ x3)).trans x3, (HC1A.out.cell (World.block_lt_of_cell? wr _ x4)).trans x4, (HC1A.out.cell (World.block_lt_of_cell? wr _ y0)).trans y0, (HC1A.out.cell (World.block_lt_of_cell? wr _ y1)).trans y1, (HC1A.out.cell (World.block_lt_of_cell? wr _ y2)).trans y2, (HC1A.out.cell (World.block_lt_of_cell? wr _ y3)).trans y3, (HC1A.out.cell (World.block_lt_of_cell? wr _ y4)).trans y4⟩ (fun hHeld => ?_)
              clear hK K
              refine norm_ (a' := ?_) ?_ ?_
              rotate_left
              · show Act.put _ (some 60) _ = _
                simp only [Act.put, List.setIfInBounds_toArray, List.set_cons_zero, List.set_cons_succ, i64_w, i32_w]
                rfl
              refine two_ (i := 3) (j := 8) (Ni := some 62) (Nj := some 7) #[true, true, true, true, false, false, false, false, false, false, false] #[true, true, true, false, false, false, false, false, true, false, false] rfl rfl rfl rfl (by kernel_rfl) (by decide) (by decide) (fun K hK => ?_) (fun K hK => ?_)
              · skip
                refine goes_ Tryz.func14 (by kernel_rfl) rfl #[.agg #[.int .i64 5, .int .i64 s1, .string st, .slice sA i sc, .slice sB i sd]] (by rfl) rfl rfl (by simp only [List.map_toArray, List.map_cons, List.map_nil]; rfl) ?_
                with_reducible refine (law_to HTB.out (w := w1A) (HMB.out.below_ HC1A.out)).mono ?_
                rintro e w3A ⟨⟨u3A, rfl, hu⟩, hb⟩
                refine ⟨_, rfl, ?_⟩
                have hbb : Below wr.heap.size wr w3A := below_then HC1A.out HC1A.out.size hb
                have HC3A := Aside0.mk hbb
                have HU3A := Aside0.mk hu
                have HV1A := Aside0.mk (HU1A.out.below_ hb)
                clear hb hbb hu
                refine hK.out _ _ ⟨(HC3A.out.cell (World.block_lt_of_cell? wr _ x0)).trans x0, (HC3A.out.cell (World.block_lt_of_cell? wr _ x1)).trans x1, (HC3A.out.cell (World.block_lt_of_cell? wr _ x2)).trans x2, (HC3A.out.cell (World.block_lt_of_cell? wr _ x3)).trans x3, (HC3A.out.cell (World.block_lt_of_cell? wr _ x4)).trans x4, (HC3A.out.cell (World.block_lt_of_cell? wr _ y0)).trans y0, (HC3A.out.cell (World.block_lt_of_cell? wr _ y1)).trans y1, (HC3A.out.cell (World.block_lt_of_cell? wr _ y2)).trans y2, (HC3A.out.cell (World.block_lt_of_cell? wr _ y3)).trans y3, (HC3A.out.cell (World.block_lt_of_cell? wr _ y4)).trans y4⟩ (fun hHeld => ?_)
                clear hK K
                refine norm_ (a' := ?_) ?_ ?_
                rotate_left
                · show Act.put _ (some 62) _ = _
                  simp only [Act.put, List.setIfInBounds_toArray, List.set_cons_zero, List.set_cons_succ, i64_w, i32_w]
                  rfl
                refine two_ (i := 4) (j := 8) (Ni := some 63) (Nj := some 7) #[true, true, true, true, true, false, false, false, false, false, false] #[true, true, true, true, false, false, false, false, true, false, false] rfl rfl rfl rfl (by kernel_rfl) (by decide) (by decide) (fun K hK => ?_) (fun K hK => ?_)
                · skip
                  refine goes_ Tryz.func23 (by kernel_rfl) rfl #[u1A, u3A] (by rfl) rfl rfl (by simp only [List.map_toArray, List.map_cons, List.map_nil]; rfl) ?_
                  with_reducible refine (HMGA.out _ _ w3A HV1A.out HU3A.out).mono ?_
                  rintro e w4A ⟨⟨E3A, a3A, E4A, a4A, rfl, p3, p4⟩, hb⟩
                  refine ⟨_, rfl, ?_⟩
                  unfold cellsI
                  have hbb : Below wr.heap.size wr w4A := below_then HC3A.out HC3A.out.size hb
                  have HC4A := Aside0.mk hbb
                  have HM4A : Aside0 (MadeI zi w4A (.agg #[.int .i64 zi.f0, .int .i64 zi.f1, .string zi.f2, .slice E3A zi.f3.length a3A, .slice E4A zi.f4.length a4A])) := ⟨fresh_kept p3 p4 (fun _ _ _ => rfl)⟩
                  clear hb hbb p3 p4
                  refine hK.out _ _ ⟨(HC4A.out.cell (World.block_lt_of_cell? wr _ x0)).trans x0, (HC4A.out.cell (World.block_lt_of_cell? wr _ x1)).trans x1, (HC4A.out.cell (World.block_lt_of_cell? wr _ x2)).trans x2, (HC4A.out.cell (World.block_lt_of_cell? wr _ x3)).trans x3, (HC4A.out.cell (World.block_lt_of_cell? wr _ x4)).trans x4, (HC4A.out.cell (World.block_lt_of_cell? wr _ y0)).trans y0, (HC4A.out.cell (World.block_lt_of_cell? wr _ y1)).trans y1, (HC4A.out.cell (World.block_lt_of_cell? wr _ y2)).trans y2, (HC4A.out.cell (World.block_lt_of_cell? wr _ y3)).trans y3, (HC4A.out.cell (World.block_lt_of_cell? wr _ y4)).trans y4⟩ (fun hHeld => ?_)
                  clear hK K
                  refine norm_ (a' := ?_) ?_ ?_
                  rotate_left
                  · show Act.put _ (some 63) _ = _
                    simp only [Act.put, List.setIfInBounds_toArray, List.set_cons_zero, List.set_cons_succ, i64_w, i32_w]
                    rfl
                  refine pure_ (i := 5) (N := some 58) (v := ?_) (a' := ?_) #[true, true, true, true, true, true, false, false, false, false, false] rfl rfl (by kernel_rfl) (fun _ _ _ h => h) (Or.inl ⟨by rfl, ?_⟩) ?_ ?_
                  rotate_left
                  · intro w'
                    go_simp
                    with_reducible rfl
                  rotate_left
                  · simp only [Act.put, List.setIfInBounds_toArray, List.set_cons_zero, List.set_cons_succ, i64_w, i32_w]
                    rfl
                  refine pure_ (i := 6) (N := some 64) (v := ?_) (a' := ?_) #[true, true, true, true, true, true, true, false, false, false, false] rfl rfl (by kernel_rfl) (fun _ _ _ h => h) (Or.inl ⟨by rfl, ?_⟩) ?_ ?_
                  rotate_left
                  · intro w'
                    go_simp
                    with_reducible rfl
                  rotate_left
                  · simp only [Act.put, List.setIfInBounds_toArray, List.set_cons_zero, List.set_cons_succ, i64_w, i32_w]
                    rfl
                  refine pure_ (i := 7) (N := some 65) (v := ?_) (a' := ?_) #[true, true, true, true, true, true, true, true, false, false, false] rfl rfl (by kernel_rfl) (fun _ _ _ h => h) (Or.inl ⟨by rfl, ?_⟩) ?_ ?_
                  rotate_left
                  · intro w'
                    go_simp
                    with_reducible rfl
                  rotate_left
                  · simp only [Act.put, List.setIfInBounds_toArray, List.set_cons_zero, List.set_cons_succ, i64_w, i32_w]
                    rfl
                  refine one_ (i := 8) (N := some 7) #[true, true, true, true, true, true, true, true, true, false, false] rfl rfl (by kernel_rfl) (by decide) (fun K hK => ?_)
                  refine value_ (w1 := ?_) (v := ?_) (by rfl) rfl ?_ ?_
                  rotate_left 2
                  · go_simp
                    constructor
                    · rfl
                    · rfl
                  have hba : Below wr.heap.size wr (w4A.alloc (Obj.cells #[.int .i64 0, .int .i64 0, .string ⟨#[]⟩, .slice none 0 0, .slice none 0 0] 34)) := (HC4A.out).alloc (HC4A.out).size _
                  have HCAA := Aside0.mk hba
                  have HBZ0A : Aside0 ((w4A.alloc (Obj.cells #[.int .i64 0, .int .i64 0, .string ⟨#[]⟩, .slice none 0 0, .slice none 0 0] 34)).heap[w4A.heap.size]? = some (.cells #[.int .i64 0, .int .i64 0, .string ⟨#[]⟩, .slice none 0 0, .slice none 0 0] 34 (0, 0))) := ⟨new_atI rfl⟩
                  have HBLA : Hid (wr.heap.size ≤ w4A.heap.size) := Lib.hid (HC4A.out).size
                  have HMKA : Aside0 (∀ W' : World, (w4A.alloc (Obj.cells #[.int .i64 0, .int .i64 0, .string ⟨#[]⟩, .slice none 0 0, .slice none 0 0] 34)).grownBy W' (some w4A.heap.size) → MadeI zi W' (.agg #[.int .i64 zi.f0, .int .i64 zi.f1, .string zi.f2, .slice E3A zi.f3.length a3A, .slice E4A zi.f4.length a4A])) := ⟨fun W' hg => HM4A.out.below_ (((Below.refl w4A.heap.size w4A).alloc (Nat.le_refl _) _).grown hg (by simp) (fun k e => by injection e with e; omega))⟩
                  clear hba
                  refine hK.out _ _ ⟨(HCAA.out.cell (World.block_lt_of_cell? wr _ x0)).trans x0, (HCAA.out.cell (World.block_lt_of_cell? wr _ x1)).trans x1, (HCAA.out.cell (World.block_lt_of_cell? wr _ x2)).trans x2, (HCAA.out.cell (World.block_lt_of_cell? wr _ x3)).trans x3, (HCAA.out.cell (World.block_lt_of_cell? wr _ x4)).trans x4, (HCAA.out.cell (World.block_lt_of_cell? wr _ y0)).trans y0, (HCAA.out.cell (World.block_lt_of_cell? wr _ y1)).trans y1, (HCAA.out.cell (World.block_lt_of_cell? wr _ y2)).trans y2, (HCAA.out.cell (World.block_lt_of_cell? wr _ y3)).trans y3, (HCAA.out.cell (World.block_lt_of_cell? wr _ y4)).trans y4⟩ (fun hHeld => ?_)
                  clear hK K
                  refine norm_ (a' := ?_) ?_ ?_
                  rotate_left
                  · show Act.put _ (some 7) _ = _
                    simp only [Act.put, List.setIfInBounds_toArray, List.set_cons_zero, List.set_cons_succ, i64_w, i32_w]
                    rfl
                  exact norm_ (by simp only [putAll, Act.put, List.setIfInBounds_toArray, List.set_cons_zero, List.set_cons_succ]) (hCont (u1A, u3A, (E3A, a3A), (E4A, a4A), w4A.heap.size) _ ⟨HCAA.out, HBZ0A.out, HMKA.out, HBLA.out⟩)
                · skip
                  refine value_ (w1 := ?_) (v := ?_) (by rfl) rfl ?_ ?_
                  rotate_left 2
                  · go_simp
                    constructor
                    · rfl
                    · rfl
                  have hba : Below wr.heap.size wr (w3A.alloc (Obj.cells #[.int .i64 0, .int .i64 0, .string ⟨#[]⟩, .slice none 0 0, .slice none 0 0] 34)) := (HC3A.out).alloc (HC3A.out).size _
                  have HCAA := Aside0.mk hba
                  have HBZ0A : Aside0 ((w3A.alloc (Obj.cells #[.int .i64 0, .int .i64 0, .string ⟨#[]⟩, .slice none 0 0, .slice none 0 0] 34)).heap[w3A.heap.size]? = some (.cells #[.int .i64 0, .int .i64 0, .string ⟨#[]⟩, .slice none 0 0, .slice none 0 0] 34 (0, 0))) := ⟨new_atI rfl⟩
                  have HBLA : Hid (wr.heap.size ≤ w3A.heap.size) := Lib.hid (HC3A.out).size
                  clear hba
                  refine hK.out _ _ ⟨(HCAA.out.cell (World.block_lt_of_cell? wr _ x0)).trans x0, (HCAA.out.cell (World.block_lt_of_cell? wr _ x1)).trans x1, (HCAA.out.cell (World.block_lt_of_cell? wr _ x2)).trans x2, (HCAA.out.cell (World.block_lt_of_cell? wr _ x3)).trans x3, (HCAA.out.cell (World.block_lt_of_cell? wr _ x4)).trans x4, (HCAA.out.cell (World.block_lt_of_cell? wr _ y0)).trans y0, (HCAA.out.cell (World.block_lt_of_cell? wr _ y1)).trans y1, (HCAA.out.cell (World.block_lt_of_cell? wr _ y2)).trans y2, (HCAA.out.cell (World.block_lt_of_cell? wr _ y3)).trans y3, (HCAA.out.cell (World.block_lt_of_cell? wr _ y4)).trans y4⟩ (fun hHeld => ?_)
                  clear hK K
                  refine norm_ (a' := ?_) ?_ ?_
                  rotate_left
                  · show Act.put _ (some 7) _ = _
                    simp only [Act.put, List.setIfInBounds_toArray, List.set_cons_zero, List.set_cons_succ, i64_w, i32_w]
                    rfl
                  refine one_ (i := 4) (N := some 63) #[true, true, true, true, true, false, false, false, true, false, false] rfl rfl (by kernel_rfl) (by decide) (fun K hK => ?_)
                  refine goes_ Tryz.func23 (by kernel_rfl) rfl #[u1A, u3A] (by rfl) rfl rfl (by simp only [List.map_toArray, List.map_cons, List.map_nil]; rfl) ?_
                  with_reducible refine (HMGA.out _ _ (w3A.alloc (Obj.cells #[.int .i64 0, .int .i64 0, .string ⟨#[]⟩, .slice none 0 0, .slice none 0 0] 34)) (HV1A.out.below_ ((Below.refl _ _).alloc (Nat.le_refl _) _)) (HU3A.out.below_ ((Below.refl _ _).alloc (Nat.le_refl _) _))).mono ?_
                  rintro e w4A ⟨⟨E3A, a3A, E4A, a4A, rfl, p3, p4⟩, hb⟩
                  refine ⟨_, rfl, ?_⟩
                  unfold cellsI
                  have hbb : Below wr.heap.size wr w4A := below_then HCAA.out HCAA.out.size hb
                  have HC4A := Aside0.mk hbb
                  have HM4A : Aside0 (MadeI zi w4A (.agg #[.int .i64 zi.f0, .int .i64 zi.f1, .string zi.f2, .slice E3A zi.f3.length a3A, .slice E4A zi.f4.length a4A])) := ⟨fresh_kept p3 p4 (fun _ _ _ => rfl)⟩
                  have HBZ4A := Aside0.mk (blk_below HBZ0A.out hb)
                  have HMKA : Aside0 (∀ W' : World, w4A.grownBy W' (some w3A.heap.size) → MadeI zi W' (.agg #[.int .i64 zi.f0, .int .i64 zi.f1, .string zi.f2, .slice E3A zi.f3.length a3A, .slice E4A zi.f4.length a4A])) := ⟨fun W' hg => fresh_kept p3 p4 (fun k hk hlt => hg.block k hlt (fun e => by injection e with e; have h1 := blk_lt HBZ0A.out; omega))⟩
                  clear hb hbb p3 p4
                  refine hK.out _ _ ⟨(HC4A.out.cell (World.block_lt_of_cell? wr _ x0)).trans x0, (HC4A.out.cell (World.block_lt_of_cell? wr _ x1)).trans x1, (HC4A.out.cell (World.block_lt_of_cell? wr _ x2)).trans x2, (HC4A.out.cell (World.block_lt_of_cell? wr _ x3)).trans x3, (HC4A.out.cell (World.block_lt_of_cell? wr _ x4)).trans x4, (HC4A.out.cell (World.block_lt_of_cell? wr _ y0)).trans y0, (HC4A.out.cell (World.block_lt_of_cell? wr _ y1)).trans y1, (HC4A.out.cell (World.block_lt_of_cell? wr _ y2)).trans y2, (HC4A.out.cell (World.block_lt_of_cell? wr _ y3)).trans y3, (HC4A.out.cell (World.block_lt_of_cell? wr _ y4)).trans y4⟩ (fun hHeld => ?_)
                  clear hK K
                  refine norm_ (a' := ?_) ?_ ?_
                  rotate_left
                  · show Act.put _ (some 63) _ = _
                    simp only [Act.put, List.setIfInBounds_toArray, List.set_cons_zero, List.set_cons_succ, i64_w, i32_w]
                    rfl
                  refine pure_ (i := 5) (N := some 58) (v := ?_) (a' := ?_) #[true, true, true, true, true, true, false, false, true, false, false] rfl rfl (by kernel_rfl) (fun _ _ _ h => h) (Or.inl ⟨by rfl, ?_⟩) ?_ ?_
                  rotate_left
                  · intro w'
                    go_simp
                    with_reducible rfl
                  rotate_left
                  · simp only [Act.put, List.setIfInBounds_toArray, List.set_cons_zero, List.set_cons_succ, i64_w, i32_w]
                    rfl
                  refine pure_ (i := 6) (N := some 64) (v := ?_) (a' := ?_) #[true, true, true, true, true, true, true, false, true, false, false] rfl rfl (by kernel_rfl) (fun _ _ _ h => h) (Or.inl ⟨by rfl, ?_⟩) ?_ ?_
                  rotate_left
                  · intro w'
                    go_simp
                    with_reducible rfl
                  rotate_left
                  · simp only [Act.put, List.setIfInBounds_toArray, List.set_cons_zero, List.set_cons_succ, i64_w, i32_w]
                    rfl
                  refine pure_ (i := 7) (N := some 65) (v := ?_) (a' := ?_) #[true, true, true, true, true, true, true, true, true, false, false] rfl rfl (by kernel_rfl) (fun _ _ _ h => h) (Or.inl ⟨by rfl, ?_⟩) ?_ ?_
                  rotate_left
                  · intro w'
                    go_simp
                    with_reducible rfl
                  rotate_left
                  · simp only [Act.put, List.setIfInBounds_toArray, List.set_cons_zero, List.set_cons_succ, i64_w, i32_w]
                    rfl
                  exact norm_ (by simp only [putAll, Act.put, List.setIfInBounds_toArray, List.set_cons_zero, List.set_cons_succ]) (hCont (u1A, u3A, (E3A, a3A), (E4A, a4A), w3A.heap.size) _ ⟨HC4A.out, HBZ4A.out, HMKA.out, HBLA.out⟩)
              · skip
                refine value_ (w1 := ?_) (v := ?_) (by rfl) rfl ?_ ?_
                rotate_left 2
                · go_simp
                  constructor
                  · rfl
                  · rfl
                have hba : Below wr.heap.size wr (w1A.alloc (Obj.cells #[.int .i64 0, .int .i64 0, .string ⟨#[]⟩, .slice none 0 0, .slice none 0 0] 34)) := (HC1A.out).alloc (HC1A.out).size _
                have HCAA := Aside0.mk hba
                have HBZ0A : Aside0 ((w1A.alloc (Obj.cells #[.int .i64 0, .int .i64 0, .string ⟨#[]⟩, .slice none 0 0, .slice none 0 0] 34)).heap[w1A.heap.size]? = some (.cells #[.int .i64 0, .int .i64 0, .string ⟨#[]⟩, .slice none 0 0, .slice none 0 0] 34 (0, 0))) := ⟨new_atI rfl⟩
                have HBLA : Hid (wr.heap.size ≤ w1A.heap.size) := Lib.hid (HC1A.out).size
                clear hba
                refine hK.out _ _ ⟨(HCAA.out.cell (World.block_lt_of_cell? wr _ x0)).trans x0, (HCAA.out.cell (World.block_lt_of_cell? wr _ x1)).trans x1, (HCAA.out.cell (World.block_lt_of_cell? wr _ x2)).trans x2, (HCAA.out.cell (World.block_lt_of_cell? wr _ x3)).trans x3, (HCAA.out.cell (World.block_lt_of_cell? wr _ x4)).trans x4, (HCAA.out.cell (World.block_lt_of_cell? wr _ y0)).trans y0, (HCAA.out.cell (World.block_lt_of_cell? wr _ y1)).trans y1, (HCAA.out.cell (World.block_lt_of_cell? wr _ y2)).trans y2, (HCAA.out.cell (World.block_lt_of_cell? wr _ y3)).trans y3, (HCAA.out.cell (World.block_lt_of_cell? wr _ y4)).trans y4⟩ (fun hHeld => ?_)
                clear hK K
                refine norm_ (a' := ?_) ?_ ?_
                rotate_left
                · show Act.put _ (some 7) _ = _
                  simp only [Act.put, List.setIfInBounds_toArray, List.set_cons_zero, List.set_cons_succ, i64_w, i32_w]
                  rfl
                refine one_ (i := 3) (N := some 62) #[true, true, true, true, false, false, false, false, true, false, false] rfl rfl (by kernel_rfl) (by decide) (fun K hK => ?_)
                refine goes_ Tryz.func14 (by kernel_rfl) rfl #[.agg #[.int .i64 5, .int .i64 s1, .string st, .slice sA i sc, .slice sB i sd]] (by rfl) rfl rfl (by simp only [List.map_toArray, List.map_cons, List.map_nil]; rfl) ?_
                with_reducible refine (law_to HTB.out (w := (w1A.alloc (Obj.cells #[.int .i64 0, .int .i64 0, .string ⟨#[]⟩, .slice none 0 0, .slice none 0 0] 34))) (HMB.out.below_ HCAA.out)).mono ?_
                rintro e w3A ⟨⟨u3A, rfl, hu⟩, hb⟩
                refine ⟨_, rfl, ?_⟩
                have hbb : Below wr.heap.size wr w3A := below_then HCAA.out HCAA.out.size hb
                have HC3A := Aside0.mk hbb
                have HU3A := Aside0.mk hu
                have HV1A := Aside0.mk ((HU1A.out.below_ ((Below.refl _ _).alloc (Nat.le_refl _) _)).below_ hb)
                have HBZ3A := Aside0.mk (blk_below HBZ0A.out hb)
                clear hb hbb hu
                refine hK.out _ _ ⟨(HC3A.out.cell (World.block_lt_of_cell? wr _ x0)).trans x0, (HC3A.out.cell (World.block_lt_of_cell? wr _ x1)).trans x1, (HC3A.out.cell (World.block_lt_of_cell? wr _ x2)).trans x2, (HC3A.out.cell (World.block_lt_of_cell? wr _ x3)).trans x3, (HC3A.out.cell (World.block_lt_of_cell? wr _ x4)).trans x4, (HC3A.out.cell (World.block_lt_of_cell? wr _ y0)).trans y0, (HC3A.out.cell (World.block_lt_of_cell? wr _ y1)).trans y1, (HC3A.out.cell (World.block_lt_of_cell? wr _ y2)).trans y2, (HC3A.out.cell (World.block_lt_of_cell? wr _ y3)).trans y3, (HC3A.out.cell (World.block_lt_of_cell? wr _ y4)).trans y4⟩ (fun hHeld => ?_)
                clear hK K
                refine norm_ (a' := ?_) ?_ ?_
                rotate_left
                · show Act.put _ (some 62) _ = _
                  simp only [Act.put, List.setIfInBounds_toArray, List.set_cons_zero, List.set_cons_succ, i64_w, i32_w]
                  rfl
                refine one_ (i := 4) (N := some 63) #[true, true, true, true, true, false, false, false, true, false, false] rfl rfl (by kernel_rfl) (by decide) (fun K hK => ?_)
                refine goes_ Tryz.func23 (by kernel_rfl) rfl #[u1A, u3A] (by rfl) rfl rfl (by simp only [List.map_toArray, List.map_cons, List.map_nil]; rfl) ?_
                with_reducible refine (HMGA.out _ _ w3A HV1A.out HU3A.out).mono ?_
                rintro e w4A ⟨⟨E3A, a3A, E4A, a4A, rfl, p3, p4⟩, hb⟩
                refine ⟨_, rfl, ?_⟩
                unfold cellsI
                have hbb : Below wr.heap.size wr w4A := below_then HC3A.out HC3A.out.size hb
                have HC4A := Aside0.mk hbb
                have HM4A : Aside0 (MadeI zi w4A (.agg #[.int .i64 zi.f0, .int .i64 zi.f1, .string zi.f2, .slice E3A zi.f3.length a3A, .slice E4A zi.f4.length a4A])) := ⟨fresh_kept p3 p4 (fun _ _ _ => rfl)⟩
                have HBZ4A := Aside0.mk (blk_below HBZ3A.out hb)
                have HMKA : Aside0 (∀ W' : World, w4A.grownBy W' (some w1A.heap.size) → MadeI zi W' (.agg #[.int .i64 zi.f0, .int .i64 zi.f1, .string zi.f2, .slice E3A zi.f3.length a3A, .slice E4A zi.f4.length a4A])) := ⟨fun W' hg => fresh_kept p3 p4 (fun k hk hlt => hg.block k hlt (fun e => by injection e with e; have h1 := blk_lt HBZ3A.out; omega))⟩
                clear hb hbb p3 p4
                refine hK.out _ _ ⟨(HC4A.out.cell (World.block_lt_of_cell? wr _ x0)).trans x0, (HC4A.out.cell (World.block_lt_of_cell? wr _ x1)).trans x1, (HC4A.out.cell (World.block_lt_of_cell? wr _ x2)).trans x2, (HC4A.out.cell (World.block_lt_of_cell? wr _ x3)).trans x3, (HC4A.out.cell (World.block_lt_of_cell? wr _ x4)).trans x4, (HC4A.out.cell (World.block_lt_of_cell? wr _ y0)).trans y0, (HC4A.out.cell (World.block_lt_of_cell? wr _ y1)).trans y1, (HC4A.out.cell (World.block_lt_of_cell? wr _ y2)).trans y2, (HC4A.out.cell (World.block_lt_of_cell? wr _ y3)).trans y3, (HC4A.out.cell (World.block_lt_of_cell? wr _ y4)).trans y4⟩ (fun hHeld => ?_)
                clear hK K
                refine norm_ (a' := ?_) ?_ ?_
                rotate_left
                · show Act.put _ (some 63) _ = _
                  simp only [Act.put, List.setIfInBounds_toArray, List.set_cons_zero, List.set_cons_succ, i64_w, i32_w]
                  rfl
                refine pure_ (i := 5) (N := some 58) (v := ?_) (a' := ?_) #[true, true, true, true, true, true, false, false, true, false, false] rfl rfl (by kernel_rfl) (fun _ _ _ h => h) (Or.inl ⟨by rfl, ?_⟩) ?_ ?_
                rotate_left
                · intro w'
                  go_simp
                  with_reducible rfl
                rotate_left
                · simp only [Act.put, List.setIfInBounds_toArray, List.set_cons_zero, List.set_cons_succ, i64_w, i32_w]
                  rfl
                refine pure_ (i := 6) (N := some 64) (v := ?_) (a' := ?_) #[true, true, true, true, true, true, true, false, true, false, false] rfl rfl (by kernel_rfl) (fun _ _ _ h => h) (Or.inl ⟨by rfl, ?_⟩) ?_ ?_
                rotate_left
                · intro w'
                  go_simp
                  with_reducible rfl
                rotate_left
                · simp only [Act.put, List.setIfInBounds_toArray, List.set_cons_zero, List.set_cons_succ, i64_w, i32_w]
                  rfl
                refine pure_ (i := 7) (N := some 65) (v := ?_) (a' := ?_) #[true, true, true, true, true, true, true, true, true, false, false] rfl rfl (by kernel_rfl) (fun _ _ _ h => h) (Or.inl ⟨by rfl, ?_⟩) ?_ ?_
                rotate_left
                · intro w'
                  go_simp
                  with_reducible rfl
                rotate_left
                · simp only [Act.put, List.setIfInBounds_toArray, List.set_cons_zero, List.set_cons_succ, i64_w, i32_w]
                  rfl
                exact norm_ (by simp only [putAll, Act.put, List.setIfInBounds_toArray, List.set_cons_zero, List.set_cons_succ]) (hCont (u1A, u3A, (E3A, a3A), (E4A, a4A), w1A.heap.size) _ ⟨HC4A.out, HBZ4A.out, HMKA.out, HBLA.out⟩)
            · skip
              refine value_ (w1 := ?_) (v := ?_) (by rfl) rfl ?_ ?_
              rotate_left 2
              · go_simp
                constructor
                · rfl
                · rfl
              have hba : Below wr.heap.size wr ((wr.alloc (Obj.cells #[.int .i64 0, .int .i64 0, .string ⟨#[]⟩, .slice none 0 0, .slice none 0 0] 34)).drew) := below_drew1 ((Below.refl wr.heap.size wr).alloc (Nat.le_refl _) _)
              have HCAA := Aside0.mk hba
              have HBZ0A : Aside0 (((wr.alloc (Obj.cells #[.int .i64 0, .int .i64 0, .string ⟨#[]⟩, .slice none 0 0, .slice none 0 0] 34)).drew).heap[wr.heap.size]? = some (.cells #[.int .i64 0, .int .i64 0, .string ⟨#[]⟩, .slice none 0 0, .slice none 0 0] 34 (0, 0))) := ⟨new_atI rfl⟩
              have HBLA : Hid (wr.heap.size ≤ wr.heap.size) := Lib.hid (Nat.le_refl _)
              clear hba
              refine hK.out _ _ ⟨(HCAA.out.cell (World.block_lt_of_cell? wr _ x0)).trans x0, (HCAA.out.cell (World.block_lt_of_cell? wr _ x1)).trans x1, (HCAA.out.cell (World.block_lt_of_cell? wr _ x2)).trans x2, (HCAA.out.cell (World.block_lt_of_cell? wr _ x3)).trans x3, (HCAA.out.cell (World.block_lt_of_cell? wr _ x4)).trans x4, (HCAA.out.cell (World.block_lt_of_cell? wr _ y0)).trans y0, (HCAA.out.cell (World.block_lt_of_cell? wr _ y1)).trans y1, (HCAA.out.cell (World.block_lt_of_cell? wr _ y2)).trans y2, (HCAA.out.cell (World.block_lt_of_cell? wr _ y3)).trans y3, (HCAA.out.cell (World.block_lt_of_cell? wr _ y4)).trans y4⟩ (fun hHeld => ?_)
              clear hK K
              refine norm_ (a' := ?_) ?_ ?_
              rotate_left
              · show Act.put _ (some 7) _ = _
                simp only [Act.put, List.setIfInBounds_toArray, List.set_cons_zero, List.set_cons_succ, i64_w, i32_w]
                rfl
              refine one_ (i := 1) (N := some 60) #[true, true, true, false, false, false, false, false, true, false, false] rfl rfl (by kernel_rfl) (by decide) (fun K hK => ?_)
              refine goes_ Tryz.func14 (by kernel_rfl) rfl #[.agg #[.int .i64 5, .int .i64 r1, .string rt, .slice rA rn rc, .slice rB rm rd]] (by rfl) rfl rfl (by simp only [List.map_toArray, List.map_cons, List.map_nil]; rfl) ?_
              with_reducible refine (law_to HTA.out (w := ((wr.alloc (Obj.cells #[.int .i64 0, .int .i64 0, .string ⟨#[]⟩, .slice none 0 0, .slice none 0 0] 34)).drew)) (HMA.out.below_ HCAA.out)).mono ?_
              rintro e w1A ⟨⟨u1A, rfl, hu⟩, hb⟩
              refine ⟨_, rfl, ?_⟩
              have hbb : Below wr.heap.size wr w1A := below_then HCAA.out HCAA.out.size hb
              have HC1A := Aside0.mk hbb
              have HU1A := Aside0.mk hu
              have HBZ1A := Aside0.mk (blk_below HBZ0A.out hb)
              clear hb hbb hu
              refine hK.out _ _ ⟨(HC1A.out.cell (World.block_lt_of_cell? wr _ x0)).trans x0, (HC1A.out.cell (World.block_lt_of_cell? wr _ x1)).trans x1, (HC1A.out.cell (World.block_lt_of_cell? wr _ x2)).trans x2, (HC1A.out.cell (World.block_lt_of_cell? wr _ x3)).trans x3, (HC1A.out.cell (World.block_lt_of_cell? wr _ x4)).trans x4, (HC1A.out.cell (World.block_lt_of_cell? wr _ y0)).trans y0, (HC1A.out.cell (World.block_lt_of_cell? wr _ y1)).trans y1, (HC1A.out.cell (World.block_lt_of_cell? wr _ y2)).trans y2, (HC1A.out.cell (World.block_lt_of_cell? wr _ y3)).trans y3, (HC1A.out.cell (World.block_lt_of_cell? wr _ y4)).trans y4⟩ (fun hHeld => ?_)
              clear hK K
              refine norm_ (a' := ?_) ?_ ?_
              rotate_left
              · show Act.put _ (some 60) _ = _
                simp only [Act.put, List.setIfInBounds_toArray, List.set_cons_zero, List.set_cons_succ, i64_w, i32_w]
                rfl
              refine one_ (i := 3) (N := some 62) #[true, true, true, true, false, false, false, false, true, false, false] rfl rfl (by kernel_rfl) (by decide) (fun K hK => ?_)
              refine goes_ Tryz.func14 (by kernel_rfl) rfl #[.agg #[.int .i64 5, .int .i64 s1, .string st, .slice sA i sc, .slice sB i sd]] (by rfl) rfl rfl (by simp only [List.map_toArray, List.map_cons, List.map_nil]; rfl) ?_
              with_reducible refine (law_to HTB.out (w := w1A) (HMB.out.below_ HC1A.out)).mono ?_
              rintro e w3A ⟨⟨u3A, rfl, hu⟩, hb⟩
              refine ⟨_, rfl, ?_⟩
              have hbb : Below wr.heap.size wr w3A := below_then HC1A.out HC1A.out.size hb
              have HC3A := Aside0.mk hbb
              have HU3A := Aside0.mk hu
              have HV1A := Aside0.mk (HU1A.out.below_ hb)
              have HBZ3A := Aside0.mk (blk_below HBZ1A.out hb)
              clear hb hbb hu
              refine hK.out _ _ ⟨(HC3A.out.cell (World.block_lt_of_cell? wr _ x0)).trans x0, (HC3A.out.cell (World.block_lt_of_cell? wr _ x1)).trans x1, (HC3A.out.cell (World.block_lt_of_cell? wr _ x2)).trans x2, (HC3A.out.cell (World.block_lt_of_cell? wr _ x3)).trans x3, (HC3A.out.cell (World.block_lt_of_cell? wr _ x4)).trans x4, (HC3A.out.cell (World.block_lt_of_cell? wr _ y0)).trans y0, (HC3A.out.cell (World.block_lt_of_cell? wr _ y1)).trans y1, (HC3A.out.cell (World.block_lt_of_cell? wr _ y2)).trans y2, (HC3A.out.cell (World.block_lt_of_cell? wr _ y3)).trans y3, (HC3A.out.cell (World.block_lt_of_cell? wr _ y4)).trans y4⟩ (fun hHeld => ?_)
              clear hK K
              refine norm_ (a' := ?_) ?_ ?_
              rotate_left
              · show Act.put _ (some 62) _ = _
                simp only [Act.put, List.setIfInBounds_toArray, List.set_cons_zero, List.set_cons_succ, i64_w, i32_w]
                rfl
              refine one_ (i := 4) (N := some 63) #[true, true, true, true, true, false, false, false, true, false, false] rfl rfl (by kernel_rfl) (by decide) (fun K hK => ?_)
              refine goes_ Tryz.func23 (by kernel_rfl) rfl #[u1A, u3A] (by rfl) rfl rfl (by simp only [List.map_toArray, List.map_cons, List.map_nil]; rfl) ?_
              with_reducible refine (HMGA.out _ _ w3A HV1A.out HU3A.out).mono ?_
              rintro e w4A ⟨⟨E3A, a3A, E4A, a4A, rfl, p3, p4⟩, hb⟩
              refine ⟨_, rfl, ?_⟩
              unfold cellsI
              have hbb : Below wr.heap.size wr w4A := below_then HC3A.out HC3A.out.size hb
              have HC4A := Aside0.mk hbb
              have HM4A : Aside0 (MadeI zi w4A (.agg #[.int .i64 zi.f0, .int .i64 zi.f1, .string zi.f2, .slice E3A zi.f3.length a3A, .slice E4A zi.f4.length a4A])) := ⟨fresh_kept p3 p4 (fun _ _ _ => rfl)⟩
              have HBZ4A := Aside0.mk (blk_below HBZ3A.out hb)
              have HMKA : Aside0 (∀ W' : World, w4A.grownBy W' (some wr.heap.size) → MadeI zi W' (.agg #[.int .i64 zi.f0, .int .i64 zi.f1, .string zi.f2, .slice E3A zi.f3.length a3A, .slice E4A zi.f4.length a4A])) := ⟨fun W' hg => fresh_kept p3 p4 (fun k hk hlt => hg.block k hlt (fun e => by injection e with e; have h1 := blk_lt HBZ3A.out; omega))⟩
              clear hb hbb p3 p4
              refine hK.out _ _ ⟨(HC4A.out.cell (World.block_lt_of_cell? wr _ x0)).trans x0, (HC4A.out.cell (World.block_lt_of_cell? wr _ x1)).trans x1, (HC4A.out.cell (World.block_lt_of_cell? wr _ x2)).trans x2, (HC4A.out.cell (World.block_lt_of_cell? wr _ x3)).trans x3, (HC4A.out.cell (World.block_lt_of_cell? wr _ x4)).trans x4, (HC4A.out.cell (World.block_lt_of_cell? wr _ y0)).trans y0, (HC4A.out.cell (World.block_lt_of_cell? wr _ y1)).trans y1, (HC4A.out.cell (World.block_lt_of_cell? wr _ y2)).trans y2, (HC4A.out.cell (World.block_lt_of_cell? wr _ y3)).trans y3, (HC4A.out.cell (World.block_lt_of_cell? wr _ y4)).trans y4⟩ (fun hHeld => ?_)
              clear hK K
              refine norm_ (a' := ?_) ?_ ?_
              rotate_left
              · show Act.put _ (some 63) _ = _
                simp only [Act.put, List.setIfInBounds_toArray, List.set_cons_zero, List.set_cons_succ, i64_w, i32_w]
                rfl
              refine pure_ (i := 5) (N := some 58) (v := ?_) (a' := ?_) #[true, true, true, true, true, true, false, false, true, false, false] rfl rfl (by kernel_rfl) (fun _ _ _ h => h) (Or.inl ⟨by rfl, ?_⟩) ?_ ?_
              rotate_left
              · intro w'
                go_simp
                with_reducible rfl
              rotate_left
              · simp only [Act.put, List.setIfInBounds_toArray, List.set_cons_zero, List.set_cons_succ, i64_w, i32_w]
                rfl
              refine pure_ (i := 6) (N := some 64) (v := ?_) (a' := ?_) #[true, true, true, true, true, true, true, false, true, false, false] rfl rfl (by kernel_rfl) (fun _ _ _ h => h) (Or.inl ⟨by rfl, ?_⟩) ?_ ?_
              rotate_left
              · intro w'
                go_simp
                with_reducible rfl
              rotate_left
              · simp only [Act.put, List.setIfInBounds_toArray, List.set_cons_zero, List.set_cons_succ, i64_w, i32_w]
                rfl
              refine pure_ (i := 7) (N := some 65) (v := ?_) (a' := ?_) #[true, true, true, true, true, true, true, true, true, false, false] rfl rfl (by kernel_rfl) (fun _ _ _ h => h) (Or.inl ⟨by rfl, ?_⟩) ?_ ?_
              rotate_left
              · intro w'
                go_simp
                with_reducible rfl
              rotate_left
              · simp only [Act.put, List.setIfInBounds_toArray, List.set_cons_zero, List.set_cons_succ, i64_w, i32_w]
                rfl
              exact norm_ (by simp only [putAll, Act.put, List.setIfInBounds_toArray, List.set_cons_zero, List.set_cons_succ]) (hCont (u1A, u3A, (E3A, a3A), (E4A, a4A), wr.heap.size) _ ⟨HC4A.out, HBZ4A.out, HMKA.out, HBLA.out⟩)
          rintro ⟨u1A, u3A, ⟨E3A, a3A⟩, ⟨E4A, a4A⟩, bA⟩ vA ⟨hb_, hx_, hm_, hl_⟩
          have HBVA := Aside0.mk hb_
          have HXVA : Aside0 (vA.heap[bA]? = some (.cells #[.int .i64 0, .int .i64 0, .string ⟨#[]⟩, .slice none 0 0, .slice none 0 0] 34 (0, 0))) := ⟨hx_⟩
          have HMVA : Aside0 (∀ W' : World, vA.grownBy W' (some bA) → MadeI zi W' (.agg #[.int .i64 zi.f0, .int .i64 zi.f1, .string zi.f2, .slice E3A zi.f3.length a3A, .slice E4A zi.f4.length a4A])) := ⟨hm_⟩
          have HLVA : Hid (wr.heap.size ≤ bA) := Lib.hid hl_
          have hHeld : vA.cell? ⟨w.heap.size, 0, none⟩ = some (.int .i64 5) ∧ vA.cell? ⟨w.heap.size, 1, none⟩ = some (.int .i64 r1) ∧ vA.cell? ⟨w.heap.size, 2, none⟩ = some (.string rt) ∧ vA.cell? ⟨w.heap.size, 3, none⟩ = some (.slice rA rn rc) ∧ vA.cell? ⟨w.heap.size, 4, none⟩ = some (.slice rB rm rd) ∧ vA.cell? ⟨w.heap.size + 1, 0, none⟩ = some (.int .i64 5) ∧ vA.cell? ⟨w.heap.size + 1, 1, none⟩ = some (.int .i64 s1) ∧ vA.cell? ⟨w.heap.size + 1, 2, none⟩ = some (.string st) ∧ vA.cell? ⟨w.heap.size + 1, 3, none⟩ = some (.slice sA i sc) ∧ vA.cell? ⟨w.heap.size + 1, 4, none⟩ = some (.slice sB i sd) := ⟨(HBVA.out.cell (World.block_lt_of_cell? wr _ x0)).trans x0, (HBVA.out.cell (World.block_lt_of_cell? wr _ x1)).trans x1, (HBVA.out.cell (World.block_lt_of_cell? wr _ x2)).trans x2, (HBVA.out.cell (World.block_lt_of_cell? wr _ x3)).trans x3, (HBVA.out.cell (World.block_lt_of_cell? wr _ x4)).trans x4, (HBVA.out.cell (World.block_lt_of_cell? wr _ y0)).trans y0, (HBVA.out.cell (World.block_lt_of_cell? wr _ y1)).trans y1, (HBVA.out.cell (World.block_lt_of_cell? wr _ y2)).trans y2, (HBVA.out.cell (World.block_lt_of_cell? wr _ y3)).trans y3, (HBVA.out.cell (World.block_lt_of_cell? wr _ y4)).trans y4⟩
          clear hb_ hx_ hm_ hl_
          refine norm_ (a' := ?_) ?_ ?_
          rotate_left
          · simp only [putAll, Act.put, List.setIfInBounds_toArray, List.set_cons_zero, List.set_cons_succ]
            rfl
          refine last_ (i := 9) (N := none) #[true, true, true, true, true, true, true, true, true, true, false] rfl rfl (by kernel_rfl) (by decide) (fun K hK => ?_)
          refine store_step (cur := #[.int .i64 0, .int .i64 0, .string ⟨#[]⟩, .slice none 0 0, .slice none 0 0]) (e := 34) (g := bA) 34 _ _ (.agg #[.int .i64 zi.f0, .int .i64 zi.f1, .string zi.f2, .slice E3A zi.f3.length a3A, .slice E4A zi.f4.length a4A]) [.int .i64 zi.f0, .int .i64 zi.f1, .string zi.f2, .slice E3A zi.f3.length a3A, .slice E4A zi.f4.length a4A] (by rfl) rfl rfl rfl rfl (HXVA.out) rfl (show (Tryz.prog.info? 34).map (·.size) = some 5 by kernel_rfl) rfl (by simp [Value.oneCell']) ?_
          intro yA h_yA hg_yA
          have H_yA := Aside0.mk h_yA
          have HG_yA := Aside0.mk hg_yA
          clear h_yA hg_yA
          refine hK.out _ _ ?_
          clear hK K
          refine pure_ (i := 10) (N := some 8) (v := ?_) (a' := ?_) #[true, true, true, true, true, true, true, true, true, true, true] rfl rfl (by kernel_rfl) (fun _ _ _ h => h) (Or.inl ⟨by rfl, ?_⟩) ?_ ?_
          rotate_left
          · intro w'
            go_simp
            with_reducible rfl
          rotate_left
          · simp only [Act.put, List.setIfInBounds_toArray, List.set_cons_zero, List.set_cons_succ, i64_w, i32_w]
            rfl
          refine done_ (by kernel_rfl) ?_
          
          have hwA : Below wr.heap.size wr yA := HBVA.out.grown HG_yA.out HBVA.out.size (fun k e => by injection e with e; have := HLVA.out; omega)
          have HWA := Aside0.mk hwA
          have HZA : Aside0 (MadeI zi yA (.agg #[.int .i64 zi.f0, .int .i64 zi.f1, .string zi.f2, .slice E3A zi.f3.length a3A, .slice E4A zi.f4.length a4A])) := ⟨HMVA.out yA HG_yA.out⟩
          have HMA2 := Aside0.mk (HMA.out.below_ hwA)
          have HMB2 := Aside0.mk (HMB.out.below_ hwA)
          have hx := blk_below HXR.out hwA
          have hy := blk_below HYR.out hwA
          clear x0 x1 x2 x3 x4 y0 y1 y2 y3 y4 hwA
          have x0 : yA.cell? ⟨w.heap.size, 0, none⟩ = some (.int .i64 5) := (blk_cell hx 0).trans rfl
          have x1 : yA.cell? ⟨w.heap.size, 1, none⟩ = some (.int .i64 r1) := (blk_cell hx 1).trans rfl
          have x2 : yA.cell? ⟨w.heap.size, 2, none⟩ = some (.string rt) := (blk_cell hx 2).trans rfl
          have x3 : yA.cell? ⟨w.heap.size, 3, none⟩ = some (.slice rA rn rc) := (blk_cell hx 3).trans rfl
          have x4 : yA.cell? ⟨w.heap.size, 4, none⟩ = some (.slice rB rm rd) := (blk_cell hx 4).trans rfl
          have y0 : yA.cell? ⟨w.heap.size + 1, 0, none⟩ = some (.int .i64 5) := (blk_cell hy 0).trans rfl
          have y1 : yA.cell? ⟨w.heap.size + 1, 1, none⟩ = some (.int .i64 s1) := (blk_cell hy 1).trans rfl
          have y2 : yA.cell? ⟨w.heap.size + 1, 2, none⟩ = some (.string st) := (blk_cell hy 2).trans rfl
          have y3 : yA.cell? ⟨w.heap.size + 1, 3, none⟩ = some (.slice sA i sc) := (blk_cell hy 3).trans rfl
          have y4 : yA.cell? ⟨w.heap.size + 1, 4, none⟩ = some (.slice sB i sd) := (blk_cell hy 4).trans rfl
          clear hx hy
          go_upto_region 14 with fail
          refine start_ (n := 11) (S := fun w' => w'.cell? ⟨w.heap.size, 0, none⟩ = some (.int .i64 5) ∧ w'.cell? ⟨w.heap.size, 1, none⟩ = some (.int .i64 r1) ∧ w'.cell? ⟨w.heap.size, 2, none⟩ = some (.string rt) ∧ w'.cell? ⟨w.heap.size, 3, none⟩ = some (.slice rA rn rc) ∧ w'.cell? ⟨w.heap.size, 4, none⟩ = some (.slice rB rm rd) ∧ w'.cell? ⟨w.heap.size + 1, 0, none⟩ = some (.int .i64 5) ∧ w'.cell? ⟨w.heap.size + 1, 1, none⟩ = some (.int .i64 s1) ∧ w'.cell? ⟨w.heap.size + 1, 2, none⟩ = some (.string st) ∧ w'.cell? ⟨w.heap.size + 1, 3, none⟩ = some (.slice sA i sc) ∧ w'.cell? ⟨w.heap.size + 1, 4, none⟩ = some (.slice sB i sd)) (ds := [9]) #[false, false, false, false, false, false, false, false, false, false, false] (by kernel_rfl) rfl rfl ⟨x0, x1, x2, x3, x4, y0, y1, y2, y3, y4⟩ (fun hHeld => ?_)
          refine take_ (i := 0) (N := some 67) (v := ?_) (a' := ?_) #[true, false, false, false, false, false, false, false, false, false, false] rfl rfl (by kernel_rfl) (fun _ _ _ h => h) (Or.inl ⟨by rfl, ?_⟩) hHeld ?_ ?_
          rotate_left
          · rintro w' ⟨s0, s1, s2, s3, s4, s5, s6, s7, s8, s9⟩
            go_simp
            with_reducible rfl
          rotate_left
          · simp only [Act.put, List.setIfInBounds_toArray, List.set_cons_zero, List.set_cons_succ, i64_w, i32_w]
            rfl
          refine take_ (i := 2) (N := some 69) (v := ?_) (a' := ?_) #[true, false, true, false, false, false, false, false, false, false, false] rfl rfl (by kernel_rfl) (fun _ _ _ h => h) (Or.inl ⟨by rfl, ?_⟩) hHeld ?_ ?_
          rotate_left
          · rintro w' ⟨s0, s1, s2, s3, s4, s5, s6, s7, s8, s9⟩
            go_simp
            with_reducible rfl
          rotate_left
          · simp only [Act.put, List.setIfInBounds_toArray, List.set_cons_zero, List.set_cons_succ, i64_w, i32_w]
            rfl
          refine join_ (σ := Value × Value × (Option Addr × Nat) × (Option Addr × Nat) × Nat) 2 #[true, true, true, true, true, true, true, true, true, false, false] (fun s => [(68, s.1), (70, s.2.1), (71, .tuple #[.agg #[.int .i64 zi.f0, .int .i64 zi.f1, .string zi.f2, .slice s.2.2.1.1 zi.f3.length s.2.2.1.2, .slice s.2.2.2.1.1 zi.f4.length s.2.2.2.1.2], .bool true]), (66, .tuple #[.agg #[.int .i64 zi.f0, .int .i64 zi.f1, .string zi.f2, .slice s.2.2.1.1 zi.f3.length s.2.2.1.2, .slice s.2.2.2.1.1 zi.f4.length s.2.2.2.1.2], .bool true]), (72, .agg #[.int .i64 zi.f0, .int .i64 zi.f1, .string zi.f2, .slice s.2.2.1.1 zi.f3.length s.2.2.1.2, .slice s.2.2.2.1.1 zi.f4.length s.2.2.2.1.2]), (73, .bool true), (9, .pointer (some ⟨s.2.2.2.2, 0, none⟩))]) (fun s w' => Below yA.heap.size yA w' ∧ w'.heap[s.2.2.2.2]? = some (.cells #[.int .i64 0, .int .i64 0, .string ⟨#[]⟩, .slice none 0 0, .slice none 0 0] 34 (0, 0)) ∧ (∀ W' : World, w'.grownBy W' (some s.2.2.2.2) → MadeI zi W' (.agg #[.int .i64 zi.f0, .int .i64 zi.f1, .string zi.f2, .slice s.2.2.1.1 zi.f3.length s.2.2.1.2, .slice s.2.2.2.1.1 zi.f4.length s.2.2.2.1.2])) ∧ yA.heap.size ≤ s.2.2.2.2) ?_ ?_
          rotate_left
          · intro hCont
            refine two_ (i := 1) (j := 8) (Ni := some 68) (Nj := some 9) #[true, true, true, false, false, false, false, false, false, false, false] #[true, false, true, false, false, false, false, false, true, false, false] rfl rfl rfl rfl (by kernel_rfl) (by decide) (by decide) (fun K hK => ?_) (fun K hK => ?_)
            · skip
              refine goes_ Tryz.func14 (by kernel_rfl) rfl #[.agg #[.int .i64 5, .int .i64 s1, .string st, .slice sA i sc, .slice sB i sd]] (by rfl) rfl rfl (by simp only [List.map_toArray, List.map_cons, List.map_nil]; rfl) ?_
              with_reducible refine (law_to HTB.out (w := yA.drew) (HMB2.out.below_ (below_drew1 (Below.refl yA.heap.size yA)))).mono ?_
              rintro e w1B ⟨⟨u1B, rfl, hu⟩, hb⟩
              refine ⟨_, rfl, ?_⟩
              have hbb : Below yA.heap.size yA w1B := below_un hb
              have HC1B := Aside0.mk hbb
              have HU1B := Aside0.mk hu
              clear hb hbb hu
              refine hK.out _ _ ⟨(HC1B.out.cell (World.block_lt_of_cell? yA _ x0)).trans x0, (HC1B.out.cell (World.block_lt_of_cell? yA _ x1)).trans x1, (HC1B.out.cell (World.block_lt_of_cell? yA _ x2)).trans x2, (HC1B.out.cell (World.block_lt_of_cell? yA _ x3)).trans x3, (HC1B.out.cell (World.block_lt_of_cell? yA _ x4)).trans x4, (HC1B.out.cell (World.block_lt_of_cell? yA _ y0)).trans y0, (HC1B.out.cell (World.block_lt_of_cell? yA _ y1)).trans y1, (HC1B.out.cell (World.block_lt_of_cell? yA _ y2)).trans y2, (HC1B.out.cell (World.block_lt_of_cell? yA _ y3)).trans y3, (HC1B.out.cell (World.block_lt_of_cell? yA _ y4)).trans y4⟩ (fun hHeld => ?_)
              clear hK K
              refine norm_ (a' := ?_) ?_ ?_
              rotate_left
              · show Act.put _ (some 68) _ = _
                simp only [Act.put, List.setIfInBounds_toArray, List.set_cons_zero, List.set_cons_succ, i64_w, i32_w]
                rfl
              refine two_ (i := 3) (j := 8) (Ni := some 70) (Nj := some 9) #[true, true, true, true, false, false, false, false, false, false, false] #[true, true, true, false, false, false, false, false, true, false, false] rfl rfl rfl rfl (by kernel_rfl) (by decide) (by decide) (fun K hK => ?_) (fun K hK => ?_)
              · skip
                refine goes_ Tryz.func14 (by kernel_rfl) rfl #[.agg #[.int .i64 5, .int .i64 r1, .string rt, .slice rA rn rc, .slice rB rm rd]] (by rfl) rfl rfl (by simp only [List.map_toArray, List.map_cons, List.map_nil]; rfl) ?_
                with_reducible refine (law_to HTA.out (w := w1B) (HMA2.out.below_ HC1B.out)).mono ?_
                rintro e w3B ⟨⟨u3B, rfl, hu⟩, hb⟩
                refine ⟨_, rfl, ?_⟩
                have hbb : Below yA.heap.size yA w3B := below_then HC1B.out HC1B.out.size hb
                have HC3B := Aside0.mk hbb
                have HU3B := Aside0.mk hu
                have HV1B := Aside0.mk (HU1B.out.below_ hb)
                clear hb hbb hu
                refine hK.out _ _ ⟨(HC3B.out.cell (World.block_lt_of_cell? yA _ x0)).trans x0, (HC3B.out.cell (World.block_lt_of_cell? yA _ x1)).trans x1, (HC3B.out.cell (World.block_lt_of_cell? yA _ x2)).trans x2, (HC3B.out.cell (World.block_lt_of_cell? yA _ x3)).trans x3, (HC3B.out.cell (World.block_lt_of_cell? yA _ x4)).trans x4, (HC3B.out.cell (World.block_lt_of_cell? yA _ y0)).trans y0, (HC3B.out.cell (World.block_lt_of_cell? yA _ y1)).trans y1, (HC3B.out.cell (World.block_lt_of_cell? yA _ y2)).trans y2, (HC3B.out.cell (World.block_lt_of_cell? yA _ y3)).trans y3, (HC3B.out.cell (World.block_lt_of_cell? yA _ y4)).trans y4⟩ (fun hHeld => ?_)
                clear hK K
                refine norm_ (a' := ?_) ?_ ?_
                rotate_left
                · show Act.put _ (some 70) _ = _
                  simp only [Act.put, List.setIfInBounds_toArray, List.set_cons_zero, List.set_cons_succ, i64_w, i32_w]
                  rfl
                refine two_ (i := 4) (j := 8) (Ni := some 71) (Nj := some 9) #[true, true, true, true, true, false, false, false, false, false, false] #[true, true, true, true, false, false, false, false, true, false, false] rfl rfl rfl rfl (by kernel_rfl) (by decide) (by decide) (fun K hK => ?_) (fun K hK => ?_)
                · skip
                  refine goes_ Tryz.func23 (by kernel_rfl) rfl #[u1B, u3B] (by rfl) rfl rfl (by simp only [List.map_toArray, List.map_cons, List.map_nil]; rfl) ?_
                  with_reducible refine (HMGB.out _ _ w3B HV1B.out HU3B.out).mono ?_
                  rintro e w4B ⟨⟨E3B, a3B, E4B, a4B, rfl, p3, p4⟩, hb⟩
                  refine ⟨_, rfl, ?_⟩
                  unfold cellsI
                  have hbb : Below yA.heap.size yA w4B := below_then HC3B.out HC3B.out.size hb
                  have HC4B := Aside0.mk hbb
                  have HM4B : Aside0 (MadeI zi w4B (.agg #[.int .i64 zi.f0, .int .i64 zi.f1, .string zi.f2, .slice E3B zi.f3.length a3B, .slice E4B zi.f4.length a4B])) := ⟨fresh_kept p3 p4 (fun _ _ _ => rfl)⟩
                  clear hb hbb p3 p4
                  refine hK.out _ _ ⟨(HC4B.out.cell (World.block_lt_of_cell? yA _ x0)).trans x0, (HC4B.out.cell (World.block_lt_of_cell? yA _ x1)).trans x1, (HC4B.out.cell (World.block_lt_of_cell? yA _ x2)).trans x2, (HC4B.out.cell (World.block_lt_of_cell? yA _ x3)).trans x3, (HC4B.out.cell (World.block_lt_of_cell? yA _ x4)).trans x4, (HC4B.out.cell (World.block_lt_of_cell? yA _ y0)).trans y0, (HC4B.out.cell (World.block_lt_of_cell? yA _ y1)).trans y1, (HC4B.out.cell (World.block_lt_of_cell? yA _ y2)).trans y2, (HC4B.out.cell (World.block_lt_of_cell? yA _ y3)).trans y3, (HC4B.out.cell (World.block_lt_of_cell? yA _ y4)).trans y4⟩ (fun hHeld => ?_)
                  clear hK K
                  refine norm_ (a' := ?_) ?_ ?_
                  rotate_left
                  · show Act.put _ (some 71) _ = _
                    simp only [Act.put, List.setIfInBounds_toArray, List.set_cons_zero, List.set_cons_succ, i64_w, i32_w]
                    rfl
                  refine pure_ (i := 5) (N := some 66) (v := ?_) (a' := ?_) #[true, true, true, true, true, true, false, false, false, false, false] rfl rfl (by kernel_rfl) (fun _ _ _ h => h) (Or.inl ⟨by rfl, ?_⟩) ?_ ?_
                  rotate_left
                  · intro w'
                    go_simp
                    with_reducible rfl
                  rotate_left
                  · simp only [Act.put, List.setIfInBounds_toArray, List.set_cons_zero, List.set_cons_succ, i64_w, i32_w]
                    rfl
                  refine pure_ (i := 6) (N := some 72) (v := ?_) (a' := ?_) #[true, true, true, true, true, true, true, false, false, false, false] rfl rfl (by kernel_rfl) (fun _ _ _ h => h) (Or.inl ⟨by rfl, ?_⟩) ?_ ?_
                  rotate_left
                  · intro w'
                    go_simp
                    with_reducible rfl
                  rotate_left
                  · simp only [Act.put, List.setIfInBounds_toArray, List.set_cons_zero, List.set_cons_succ, i64_w, i32_w]
                    rfl
                  refine pure_ (i := 7) (N := some 73) (v := ?_) (a' := ?_) #[true, true, true, true, true, true, true, true, false, false, false] rfl rfl (by kernel_rfl) (fun _ _ _ h => h) (Or.inl ⟨by rfl, ?_⟩) ?_ ?_
                  rotate_left
                  · intro w'
                    go_simp
                    with_reducible rfl
                  rotate_left
                  · simp only [Act.put, List.setIfInBounds_toArray, List.set_cons_zero, List.set_cons_succ, i64_w, i32_w]
                    rfl
                  refine one_ (i := 8) (N := some 9) #[true, true, true, true, true, true, true, true, true, false, false] rfl rfl (by kernel_rfl) (by decide) (fun K hK => ?_)
                  refine value_ (w1 := ?_) (v := ?_) (by rfl) rfl ?_ ?_
                  rotate_left 2
                  · go_simp
                    constructor
                    · rfl
                    · rfl
                  have hba : Below yA.heap.size yA (w4B.alloc (Obj.cells #[.int .i64 0, .int .i64 0, .string ⟨#[]⟩, .slice none 0 0, .slice none 0 0] 34)) := (HC4B.out).alloc (HC4B.out).size _
                  have HCAB := Aside0.mk hba
                  have HBZ0B : Aside0 ((w4B.alloc (Obj.cells #[.int .i64 0, .int .i64 0, .string ⟨#[]⟩, .slice none 0 0, .slice none 0 0] 34)).heap[w4B.heap.size]? = some (.cells #[.int .i64 0, .int .i64 0, .string ⟨#[]⟩, .slice none 0 0, .slice none 0 0] 34 (0, 0))) := ⟨new_atI rfl⟩
                  have HBLB : Hid (yA.heap.size ≤ w4B.heap.size) := Lib.hid (HC4B.out).size
                  have HMKB : Aside0 (∀ W' : World, (w4B.alloc (Obj.cells #[.int .i64 0, .int .i64 0, .string ⟨#[]⟩, .slice none 0 0, .slice none 0 0] 34)).grownBy W' (some w4B.heap.size) → MadeI zi W' (.agg #[.int .i64 zi.f0, .int .i64 zi.f1, .string zi.f2, .slice E3B zi.f3.length a3B, .slice E4B zi.f4.length a4B])) := ⟨fun W' hg => HM4B.out.below_ (((Below.refl w4B.heap.size w4B).alloc (Nat.le_refl _) _).grown hg (by simp) (fun k e => by injection e with e; omega))⟩
                  clear hba
                  refine hK.out _ _ ⟨(HCAB.out.cell (World.block_lt_of_cell? yA _ x0)).trans x0, (HCAB.out.cell (World.block_lt_of_cell? yA _ x1)).trans x1, (HCAB.out.cell (World.block_lt_of_cell? yA _ x2)).trans x2, (HCAB.out.cell (World.block_lt_of_cell? yA _ x3)).trans x3, (HCAB.out.cell (World.block_lt_of_cell? yA _ x4)).trans x4, (HCAB.out.cell (World.block_lt_of_cell? yA _ y0)).trans y0, (HCAB.out.cell (World.block_lt_of_cell? yA _ y1)).trans y1, (HCAB.out.cell (World.block_lt_of_cell? yA _ y2)).trans y2, (HCAB.out.cell (World.block_lt_of_cell? yA _ y3)).trans y3, (HCAB.out.cell (World.block_lt_of_cell? yA _ y4)).trans y4⟩ (fun hHeld => ?_)
                  clear hK K
                  refine norm_ (a' := ?_) ?_ ?_
                  rotate_left
                  · show Act.put _ (some 9) _ = _
                    simp only [Act.put, List.setIfInBounds_toArray, List.set_cons_zero, List.set_cons_succ, i64_w, i32_w]
                    rfl
                  exact norm_ (by simp only [putAll, Act.put, List.setIfInBounds_toArray, List.set_cons_zero, List.set_cons_succ]) (hCont (u1B, u3B, (E3B, a3B), (E4B, a4B), w4B.heap.size) _ ⟨HCAB.out, HBZ0B.out, HMKB.out, HBLB.out⟩)
                · skip
                  refine value_ (w1 := ?_) (v := ?_) (by rfl) rfl ?_ ?_
                  rotate_left 2
                  · go_simp
                    constructor
                    · rfl
                    · rfl
                  have hba : Below yA.heap.size yA (w3B.alloc (Obj.cells #[.int .i64 0, .int .i64 0, .string ⟨#[]⟩, .slice none 0 0, .slice none 0 0] 34)) := (HC3B.out).alloc (HC3B.out).size _
                  have HCAB := Aside0.mk hba
                  have HBZ0B : Aside0 ((w3B.alloc (Obj.cells #[.int .i64 0, .int .i64 0, .string ⟨#[]⟩, .slice none 0 0, .slice none 0 0] 34)).heap[w3B.heap.size]? = some (.cells #[.int .i64 0, .int .i64 0, .string ⟨#[]⟩, .slice none 0 0, .slice none 0 0] 34 (0, 0))) := ⟨new_atI rfl⟩
                  have HBLB : Hid (yA.heap.size ≤ w3B.heap.size) := Lib.hid (HC3B.out).size
                  clear hba
                  refine hK.out _ _ ⟨(HCAB.out.cell (World.block_lt_of_cell? yA _ x0)).trans x0, (HCAB.out.cell (World.block_lt_of_cell? yA _ x1)).trans x1, (HCAB.out.cell (World.block_lt_of_cell? yA _ x2)).trans x2, (HCAB.out.cell (World.block_lt_of_cell? yA _ x3)).trans x3, (HCAB.out.cell (World.block_lt_of_cell? yA _ x4)).trans x4, (HCAB.out.cell (World.block_lt_of_cell? yA _ y0)).trans y0, (HCAB.out.cell (World.block_lt_of_cell? yA _ y1)).trans y1, (HCAB.out.cell (World.block_lt_of_cell? yA _ y2)).trans y2, (HCAB.out.cell (World.block_lt_of_cell? yA _ y3)).trans y3, (HCAB.out.cell (World.block_lt_of_cell? yA _ y4)).trans y4⟩ (fun hHeld => ?_)
                  clear hK K
                  refine norm_ (a' := ?_) ?_ ?_
                  rotate_left
                  · show Act.put _ (some 9) _ = _
                    simp only [Act.put, List.setIfInBounds_toArray, List.set_cons_zero, List.set_cons_succ, i64_w, i32_w]
                    rfl
                  refine one_ (i := 4) (N := some 71) #[true, true, true, true, true, false, false, false, true, false, false] rfl rfl (by kernel_rfl) (by decide) (fun K hK => ?_)
                  refine goes_ Tryz.func23 (by kernel_rfl) rfl #[u1B, u3B] (by rfl) rfl rfl (by simp only [List.map_toArray, List.map_cons, List.map_nil]; rfl) ?_
                  with_reducible refine (HMGB.out _ _ (w3B.alloc (Obj.cells #[.int .i64 0, .int .i64 0, .string ⟨#[]⟩, .slice none 0 0, .slice none 0 0] 34)) (HV1B.out.below_ ((Below.refl _ _).alloc (Nat.le_refl _) _)) (HU3B.out.below_ ((Below.refl _ _).alloc (Nat.le_refl _) _))).mono ?_
                  rintro e w4B ⟨⟨E3B, a3B, E4B, a4B, rfl, p3, p4⟩, hb⟩
                  refine ⟨_, rfl, ?_⟩
                  unfold cellsI
                  have hbb : Below yA.heap.size yA w4B := below_then HCAB.out HCAB.out.size hb
                  have HC4B := Aside0.mk hbb
                  have HM4B : Aside0 (MadeI zi w4B (.agg #[.int .i64 zi.f0, .int .i64 zi.f1, .string zi.f2, .slice E3B zi.f3.length a3B, .slice E4B zi.f4.length a4B])) := ⟨fresh_kept p3 p4 (fun _ _ _ => rfl)⟩
                  have HBZ4B := Aside0.mk (blk_below HBZ0B.out hb)
                  have HMKB : Aside0 (∀ W' : World, w4B.grownBy W' (some w3B.heap.size) → MadeI zi W' (.agg #[.int .i64 zi.f0, .int .i64 zi.f1, .string zi.f2, .slice E3B zi.f3.length a3B, .slice E4B zi.f4.length a4B])) := ⟨fun W' hg => fresh_kept p3 p4 (fun k hk hlt => hg.block k hlt (fun e => by injection e with e; have h1 := blk_lt HBZ0B.out; omega))⟩
                  clear hb hbb p3 p4
                  refine hK.out _ _ ⟨(HC4B.out.cell (World.block_lt_of_cell? yA _ x0)).trans x0, (HC4B.out.cell (World.block_lt_of_cell? yA _ x1)).trans x1, (HC4B.out.cell (World.block_lt_of_cell? yA _ x2)).trans x2, (HC4B.out.cell (World.block_lt_of_cell? yA _ x3)).trans x3, (HC4B.out.cell (World.block_lt_of_cell? yA _ x4)).trans x4, (HC4B.out.cell (World.block_lt_of_cell? yA _ y0)).trans y0, (HC4B.out.cell (World.block_lt_of_cell? yA _ y1)).trans y1, (HC4B.out.cell (World.block_lt_of_cell? yA _ y2)).trans y2, (HC4B.out.cell (World.block_lt_of_cell? yA _ y3)).trans y3, (HC4B.out.cell (World.block_lt_of_cell? yA _ y4)).trans y4⟩ (fun hHeld => ?_)
                  clear hK K
                  refine norm_ (a' := ?_) ?_ ?_
                  rotate_left
                  · show Act.put _ (some 71) _ = _
                    simp only [Act.put, List.setIfInBounds_toArray, List.set_cons_zero, List.set_cons_succ, i64_w, i32_w]
                    rfl
                  refine pure_ (i := 5) (N := some 66) (v := ?_) (a' := ?_) #[true, true, true, true, true, true, false, false, true, false, false] rfl rfl (by kernel_rfl) (fun _ _ _ h => h) (Or.inl ⟨by rfl, ?_⟩) ?_ ?_
                  rotate_left
                  · intro w'
                    go_simp
                    with_reducible rfl
                  rotate_left
                  · simp only [Act.put, List.setIfInBounds_toArray, List.set_cons_zero, List.set_cons_succ, i64_w, i32_w]
                    rfl
                  refine pure_ (i := 6) (N := some 72) (v := ?_) (a' := ?_) #[true, true, true, true, true, true, true, false, true, false, false] rfl rfl (by kernel_rfl) (fun _ _ _ h => h) (Or.inl ⟨by rfl, ?_⟩) ?_ ?_
                  rotate_left
                  · intro w'
                    go_simp
                    with_reducible rfl
                  rotate_left
                  · simp only [Act.put, List.setIfInBounds_toArray, List.set_cons_zero, List.set_cons_succ, i64_w, i32_w]
                    rfl
                  refine pure_ (i := 7) (N := some 73) (v := ?_) (a' := ?_) #[true, true, true, true, true, true, true, true, true, false, false] rfl rfl (by kernel_rfl) (fun _ _ _ h => h) (Or.inl ⟨by rfl, ?_⟩) ?_ ?_
                  rotate_left
                  · intro w'
                    go_simp
                    with_reducible rfl
                  rotate_left
                  · simp only [Act.put, List.setIfInBounds_toArray, List.set_cons_zero, List.set_cons_succ, i64_w, i32_w]
                    rfl
                  exact norm_ (by simp only [putAll, Act.put, List.setIfInBounds_toArray, List.set_cons_zero, List.set_cons_succ]) (hCont (u1B, u3B, (E3B, a3B), (E4B, a4B), w3B.heap.size) _ ⟨HC4B.out, HBZ4B.out, HMKB.out, HBLB.out⟩)
              · skip
                refine value_ (w1 := ?_) (v := ?_) (by rfl) rfl ?_ ?_
                rotate_left 2
                · go_simp
                  constructor
                  · rfl
                  · rfl
                have hba : Below yA.heap.size yA (w1B.alloc (Obj.cells #[.int .i64 0, .int .i64 0, .string ⟨#[]⟩, .slice none 0 0, .slice none 0 0] 34)) := (HC1B.out).alloc (HC1B.out).size _
                have HCAB := Aside0.mk hba
                have HBZ0B : Aside0 ((w1B.alloc (Obj.cells #[.int .i64 0, .int .i64 0, .string ⟨#[]⟩, .slice none 0 0, .slice none 0 0] 34)).heap[w1B.heap.size]? = some (.cells #[.int .i64 0, .int .i64 0, .string ⟨#[]⟩, .slice none 0 0, .slice none 0 0] 34 (0, 0))) := ⟨new_atI rfl⟩
                have HBLB : Hid (yA.heap.size ≤ w1B.heap.size) := Lib.hid (HC1B.out).size
                clear hba
                refine hK.out _ _ ⟨(HCAB.out.cell (World.block_lt_of_cell? yA _ x0)).trans x0, (HCAB.out.cell (World.block_lt_of_cell? yA _ x1)).trans x1, (HCAB.out.cell (World.block_lt_of_cell? yA _ x2)).trans x2, (HCAB.out.cell (World.block_lt_of_cell? yA _ x3)).trans x3, (HCAB.out.cell (World.block_lt_of_cell? yA _ x4)).trans x4, (HCAB.out.cell (World.block_lt_of_cell? yA _ y0)).trans y0, (HCAB.out.cell (World.block_lt_of_cell? yA _ y1)).trans y1, (HCAB.out.cell (World.block_lt_of_cell? yA _ y2)).trans y2, (HCAB.out.cell (World.block_lt_of_cell? yA _ y3)).trans y3, (HCAB.out.cell (World.block_lt_of_cell? yA _ y4)).trans y4⟩ (fun hHeld => ?_)
                clear hK K
                refine norm_ (a' := ?_) ?_ ?_
                rotate_left
                · show Act.put _ (some 9) _ = _
                  simp only [Act.put, List.setIfInBounds_toArray, List.set_cons_zero, List.set_cons_succ, i64_w, i32_w]
                  rfl
                refine one_ (i := 3) (N := some 70) #[true, true, true, true, false, false, false, false, true, false, false] rfl rfl (by kernel_rfl) (by decide) (fun K hK => ?_)
                refine goes_ Tryz.func14 (by kernel_rfl) rfl #[.agg #[.int .i64 5, .int .i64 r1, .string rt, .slice rA rn rc, .slice rB rm rd]] (by rfl) rfl rfl (by simp only [List.map_toArray, List.map_cons, List.map_nil]; rfl) ?_
                with_reducible refine (law_to HTA.out (w := (w1B.alloc (Obj.cells #[.int .i64 0, .int .i64 0, .string ⟨#[]⟩, .slice none 0 0, .slice none 0 0] 34))) (HMA2.out.below_ HCAB.out)).mono ?_
                rintro e w3B ⟨⟨u3B, rfl, hu⟩, hb⟩
                refine ⟨_, rfl, ?_⟩
                have hbb : Below yA.heap.size yA w3B := below_then HCAB.out HCAB.out.size hb
                have HC3B := Aside0.mk hbb
                have HU3B := Aside0.mk hu
                have HV1B := Aside0.mk ((HU1B.out.below_ ((Below.refl _ _).alloc (Nat.le_refl _) _)).below_ hb)
                have HBZ3B := Aside0.mk (blk_below HBZ0B.out hb)
                clear hb hbb hu
                refine hK.out _ _ ⟨(HC3B.out.cell (World.block_lt_of_cell? yA _ x0)).trans x0, (HC3B.out.cell (World.block_lt_of_cell? yA _ x1)).trans x1, (HC3B.out.cell (World.block_lt_of_cell? yA _ x2)).trans x2, (HC3B.out.cell (World.block_lt_of_cell? yA _ x3)).trans x3, (HC3B.out.cell (World.block_lt_of_cell? yA _ x4)).trans x4, (HC3B.out.cell (World.block_lt_of_cell? yA _ y0)).trans y0, (HC3B.out.cell (World.block_lt_of_cell? yA _ y1)).trans y1, (HC3B.out.cell (World.block_lt_of_cell? yA _ y2)).trans y2, (HC3B.out.cell (World.block_lt_of_cell? yA _ y3)).trans y3, (HC3B.out.cell (World.block_lt_of_cell? yA _ y4)).trans y4⟩ (fun hHeld => ?_)
                clear hK K
                refine norm_ (a' := ?_) ?_ ?_
                rotate_left
                · show Act.put _ (some 70) _ = _
                  simp only [Act.put, List.setIfInBounds_toArray, List.set_cons_zero, List.set_cons_succ, i64_w, i32_w]
                  rfl
                refine one_ (i := 4) (N := some 71) #[true, true, true, true, true, false, false, false, true, false, false] rfl rfl (by kernel_rfl) (by decide) (fun K hK => ?_)
                refine goes_ Tryz.func23 (by kernel_rfl) rfl #[u1B, u3B] (by rfl) rfl rfl (by simp only [List.map_toArray, List.map_cons, List.map_nil]; rfl) ?_
                with_reducible refine (HMGB.out _ _ w3B HV1B.out HU3B.out).mono ?_
                rintro e w4B ⟨⟨E3B, a3B, E4B, a4B, rfl, p3, p4⟩, hb⟩
                refine ⟨_, rfl, ?_⟩
                unfold cellsI
                have hbb : Below yA.heap.size yA w4B := below_then HC3B.out HC3B.out.size hb
                have HC4B := Aside0.mk hbb
                have HM4B : Aside0 (MadeI zi w4B (.agg #[.int .i64 zi.f0, .int .i64 zi.f1, .string zi.f2, .slice E3B zi.f3.length a3B, .slice E4B zi.f4.length a4B])) := ⟨fresh_kept p3 p4 (fun _ _ _ => rfl)⟩
                have HBZ4B := Aside0.mk (blk_below HBZ3B.out hb)
                have HMKB : Aside0 (∀ W' : World, w4B.grownBy W' (some w1B.heap.size) → MadeI zi W' (.agg #[.int .i64 zi.f0, .int .i64 zi.f1, .string zi.f2, .slice E3B zi.f3.length a3B, .slice E4B zi.f4.length a4B])) := ⟨fun W' hg => fresh_kept p3 p4 (fun k hk hlt => hg.block k hlt (fun e => by injection e with e; have h1 := blk_lt HBZ3B.out; omega))⟩
                clear hb hbb p3 p4
                refine hK.out _ _ ⟨(HC4B.out.cell (World.block_lt_of_cell? yA _ x0)).trans x0, (HC4B.out.cell (World.block_lt_of_cell? yA _ x1)).trans x1, (HC4B.out.cell (World.block_lt_of_cell? yA _ x2)).trans x2, (HC4B.out.cell (World.block_lt_of_cell? yA _ x3)).trans x3, (HC4B.out.cell (World.block_lt_of_cell? yA _ x4)).trans x4, (HC4B.out.cell (World.block_lt_of_cell? yA _ y0)).trans y0, (HC4B.out.cell (World.block_lt_of_cell? yA _ y1)).trans y1, (HC4B.out.cell (World.block_lt_of_cell? yA _ y2)).trans y2, (HC4B.out.cell (World.block_lt_of_cell? yA _ y3)).trans y3, (HC4B.out.cell (World.block_lt_of_cell? yA _ y4)).trans y4⟩ (fun hHeld => ?_)
                clear hK K
                refine norm_ (a' := ?_) ?_ ?_
                rotate_left
                · show Act.put _ (some 71) _ = _
                  simp only [Act.put, List.setIfInBounds_toArray, List.set_cons_zero, List.set_cons_succ, i64_w, i32_w]
                  rfl
                refine pure_ (i := 5) (N := some 66) (v := ?_) (a' := ?_) #[true, true, true, true, true, true, false, false, true, false, false] rfl rfl (by kernel_rfl) (fun _ _ _ h => h) (Or.inl ⟨by rfl, ?_⟩) ?_ ?_
                rotate_left
                · intro w'
                  go_simp
                  with_reducible rfl
                rotate_left
                · simp only [Act.put, List.setIfInBounds_toArray, List.set_cons_zero, List.set_cons_succ, i64_w, i32_w]
                  rfl
                refine pure_ (i := 6) (N := some 72) (v := ?_) (a' := ?_) #[true, true, true, true, true, true, true, false, true, false, false] rfl rfl (by kernel_rfl) (fun _ _ _ h => h) (Or.inl ⟨by rfl, ?_⟩) ?_ ?_
                rotate_left
                · intro w'
                  go_simp
                  with_reducible rfl
                rotate_left
                · simp only [Act.put, List.setIfInBounds_toArray, List.set_cons_zero, List.set_cons_succ, i64_w, i32_w]
                  rfl
                refine pure_ (i := 7) (N := some 73) (v := ?_) (a' := ?_) #[true, true, true, true, true, true, true, true, true, false, false] rfl rfl (by kernel_rfl) (fun _ _ _ h => h) (Or.inl ⟨by rfl, ?_⟩) ?_ ?_
                rotate_left
                · intro w'
                  go_simp
                  with_reducible rfl
                rotate_left
                · simp only [Act.put, List.setIfInBounds_toArray, List.set_cons_zero, List.set_cons_succ, i64_w, i32_w]
                  rfl
                exact norm_ (by simp only [putAll, Act.put, List.setIfInBounds_toArray, List.set_cons_zero, List.set_cons_succ]) (hCont (u1B, u3B, (E3B, a3B), (E4B, a4B), w1B.heap.size) _ ⟨HC4B.out, HBZ4B.out, HMKB.out, HBLB.out⟩)
            · skip
              refine value_ (w1 := ?_) (v := ?_) (by rfl) rfl ?_ ?_
              rotate_left 2
              · go_simp
                constructor
                · rfl
                · rfl
              have hba : Below yA.heap.size yA ((yA.alloc (Obj.cells #[.int .i64 0, .int .i64 0, .string ⟨#[]⟩, .slice none 0 0, .slice none 0 0] 34)).drew) := below_drew1 ((Below.refl yA.heap.size yA).alloc (Nat.le_refl _) _)
              have HCAB := Aside0.mk hba
              have HBZ0B : Aside0 (((yA.alloc (Obj.cells #[.int .i64 0, .int .i64 0, .string ⟨#[]⟩, .slice none 0 0, .slice none 0 0] 34)).drew).heap[yA.heap.size]? = some (.cells #[.int .i64 0, .int .i64 0, .string ⟨#[]⟩, .slice none 0 0, .slice none 0 0] 34 (0, 0))) := ⟨new_atI rfl⟩
              have HBLB : Hid (yA.heap.size ≤ yA.heap.size) := Lib.hid (Nat.le_refl _)
              clear hba
              refine hK.out _ _ ⟨(HCAB.out.cell (World.block_lt_of_cell? yA _ x0)).trans x0, (HCAB.out.cell (World.block_lt_of_cell? yA _ x1)).trans x1, (HCAB.out.cell (World.block_lt_of_cell? yA _ x2)).trans x2, (HCAB.out.cell (World.block_lt_of_cell? yA _ x3)).trans x3, (HCAB.out.cell (World.block_lt_of_cell? yA _ x4)).trans x4, (HCAB.out.cell (World.block_lt_of_cell? yA _ y0)).trans y0, (HCAB.out.cell (World.block_lt_of_cell? yA _ y1)).trans y1, (HCAB.out.cell (World.block_lt_of_cell? yA _ y2)).trans y2, (HCAB.out.cell (World.block_lt_of_cell? yA _ y3)).trans y3, (HCAB.out.cell (World.block_lt_of_cell? yA _ y4)).trans y4⟩ (fun hHeld => ?_)
              clear hK K
              refine norm_ (a' := ?_) ?_ ?_
              rotate_left
              · show Act.put _ (some 9) _ = _
                simp only [Act.put, List.setIfInBounds_toArray, List.set_cons_zero, List.set_cons_succ, i64_w, i32_w]
                rfl
              refine one_ (i := 1) (N := some 68) #[true, true, true, false, false, false, false, false, true, false, false] rfl rfl (by kernel_rfl) (by decide) (fun K hK => ?_)
              refine goes_ Tryz.func14 (by kernel_rfl) rfl #[.agg #[.int .i64 5, .int .i64 s1, .string st, .slice sA i sc, .slice sB i sd]] (by rfl) rfl rfl (by simp only [List.map_toArray, List.map_cons, List.map_nil]; rfl) ?_
              with_reducible refine (law_to HTB.out (w := ((yA.alloc (Obj.cells #[.int .i64 0, .int .i64 0, .string ⟨#[]⟩, .slice none 0 0, .slice none 0 0] 34)).drew)) (HMB2.out.below_ HCAB.out)).mono ?_
              rintro e w1B ⟨⟨u1B, rfl, hu⟩, hb⟩
              refine ⟨_, rfl, ?_⟩
              have hbb : Below yA.heap.size yA w1B := below_then HCAB.out HCAB.out.size hb
              have HC1B := Aside0.mk hbb
              have HU1B := Aside0.mk hu
              have HBZ1B := Aside0.mk (blk_below HBZ0B.out hb)
              clear hb hbb hu
              refine hK.out _ _ ⟨(HC1B.out.cell (World.block_lt_of_cell? yA _ x0)).trans x0, (HC1B.out.cell (World.block_lt_of_cell? yA _ x1)).trans x1, (HC1B.out.cell (World.block_lt_of_cell? yA _ x2)).trans x2, (HC1B.out.cell (World.block_lt_of_cell? yA _ x3)).trans x3, (HC1B.out.cell (World.block_lt_of_cell? yA _ x4)).trans x4, (HC1B.out.cell (World.block_lt_of_cell? yA _ y0)).trans y0, (HC1B.out.cell (World.block_lt_of_cell? yA _ y1)).trans y1, (HC1B.out.cell (World.block_lt_of_cell? yA _ y2)).trans y2, (HC1B.out.cell (World.block_lt_of_cell? yA _ y3)).trans y3, (HC1B.out.cell (World.block_lt_of_cell? yA _ y4)).trans y4⟩ (fun hHeld => ?_)
              clear hK K
              refine norm_ (a' := ?_) ?_ ?_
              rotate_left
              · show Act.put _ (some 68) _ = _
                simp only [Act.put, List.setIfInBounds_toArray, List.set_cons_zero, List.set_cons_succ, i64_w, i32_w]
                rfl
              refine one_ (i := 3) (N := some 70) #[true, true, true, true, false, false, false, false, true, false, false] rfl rfl (by kernel_rfl) (by decide) (fun K hK => ?_)
              refine goes_ Tryz.func14 (by kernel_rfl) rfl #[.agg #[.int .i64 5, .int .i64 r1, .string rt, .slice rA rn rc, .slice rB rm rd]] (by rfl) rfl rfl (by simp only [List.map_toArray, List.map_cons, List.map_nil]; rfl) ?_
              with_reducible refine (law_to HTA.out (w := w1B) (HMA2.out.below_ HC1B.out)).mono ?_
              rintro e w3B ⟨⟨u3B, rfl, hu⟩, hb⟩
              refine ⟨_, rfl, ?_⟩
              have hbb : Below yA.heap.size yA w3B := below_then HC1B.out HC1B.out.size hb
              have HC3B := Aside0.mk hbb
              have HU3B := Aside0.mk hu
              have HV1B := Aside0.mk (HU1B.out.below_ hb)
              have HBZ3B := Aside0.mk (blk_below HBZ1B.out hb)
              clear hb hbb hu
              refine hK.out _ _ ⟨(HC3B.out.cell (World.block_lt_of_cell? yA _ x0)).trans x0, (HC3B.out.cell (World.block_lt_of_cell? yA _ x1)).trans x1, (HC3B.out.cell (World.block_lt_of_cell? yA _ x2)).trans x2, (HC3B.out.cell (World.block_lt_of_cell? yA _ x3)).trans x3, (HC3B.out.cell (World.block_lt_of_cell? yA _ x4)).trans x4, (HC3B.out.cell (World.block_lt_of_cell? yA _ y0)).trans y0, (HC3B.out.cell (World.block_lt_of_cell? yA _ y1)).trans y1, (HC3B.out.cell (World.block_lt_of_cell? yA _ y2)).trans y2, (HC3B.out.cell (World.block_lt_of_cell? yA _ y3)).trans y3, (HC3B.out.cell (World.block_lt_of_cell? yA _ y4)).trans y4⟩ (fun hHeld => ?_)
              clear hK K
              refine norm_ (a' := ?_) ?_ ?_
              rotate_left
              · show Act.put _ (some 70) _ = _
                simp only [Act.put, List.setIfInBounds_toArray, List.set_cons_zero, List.set_cons_succ, i64_w, i32_w]
                rfl
              refine one_ (i := 4) (N := some 71) #[true, true, true, true, true, false, false, false, true, false, false] rfl rfl (by kernel_rfl) (by decide) (fun K hK => ?_)
              refine goes_ Tryz.func23 (by kernel_rfl) rfl #[u1B, u3B] (by rfl) rfl rfl (by simp only [List.map_toArray, List.map_cons, List.map_nil]; rfl) ?_
              with_reducible refine (HMGB.out _ _ w3B HV1B.out HU3B.out).mono ?_
              rintro e w4B ⟨⟨E3B, a3B, E4B, a4B, rfl, p3, p4⟩, hb⟩
              refine ⟨_, rfl, ?_⟩
              unfold cellsI
              have hbb : Below yA.heap.size yA w4B := below_then HC3B.out HC3B.out.size hb
              have HC4B := Aside0.mk hbb
              have HM4B : Aside0 (MadeI zi w4B (.agg #[.int .i64 zi.f0, .int .i64 zi.f1, .string zi.f2, .slice E3B zi.f3.length a3B, .slice E4B zi.f4.length a4B])) := ⟨fresh_kept p3 p4 (fun _ _ _ => rfl)⟩
              have HBZ4B := Aside0.mk (blk_below HBZ3B.out hb)
              have HMKB : Aside0 (∀ W' : World, w4B.grownBy W' (some yA.heap.size) → MadeI zi W' (.agg #[.int .i64 zi.f0, .int .i64 zi.f1, .string zi.f2, .slice E3B zi.f3.length a3B, .slice E4B zi.f4.length a4B])) := ⟨fun W' hg => fresh_kept p3 p4 (fun k hk hlt => hg.block k hlt (fun e => by injection e with e; have h1 := blk_lt HBZ3B.out; omega))⟩
              clear hb hbb p3 p4
              refine hK.out _ _ ⟨(HC4B.out.cell (World.block_lt_of_cell? yA _ x0)).trans x0, (HC4B.out.cell (World.block_lt_of_cell? yA _ x1)).trans x1, (HC4B.out.cell (World.block_lt_of_cell? yA _ x2)).trans x2, (HC4B.out.cell (World.block_lt_of_cell? yA _ x3)).trans x3, (HC4B.out.cell (World.block_lt_of_cell? yA _ x4)).trans x4, (HC4B.out.cell (World.block_lt_of_cell? yA _ y0)).trans y0, (HC4B.out.cell (World.block_lt_of_cell? yA _ y1)).trans y1, (HC4B.out.cell (World.block_lt_of_cell? yA _ y2)).trans y2, (HC4B.out.cell (World.block_lt_of_cell? yA _ y3)).trans y3, (HC4B.out.cell (World.block_lt_of_cell? yA _ y4)).trans y4⟩ (fun hHeld => ?_)
              clear hK K
              refine norm_ (a' := ?_) ?_ ?_
              rotate_left
              · show Act.put _ (some 71) _ = _
                simp only [Act.put, List.setIfInBounds_toArray, List.set_cons_zero, List.set_cons_succ, i64_w, i32_w]
                rfl
              refine pure_ (i := 5) (N := some 66) (v := ?_) (a' := ?_) #[true, true, true, true, true, true, false, false, true, false, false] rfl rfl (by kernel_rfl) (fun _ _ _ h => h) (Or.inl ⟨by rfl, ?_⟩) ?_ ?_
              rotate_left
              · intro w'
                go_simp
                with_reducible rfl
              rotate_left
              · simp only [Act.put, List.setIfInBounds_toArray, List.set_cons_zero, List.set_cons_succ, i64_w, i32_w]
                rfl
              refine pure_ (i := 6) (N := some 72) (v := ?_) (a' := ?_) #[true, true, true, true, true, true, true, false, true, false, false] rfl rfl (by kernel_rfl) (fun _ _ _ h => h) (Or.inl ⟨by rfl, ?_⟩) ?_ ?_
              rotate_left
              · intro w'
                go_simp
                with_reducible rfl
              rotate_left
              · simp only [Act.put, List.setIfInBounds_toArray, List.set_cons_zero, List.set_cons_succ, i64_w, i32_w]
                rfl
              refine pure_ (i := 7) (N := some 73) (v := ?_) (a' := ?_) #[true, true, true, true, true, true, true, true, true, false, false] rfl rfl (by kernel_rfl) (fun _ _ _ h => h) (Or.inl ⟨by rfl, ?_⟩) ?_ ?_
              rotate_left
              · intro w'
                go_simp
                with_reducible rfl
              rotate_left
              · simp only [Act.put, List.setIfInBounds_toArray, List.set_cons_zero, List.set_cons_succ, i64_w, i32_w]
                rfl
              exact norm_ (by simp only [putAll, Act.put, List.setIfInBounds_toArray, List.set_cons_zero, List.set_cons_succ]) (hCont (u1B, u3B, (E3B, a3B), (E4B, a4B), yA.heap.size) _ ⟨HC4B.out, HBZ4B.out, HMKB.out, HBLB.out⟩)
          rintro ⟨u1B, u3B, ⟨E3B, a3B⟩, ⟨E4B, a4B⟩, bB⟩ vB ⟨hb_, hx_, hm_, hl_⟩
          have HBVB := Aside0.mk hb_
          have HXVB : Aside0 (vB.heap[bB]? = some (.cells #[.int .i64 0, .int .i64 0, .string ⟨#[]⟩, .slice none 0 0, .slice none 0 0] 34 (0, 0))) := ⟨hx_⟩
          have HMVB : Aside0 (∀ W' : World, vB.grownBy W' (some bB) → MadeI zi W' (.agg #[.int .i64 zi.f0, .int .i64 zi.f1, .string zi.f2, .slice E3B zi.f3.length a3B, .slice E4B zi.f4.length a4B])) := ⟨hm_⟩
          have HLVB : Hid (yA.heap.size ≤ bB) := Lib.hid hl_
          have hHeld : vB.cell? ⟨w.heap.size, 0, none⟩ = some (.int .i64 5) ∧ vB.cell? ⟨w.heap.size, 1, none⟩ = some (.int .i64 r1) ∧ vB.cell? ⟨w.heap.size, 2, none⟩ = some (.string rt) ∧ vB.cell? ⟨w.heap.size, 3, none⟩ = some (.slice rA rn rc) ∧ vB.cell? ⟨w.heap.size, 4, none⟩ = some (.slice rB rm rd) ∧ vB.cell? ⟨w.heap.size + 1, 0, none⟩ = some (.int .i64 5) ∧ vB.cell? ⟨w.heap.size + 1, 1, none⟩ = some (.int .i64 s1) ∧ vB.cell? ⟨w.heap.size + 1, 2, none⟩ = some (.string st) ∧ vB.cell? ⟨w.heap.size + 1, 3, none⟩ = some (.slice sA i sc) ∧ vB.cell? ⟨w.heap.size + 1, 4, none⟩ = some (.slice sB i sd) := ⟨(HBVB.out.cell (World.block_lt_of_cell? yA _ x0)).trans x0, (HBVB.out.cell (World.block_lt_of_cell? yA _ x1)).trans x1, (HBVB.out.cell (World.block_lt_of_cell? yA _ x2)).trans x2, (HBVB.out.cell (World.block_lt_of_cell? yA _ x3)).trans x3, (HBVB.out.cell (World.block_lt_of_cell? yA _ x4)).trans x4, (HBVB.out.cell (World.block_lt_of_cell? yA _ y0)).trans y0, (HBVB.out.cell (World.block_lt_of_cell? yA _ y1)).trans y1, (HBVB.out.cell (World.block_lt_of_cell? yA _ y2)).trans y2, (HBVB.out.cell (World.block_lt_of_cell? yA _ y3)).trans y3, (HBVB.out.cell (World.block_lt_of_cell? yA _ y4)).trans y4⟩
          clear hb_ hx_ hm_ hl_
          refine norm_ (a' := ?_) ?_ ?_
          rotate_left
          · simp only [putAll, Act.put, List.setIfInBounds_toArray, List.set_cons_zero, List.set_cons_succ]
            rfl
          refine last_ (i := 9) (N := none) #[true, true, true, true, true, true, true, true, true, true, false] rfl rfl (by kernel_rfl) (by decide) (fun K hK => ?_)
          refine store_step (cur := #[.int .i64 0, .int .i64 0, .string ⟨#[]⟩, .slice none 0 0, .slice none 0 0]) (e := 34) (g := bB) 34 _ _ (.agg #[.int .i64 zi.f0, .int .i64 zi.f1, .string zi.f2, .slice E3B zi.f3.length a3B, .slice E4B zi.f4.length a4B]) [.int .i64 zi.f0, .int .i64 zi.f1, .string zi.f2, .slice E3B zi.f3.length a3B, .slice E4B zi.f4.length a4B] (by rfl) rfl rfl rfl rfl (HXVB.out) rfl (show (Tryz.prog.info? 34).map (·.size) = some 5 by kernel_rfl) rfl (by simp [Value.oneCell']) ?_
          intro yB h_yB hg_yB
          have H_yB := Aside0.mk h_yB
          have HG_yB := Aside0.mk hg_yB
          clear h_yB hg_yB
          refine hK.out _ _ ?_
          clear hK K
          refine pure_ (i := 10) (N := some 10) (v := ?_) (a' := ?_) #[true, true, true, true, true, true, true, true, true, true, true] rfl rfl (by kernel_rfl) (fun _ _ _ h => h) (Or.inl ⟨by rfl, ?_⟩) ?_ ?_
          rotate_left
          · intro w'
            go_simp
            with_reducible rfl
          rotate_left
          · simp only [Act.put, List.setIfInBounds_toArray, List.set_cons_zero, List.set_cons_succ, i64_w, i32_w]
            rfl
          refine done_ (by kernel_rfl) ?_
          
          have hwB : Below yA.heap.size yA yB := HBVB.out.grown HG_yB.out HBVB.out.size (fun k e => by injection e with e; have := HLVB.out; omega)
          have hwW := below_then HWA.out HWA.out.size hwB
          have HWB2 := Aside0.mk hwW
          have HZB : Aside0 (MadeI zi yB (.agg #[.int .i64 zi.f0, .int .i64 zi.f1, .string zi.f2, .slice E3B zi.f3.length a3B, .slice E4B zi.f4.length a4B])) := ⟨HMVB.out yB HG_yB.out⟩
          have HZA2 := Aside0.mk (HZA.out.below_ hwB)
          have HMZ2 := Aside0.mk (HMZ.out.below_ hwW)
          have hp := blk_below H_yA.out hwB
          have hq := H_yB.out
          have ht := blk_below HBX.out hwW
          clear x0 x1 x2 x3 x4 y0 y1 y2 y3 y4 hwB hwW
          have p0 : yB.cell? ⟨bA, 0, none⟩ = some (.int .i64 zi.f0) := (blk_cell hp 0).trans rfl
          have p1 : yB.cell? ⟨bA, 1, none⟩ = some (.int .i64 zi.f1) := (blk_cell hp 1).trans rfl
          have p2 : yB.cell? ⟨bA, 2, none⟩ = some (.string zi.f2) := (blk_cell hp 2).trans rfl
          have p3 : yB.cell? ⟨bA, 3, none⟩ = some (.slice E3A zi.f3.length a3A) := (blk_cell hp 3).trans rfl
          have p4 : yB.cell? ⟨bA, 4, none⟩ = some (.slice E4A zi.f4.length a4A) := (blk_cell hp 4).trans rfl
          have t0 : yB.cell? ⟨bt, 0, none⟩ = some (.int .i64 t.n0) := (blk_cell ht 0).trans rfl
          have t1 : yB.cell? ⟨bt, 1, none⟩ = some (.int .i64 t.n1) := (blk_cell ht 1).trans rfl
          have t2 : yB.cell? ⟨bt, 2, none⟩ = some (.string t.t) := (blk_cell ht 2).trans rfl
          have t3 : yB.cell? ⟨bt, 3, none⟩ = some (.slice t.A t.an t.ac) := (blk_cell ht 3).trans rfl
          have t4 : yB.cell? ⟨bt, 4, none⟩ = some (.slice t.B t.bn t.bc) := (blk_cell ht 4).trans rfl
          have q0 : yB.cell? ⟨bB, 0, none⟩ = some (.int .i64 zi.f0) := (blk_cell hq 0).trans rfl
          have q1 : yB.cell? ⟨bB, 1, none⟩ = some (.int .i64 zi.f1) := (blk_cell hq 1).trans rfl
          have q2 : yB.cell? ⟨bB, 2, none⟩ = some (.string zi.f2) := (blk_cell hq 2).trans rfl
          have q3 : yB.cell? ⟨bB, 3, none⟩ = some (.slice E3B zi.f3.length a3B) := (blk_cell hq 3).trans rfl
          have q4 : yB.cell? ⟨bB, 4, none⟩ = some (.slice E4B zi.f4.length a4B) := (blk_cell hq 4).trans rfl
          clear hp hq ht
          go_upto_region 15 with fail
          refine start_ (n := 17) (S := fun w' => w'.cell? ⟨bA, 0, none⟩ = some (.int .i64 zi.f0) ∧ w'.cell? ⟨bA, 1, none⟩ = some (.int .i64 zi.f1) ∧ w'.cell? ⟨bA, 2, none⟩ = some (.string zi.f2) ∧ w'.cell? ⟨bA, 3, none⟩ = some (.slice E3A zi.f3.length a3A) ∧ w'.cell? ⟨bA, 4, none⟩ = some (.slice E4A zi.f4.length a4A) ∧ w'.cell? ⟨bt, 0, none⟩ = some (.int .i64 t.n0) ∧ w'.cell? ⟨bt, 1, none⟩ = some (.int .i64 t.n1) ∧ w'.cell? ⟨bt, 2, none⟩ = some (.string t.t) ∧ w'.cell? ⟨bt, 3, none⟩ = some (.slice t.A t.an t.ac) ∧ w'.cell? ⟨bt, 4, none⟩ = some (.slice t.B t.bn t.bc) ∧ w'.cell? ⟨bB, 0, none⟩ = some (.int .i64 zi.f0) ∧ w'.cell? ⟨bB, 1, none⟩ = some (.int .i64 zi.f1) ∧ w'.cell? ⟨bB, 2, none⟩ = some (.string zi.f2) ∧ w'.cell? ⟨bB, 3, none⟩ = some (.slice E3B zi.f3.length a3B) ∧ w'.cell? ⟨bB, 4, none⟩ = some (.slice E4B zi.f4.length a4B)) (ds := []) #[false, false, false, false, false, false, false, false, false, false, false, false, false, false, false, false, false] (by kernel_rfl) rfl rfl ⟨p0, p1, p2, p3, p4, t0, t1, t2, t3, t4, q0, q1, q2, q3, q4⟩ (fun hHeld => ?_)
          refine pure_ (i := 0) (N := some 74) (v := ?_) (a' := ?_) #[true, false, false, false, false, false, false, false, false, false, false, false, false, false, false, false, false] rfl rfl (by kernel_rfl) (fun _ _ _ h => h) (Or.inl ⟨by rfl, ?_⟩) ?_ ?_
          rotate_left
          · intro w'
            go_simp
            with_reducible rfl
          rotate_left
          · simp only [Act.put, List.setIfInBounds_toArray, List.set_cons_zero, List.set_cons_succ, i64_w, i32_w]
            rfl
          refine pure_ (i := 1) (N := some 75) (v := ?_) (a' := ?_) #[true, true, false, false, false, false, false, false, false, false, false, false, false, false, false, false, false] rfl rfl (by kernel_rfl) (fun _ _ _ h => h) (Or.inl ⟨by rfl, ?_⟩) ?_ ?_
          rotate_left
          · intro w'
            go_simp
            with_reducible rfl
          rotate_left
          · simp only [Act.put, List.setIfInBounds_toArray, List.set_cons_zero, List.set_cons_succ, i64_w, i32_w]
            rfl
          refine pure_ (i := 2) (N := some 76) (v := ?_) (a' := ?_) #[true, true, true, false, false, false, false, false, false, false, false, false, false, false, false, false, false] rfl rfl (by kernel_rfl) (fun _ _ _ h => h) (Or.inl ⟨by rfl, ?_⟩) ?_ ?_
          rotate_left
          · intro w'
            go_simp
            with_reducible rfl
          rotate_left
          · simp only [Act.put, List.setIfInBounds_toArray, List.set_cons_zero, List.set_cons_succ, i64_w, i32_w]
            rfl
          refine pure_ (i := 3) (N := some 77) (v := ?_) (a' := ?_) #[true, true, true, true, false, false, false, false, false, false, false, false, false, false, false, false, false] rfl rfl (by kernel_rfl) (fun _ _ _ h => h) (Or.inl ⟨by rfl, ?_⟩) ?_ ?_
          rotate_left
          · intro w'
            go_simp
            with_reducible rfl
          rotate_left
          · simp only [Act.put, List.setIfInBounds_toArray, List.set_cons_zero, List.set_cons_succ, i64_w, i32_w]
            rfl
          refine pure_ (i := 4) (N := some 78) (v := ?_) (a' := ?_) #[true, true, true, true, true, false, false, false, false, false, false, false, false, false, false, false, false] rfl rfl (by kernel_rfl) (fun _ _ _ h => h) (Or.inl ⟨by rfl, ?_⟩) ?_ ?_
          rotate_left
          · intro w'
            go_simp
            with_reducible rfl
          rotate_left
          · simp only [Act.put, List.setIfInBounds_toArray, List.set_cons_zero, List.set_cons_succ, i64_w, i32_w]
            rfl
          refine take_ (i := 5) (N := some 79) (v := ?_) (a' := ?_) #[true, true, true, true, true, true, false, false, false, false, false, false, false, false, false, false, false] rfl rfl (by kernel_rfl) (fun _ _ _ h => h) (Or.inl ⟨by rfl, ?_⟩) hHeld ?_ ?_
          rotate_left
          · rintro w' ⟨s0, s1, s2, s3, s4, s5, s6, s7, s8, s9, s10, s11, s12, s13, s14⟩
            go_simp
            with_reducible rfl
          rotate_left
          · simp only [Act.put, List.setIfInBounds_toArray, List.set_cons_zero, List.set_cons_succ, i64_w, i32_w]
            rfl
          refine take_ (i := 7) (N := some 81) (v := ?_) (a' := ?_) #[true, true, true, true, true, true, false, true, false, false, false, false, false, false, false, false, false] rfl rfl (by kernel_rfl) (fun _ _ _ h => h) (Or.inl ⟨by rfl, ?_⟩) hHeld ?_ ?_
          rotate_left
          · rintro w' ⟨s0, s1, s2, s3, s4, s5, s6, s7, s8, s9, s10, s11, s12, s13, s14⟩
            go_simp
            with_reducible rfl
          rotate_left
          · simp only [Act.put, List.setIfInBounds_toArray, List.set_cons_zero, List.set_cons_succ, i64_w, i32_w]
            rfl
          refine one_ (i := 6) (N := some 80) #[true, true, true, true, true, true, true, true, false, false, false, false, false, false, false, false, false] rfl rfl (by kernel_rfl) (by decide) (fun K hK => ?_)
          refine goes_ Tryz.func16 (by kernel_rfl) rfl #[.agg #[.int .i64 zi.f0, .int .i64 zi.f1, .string zi.f2, .slice E3A zi.f3.length a3A, .slice E4A zi.f4.length a4A]] (by rfl) rfl rfl (by simp only [List.map_toArray, List.map_cons, List.map_nil]; rfl) ?_
          with_reducible refine (law_from HTZ.out (w := yB.drew) (HZA2.out.below_ (below_drew1 (Below.refl _ _)))).mono ?_
          rintro e w15 ⟨⟨u15, rfl, hu15⟩, hb15⟩
          refine ⟨_, rfl, ?_⟩
          have HU15 := Aside0.mk hu15
          have hc15 : Below yB.heap.size yB w15 := below_un hb15
          have HC15 := Aside0.mk hc15
          clear hu15 hb15 hc15
          refine hK.out _ _ ⟨(HC15.out.cell (World.block_lt_of_cell? yB _ p0)).trans p0, (HC15.out.cell (World.block_lt_of_cell? yB _ p1)).trans p1, (HC15.out.cell (World.block_lt_of_cell? yB _ p2)).trans p2, (HC15.out.cell (World.block_lt_of_cell? yB _ p3)).trans p3, (HC15.out.cell (World.block_lt_of_cell? yB _ p4)).trans p4, (HC15.out.cell (World.block_lt_of_cell? yB _ t0)).trans t0, (HC15.out.cell (World.block_lt_of_cell? yB _ t1)).trans t1, (HC15.out.cell (World.block_lt_of_cell? yB _ t2)).trans t2, (HC15.out.cell (World.block_lt_of_cell? yB _ t3)).trans t3, (HC15.out.cell (World.block_lt_of_cell? yB _ t4)).trans t4, (HC15.out.cell (World.block_lt_of_cell? yB _ q0)).trans q0, (HC15.out.cell (World.block_lt_of_cell? yB _ q1)).trans q1, (HC15.out.cell (World.block_lt_of_cell? yB _ q2)).trans q2, (HC15.out.cell (World.block_lt_of_cell? yB _ q3)).trans q3, (HC15.out.cell (World.block_lt_of_cell? yB _ q4)).trans q4⟩ (fun hHeld => ?_)
          clear hK K
          refine norm_ (a' := ?_) ?_ ?_
          rotate_left
          · show Act.put _ (some 80) _ = _
            simp only [Act.put, List.setIfInBounds_toArray, List.set_cons_zero, List.set_cons_succ, i64_w, i32_w]
            rfl
          refine one_ (i := 8) (N := some 82) #[true, true, true, true, true, true, true, true, true, false, false, false, false, false, false, false, false] rfl rfl (by kernel_rfl) (by decide) (fun K hK => ?_)
          refine goes_ Tryz.func15 (by kernel_rfl) rfl #[u15, .agg #[.int .i64 t.n0, .int .i64 t.n1, .string t.t, .slice t.A t.an t.ac, .slice t.B t.bn t.bc]] (by rfl) rfl rfl (by simp only [List.map_toArray, List.map_cons, List.map_nil]; rfl) ?_
          with_reducible refine (law_same HBDZ.out HU15.out (HMZ2.out.below_ HC15.out)).mono ?_
          rintro e w16 ⟨rfl, hb16⟩
          refine ⟨_, rfl, ?_⟩
          have HC16 := Aside0.mk (below_then HC15.out HC15.out.size hb16)
          clear hb16
          refine hK.out _ _ ⟨(HC16.out.cell (World.block_lt_of_cell? yB _ p0)).trans p0, (HC16.out.cell (World.block_lt_of_cell? yB _ p1)).trans p1, (HC16.out.cell (World.block_lt_of_cell? yB _ p2)).trans p2, (HC16.out.cell (World.block_lt_of_cell? yB _ p3)).trans p3, (HC16.out.cell (World.block_lt_of_cell? yB _ p4)).trans p4, (HC16.out.cell (World.block_lt_of_cell? yB _ t0)).trans t0, (HC16.out.cell (World.block_lt_of_cell? yB _ t1)).trans t1, (HC16.out.cell (World.block_lt_of_cell? yB _ t2)).trans t2, (HC16.out.cell (World.block_lt_of_cell? yB _ t3)).trans t3, (HC16.out.cell (World.block_lt_of_cell? yB _ t4)).trans t4, (HC16.out.cell (World.block_lt_of_cell? yB _ q0)).trans q0, (HC16.out.cell (World.block_lt_of_cell? yB _ q1)).trans q1, (HC16.out.cell (World.block_lt_of_cell? yB _ q2)).trans q2, (HC16.out.cell (World.block_lt_of_cell? yB _ q3)).trans q3, (HC16.out.cell (World.block_lt_of_cell? yB _ q4)).trans q4⟩ (fun hHeld => ?_)
          clear hK K
          refine norm_ (a' := ?_) ?_ ?_
          rotate_left
          · show Act.put _ (some 82) _ = _
            simp only [Act.put, List.setIfInBounds_toArray, List.set_cons_zero, List.set_cons_succ, i64_w, i32_w]
            rfl
          refine pure_ (i := 9) (N := some 83) (v := ?_) (a' := ?_) #[true, true, true, true, true, true, true, true, true, true, false, false, false, false, false, false, false] rfl rfl (by kernel_rfl) (fun _ _ _ h => h) (Or.inl ⟨by rfl, ?_⟩) ?_ ?_
          rotate_left
          · intro w'
            go_simp
            with_reducible rfl
          rotate_left
          · simp only [Act.put, List.setIfInBounds_toArray, List.set_cons_zero, List.set_cons_succ, i64_w, i32_w]
            rfl
          refine pure_ (i := 10) (N := some 84) (v := ?_) (a' := ?_) #[true, true, true, true, true, true, true, true, true, true, true, false, false, false, false, false, false] rfl rfl (by kernel_rfl) (fun _ _ _ h => h) (Or.inl ⟨by rfl, ?_⟩) ?_ ?_
          rotate_left
          · intro w'
            go_simp
            with_reducible rfl
          rotate_left
          · simp only [Act.put, List.setIfInBounds_toArray, List.set_cons_zero, List.set_cons_succ, i64_w, i32_w]
            rfl
          refine take_ (i := 11) (N := some 85) (v := ?_) (a' := ?_) #[true, true, true, true, true, true, true, true, true, true, true, true, false, false, false, false, false] rfl rfl (by kernel_rfl) (fun _ _ _ h => h) (Or.inl ⟨by rfl, ?_⟩) hHeld ?_ ?_
          rotate_left
          · rintro w' ⟨s0, s1, s2, s3, s4, s5, s6, s7, s8, s9, s10, s11, s12, s13, s14⟩
            go_simp
            with_reducible rfl
          rotate_left
          · simp only [Act.put, List.setIfInBounds_toArray, List.set_cons_zero, List.set_cons_succ, i64_w, i32_w]
            rfl
          refine take_ (i := 13) (N := some 87) (v := ?_) (a' := ?_) #[true, true, true, true, true, true, true, true, true, true, true, true, false, true, false, false, false] rfl rfl (by kernel_rfl) (fun _ _ _ h => h) (Or.inl ⟨by rfl, ?_⟩) hHeld ?_ ?_
          rotate_left
          · rintro w' ⟨s0, s1, s2, s3, s4, s5, s6, s7, s8, s9, s10, s11, s12, s13, s14⟩
            go_simp
            with_reducible rfl
          rotate_left
          · simp only [Act.put, List.setIfInBounds_toArray, List.set_cons_zero, List.set_cons_succ, i64_w, i32_w]
            rfl
          refine one_ (i := 12) (N := some 86) #[true, true, true, true, true, true, true, true, true, true, true, true, true, true, false, false, false] rfl rfl (by kernel_rfl) (by decide) (fun K hK => ?_)
          refine goes_ Tryz.func16 (by kernel_rfl) rfl #[.agg #[.int .i64 zi.f0, .int .i64 zi.f1, .string zi.f2, .slice E3B zi.f3.length a3B, .slice E4B zi.f4.length a4B]] (by rfl) rfl rfl (by simp only [List.map_toArray, List.map_cons, List.map_nil]; rfl) ?_
          with_reducible refine (law_from HTZ.out (w := w16) (HZB.out.below_ HC16.out)).mono ?_
          rintro e w17 ⟨⟨u17, rfl, hu17⟩, hb17⟩
          refine ⟨_, rfl, ?_⟩
          have HU17 := Aside0.mk hu17
          have HC17 := Aside0.mk (below_then HC16.out HC16.out.size hb17)
          clear hu17 hb17
          refine hK.out _ _ ⟨(HC17.out.cell (World.block_lt_of_cell? yB _ p0)).trans p0, (HC17.out.cell (World.block_lt_of_cell? yB _ p1)).trans p1, (HC17.out.cell (World.block_lt_of_cell? yB _ p2)).trans p2, (HC17.out.cell (World.block_lt_of_cell? yB _ p3)).trans p3, (HC17.out.cell (World.block_lt_of_cell? yB _ p4)).trans p4, (HC17.out.cell (World.block_lt_of_cell? yB _ t0)).trans t0, (HC17.out.cell (World.block_lt_of_cell? yB _ t1)).trans t1, (HC17.out.cell (World.block_lt_of_cell? yB _ t2)).trans t2, (HC17.out.cell (World.block_lt_of_cell? yB _ t3)).trans t3, (HC17.out.cell (World.block_lt_of_cell? yB _ t4)).trans t4, (HC17.out.cell (World.block_lt_of_cell? yB _ q0)).trans q0, (HC17.out.cell (World.block_lt_of_cell? yB _ q1)).trans q1, (HC17.out.cell (World.block_lt_of_cell? yB _ q2)).trans q2, (HC17.out.cell (World.block_lt_of_cell? yB _ q3)).trans q3, (HC17.out.cell (World.block_lt_of_cell? yB _ q4)).trans q4⟩ (fun hHeld => ?_)
          clear hK K
          refine norm_ (a' := ?_) ?_ ?_
          rotate_left
          · show Act.put _ (some 86) _ = _
            simp only [Act.put, List.setIfInBounds_toArray, List.set_cons_zero, List.set_cons_succ, i64_w, i32_w]
            rfl
          refine one_ (i := 14) (N := some 88) #[true, true, true, true, true, true, true, true, true, true, true, true, true, true, true, false, false] rfl rfl (by kernel_rfl) (by decide) (fun K hK => ?_)
          refine goes_ Tryz.func15 (by kernel_rfl) rfl #[u17, .agg #[.int .i64 t.n0, .int .i64 t.n1, .string t.t, .slice t.A t.an t.ac, .slice t.B t.bn t.bc]] (by rfl) rfl rfl (by simp only [List.map_toArray, List.map_cons, List.map_nil]; rfl) ?_
          with_reducible refine (law_same HBDZ.out HU17.out (HMZ2.out.below_ HC17.out)).mono ?_
          rintro e w18 ⟨rfl, hb18⟩
          refine ⟨_, rfl, ?_⟩
          have HC18 := Aside0.mk (below_then HC17.out HC17.out.size hb18)
          clear hb18
          refine hK.out _ _ ⟨(HC18.out.cell (World.block_lt_of_cell? yB _ p0)).trans p0, (HC18.out.cell (World.block_lt_of_cell? yB _ p1)).trans p1, (HC18.out.cell (World.block_lt_of_cell? yB _ p2)).trans p2, (HC18.out.cell (World.block_lt_of_cell? yB _ p3)).trans p3, (HC18.out.cell (World.block_lt_of_cell? yB _ p4)).trans p4, (HC18.out.cell (World.block_lt_of_cell? yB _ t0)).trans t0, (HC18.out.cell (World.block_lt_of_cell? yB _ t1)).trans t1, (HC18.out.cell (World.block_lt_of_cell? yB _ t2)).trans t2, (HC18.out.cell (World.block_lt_of_cell? yB _ t3)).trans t3, (HC18.out.cell (World.block_lt_of_cell? yB _ t4)).trans t4, (HC18.out.cell (World.block_lt_of_cell? yB _ q0)).trans q0, (HC18.out.cell (World.block_lt_of_cell? yB _ q1)).trans q1, (HC18.out.cell (World.block_lt_of_cell? yB _ q2)).trans q2, (HC18.out.cell (World.block_lt_of_cell? yB _ q3)).trans q3, (HC18.out.cell (World.block_lt_of_cell? yB _ q4)).trans q4⟩ (fun hHeld => ?_)
          clear hK K
          refine norm_ (a' := ?_) ?_ ?_
          rotate_left
          · show Act.put _ (some 88) _ = _
            simp only [Act.put, List.setIfInBounds_toArray, List.set_cons_zero, List.set_cons_succ, i64_w, i32_w]
            rfl
          refine pure_ (i := 15) (N := some 89) (v := ?_) (a' := ?_) #[true, true, true, true, true, true, true, true, true, true, true, true, true, true, true, true, false] rfl rfl (by kernel_rfl) (fun _ _ _ h => h) (Or.inl ⟨by rfl, ?_⟩) ?_ ?_
          rotate_left
          · intro w'
            go_simp
            with_reducible rfl
          rotate_left
          · simp only [Act.put, List.setIfInBounds_toArray, List.set_cons_zero, List.set_cons_succ, i64_w, i32_w]
            rfl
          refine pure_ (i := 16) (N := some 4) (v := ?_) (a' := ?_) #[true, true, true, true, true, true, true, true, true, true, true, true, true, true, true, true, true] rfl rfl (by kernel_rfl) (fun _ _ _ h => h) (Or.inl ⟨by rfl, ?_⟩) ?_ ?_
          rotate_left
          · intro w'
            go_simp
            with_reducible rfl
          rotate_left
          · simp only [Act.put, List.setIfInBounds_toArray, List.set_cons_zero, List.set_cons_succ, i64_w, i32_w]
            rfl
          refine done_ (by kernel_rfl) ?_
          
          go_wp2
          go_ret
          exact ⟨rfl, HWR.out.trans ((below_then HWB2.out HWB2.out.size HC18.out).mono HWR.out.size)⟩
end Go.Proofs.YtiamiagjkfioiaaGreatDoor.A
