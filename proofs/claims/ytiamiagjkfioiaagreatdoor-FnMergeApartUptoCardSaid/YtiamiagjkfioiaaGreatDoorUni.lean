/- Joined texts. -/
import Derived.Test.YtiamiagjkfioiaaGreatDoorMgW
import Derived.Test.YtiamiagjkfioiaaGreatDoorSortC
import Derived.Test.YtiamiagjkfioiaaGreatDoorTo
import Derived.Test.YtiamiagjkfioiaaGreatDoorMgL
import Derived.Test.YtiamiagjkfioiaaGreatDoorNeedG
import Derived.Test.YtiamiagjkfioiaaGreatDoorWithL
/- The walks of override.Merge, impl.model, impl.Merge (printed by gen_mgi.py). -/
namespace Go.Proofs.YtiamiagjkfioiaaGreatDoor.A
set_option linter.unusedVariables false
set_option linter.unusedSimpArgs false
set_option linter.unusedSectionVars false
open Go.RowKit Go.Proofs.YtiamiagjkfioiaaGreatDoorW.PrintWords Go.Proofs.YtiamiagjkfioiaaGreatDoorW.PrintLast Go.Proofs.YtiamiagjkfioiaaGreatDoorW.PrintMore Go.Proofs.YtiamiagjkfioiaaGreatDoor.PT Go.Proofs.YtiamiagjkfioiaaGreatDoor.L Go.Proofs.YtiamiagjkfioiaaGreatDoor.SM

theorem to_map {x : IV} (hc : Canon x) (h5 : x.f0 = 5) {v : Value} {w : World} (hv : MadeI x w v) : Calls Tryz.prog 35 #[v] w fun e w' => ∃ b, e = .returned (.map (some b)) ∧ AnyF w' (fun k => w.heap.size ≤ k ∧ k < w'.heap.size) x (.map b) ∧ Below w.heap.size w w' := by
  obtain ⟨A3, c3, A4, c4, rfl, h3, g3, h4, g4⟩ := hv
  refine (toMapF x hc h5 A3 c3 A4 c4 w g3 g4 (fun y hy W _ => toAnyF _ y (Nat.le_refl _) (hc.sub hy) W)).mono ?_
  rintro e w' ⟨rfl, ⟨m, Q, hm, hmk, hqb, hqd, hme⟩, hb⟩
  have hlt := hm.lt
  have hlen := (hc.keys h5).2
  refine ⟨_, rfl, .map Q h5 hm ⟨by omega, hlt⟩ (fun k hk => by have := (hqb k _ hk).1; omega) (fun k q hk => by have := hqb k q hk; exact ⟨by omega, this.2.1⟩) hqd (by rw [hmk, List.take_length]) ?_ hme, hb⟩
  have := congrArg List.length hmk
  rw [List.length_map, List.take_length] at this
  omega
theorem from_map_ {b : Nat} {y : IV} {w : World} (h : FromIs w (.map b) y) : Calls Tryz.prog 47 #[.map (some b)] w (Told y w) := by
  cases h with
  | map hm hb hk hl he => exact impl_fromMap sortC b _ _ _ w hm hb hk hl (fun i h1 h2 v hv W hW => impl_fromAny sortC (he i h1 h2 v hv) W hW)
theorem strings_Join0 (w : World) : Calls Tryz.prog 72 #[.slice none 0 0, .string ⟨#[46]⟩] w fun e w' => e = .returned (.string ⟨#[]⟩) ∧ w = w' := by
  go_enter Tryz.func72, Tryz.ntmps72
  go_wp2
  go_ret
  exact ⟨rfl, rfl⟩
theorem tree_NewPath0 (w : World) : Calls Tryz.prog 49 #[.slice none 0 0] w fun e w' => e = .returned (.string ⟨#[]⟩) ∧ w = w' := by
  go_enter Tryz.func49, Tryz.ntmps49
  go_wp2_with fail
  refine (strings_Join0 w).mono ?_
  rintro e w1 ⟨rfl, rfl⟩
  go_wp2
  go_ret
  exact ⟨rfl, rfl⟩
set_option maxRecDepth 100000 in
theorem impl_model {y : IV} {b : Nat} {w : World} (h : FromIs w (.map b) y) : Calls Tryz.prog 33 #[.map (some b), .nilIface] w (Told y w) := by
  have hb0 : Below w.heap.size w (w.alloc (Obj.cells zV 34)) := (Below.refl _ _).alloc (Nat.le_refl _) _
  have HC := Lib.hid (from_map_ (h.below_ hb0))
  have HB0 := Aside0.mk hb0
  clear h hb0
  go_enter Tryz.func33, Tryz.ntmps33
  go_wp2_with fail
  refine HC.out.mono ?_
  rintro e w2 ⟨A3, c3, A4, c4, rfl, h3, h4, hbb⟩
  have hre : w2.heap[w.heap.size]? = some (.cells zV 34 (0, 0)) := (hbb.block w.heap.size (by simp)).trans (new_atI rfl)
  have H3 := Aside0.mk h3
  have H4 := Aside0.mk h4
  have HBB := Aside0.mk (below_then HB0.out HB0.out.size hbb)
  have hs1 : (w.alloc (Obj.cells zV 34)).heap.size = w.heap.size + 1 := by simp
  have HS1 := Lib.hid hs1
  clear h3 h4 hbb hs1
  have n0 : w2.cell? ⟨w.heap.size, 0, none⟩ = some (.int .i64 0) := (blk_cell hre 0).trans rfl
  have n1 : w2.cell? ⟨w.heap.size, 1, none⟩ = some (.int .i64 0) := (blk_cell hre 1).trans rfl
  have n2 : w2.cell? ⟨w.heap.size, 2, none⟩ = some (.string ⟨#[]⟩) := (blk_cell hre 2).trans rfl
  have n3 : w2.cell? ⟨w.heap.size, 3, none⟩ = some (.slice none 0 0) := (blk_cell hre 3).trans rfl
  have n4 : w2.cell? ⟨w.heap.size, 4, none⟩ = some (.slice none 0 0) := (blk_cell hre 4).trans rfl
  have f0 := blk_frozen hre 0
  have f1 := blk_frozen hre 1
  have f2 := blk_frozen hre 2
  have f3 := blk_frozen hre 3
  have f4 := blk_frozen hre 4
  clear hre
  unfold cellsI
  go_wp2
  refine bodyPost_ret (v := .tuple #[cellsI y A3 c3 A4 c4, .bool true]) (by unfold cellsI; simp [results, Tryz.results33, go_sem, *]) rfl ?_
  refine Told.rows (y := y) A3 c3 A4 c4 ?_ ?_ (below5 HBB.out _ (Nat.le_refl _) _ _ _ _ _)
  · exact Kd.R_mono (Kd.R_lower (R_far5 (Kd.R_bound H3.out) w.heap.size (fun k hk e => by have h1 := hk.2.1; rw [HS1.out, e] at h1; exact Nat.not_succ_le_self _ h1) _ _ _ _ _) (by rw [HS1.out]; exact Nat.le_succ _)) (fun _ _ => trivial)
  · exact Kd.R_mono (Kd.R_lower (R_far5 (Kd.R_bound H4.out) w.heap.size (fun k hk e => by have h1 := hk.2.1; rw [HS1.out, e] at h1; exact Nat.not_succ_le_self _ h1) _ _ _ _ _) (by rw [HS1.out]; exact Nat.le_succ _)) (fun _ h => h.1)
theorem fresh_kept {z : IV} {w w' W' : World} {B3 : Option Addr} {d3 : Nat} {B4 : Option Addr} {d4 : Nat} (p3 : Kd.R Kd.string 9 w' w.heap.size (fun _ => True) (.slice B3 z.f3.length d3) z.f3) (p4 : Kd.R kI 34 w' w.heap.size (fun _ => True) (.slice B4 z.f4.length d4) z.f4) (hW : ∀ k, w.heap.size ≤ k → k < w'.heap.size → W'.heap[k]? = w'.heap[k]?) : MadeI z W' (cellsI z B3 d3 B4 d4) := by
  have q3 := Kd.R_reads' (Kd.R_step (Kd.R_bound p3) (fun k hk hlt => hW k hk.2.1 hlt))
  have q4 := Kd.R_reads' (Kd.R_step (Kd.R_bound p4) (fun k hk hlt => hW k hk.2.1 hlt))
  exact ⟨B3, d3, B4, d4, rfl, q3.2.1, q3.2.2, q4.2.1, q4.2.2⟩
theorem as_map1 (v : Value) (w : World) : (Instr.typeAssert (.iface 55 v) 20 55 false).run Tryz.prog w = .ok v w := by simp [Instr.typeAssert, run_underlying Tryz.underlying55, go_sem, Result.andThen]
theorem noRule_be : NoRule be := noRule_short (Nat.zero_le _) (by decide)
set_option maxRecDepth 100000 in
theorem override_Merge {x1 x2 z : IV} (h : Mrg be x1 x2 z) (h5 : z.f0 = 5) {w : World} {b1 b2 : Nat} {P1 P2 : Nat → Prop} (f1 : FromF w P1 (.map b1) x1) (f2 : FromF w P2 (.map b2) x2) (l1 : ∀ n, P1 n → n < w.heap.size) (l2 : ∀ n, P2 n → n < w.heap.size) (hd : ∀ n, P1 n → ¬ P2 n) :
    Calls Tryz.prog 44 #[.map (some b1), .map (some b2)] w fun e w' => ∃ b, e = .returned (.tuple #[.map (some b), .nilIface]) ∧ FromF w' (fun n => P1 n ∨ P2 n ∨ (w.heap.size ≤ n ∧ n < w'.heap.size)) (.map b) z ∧ Only P1 w w' := by
  have HC := Lib.hid (MYC.use (override_yaml h) f1 f2 l1 l2 hd)
  have H5 := Lib.hid h5
  unfold AV.enc at HC
  clear h h5 f1 f2 l1 l2 hd
  go_enter Tryz.func44, Tryz.ntmps44
  go_wp2_with fail
  refine (tree_NewPath0 w).mono ?_
  rintro e w1 ⟨rfl, rfl⟩
  go_wp2_with fail
  refine HC.out.mono ?_
  rintro e w2 ⟨v, rfl, hv, ho⟩
  obtain ⟨b, _, _, rfl, _⟩ := hv.unmap H5.out
  have HV := Aside0.mk hv
  have HO := Aside0.mk ho
  clear hv ho
  have e1 := as_map1 (.map (some b)) w2
  unfold AV.enc
  go_wp2
  go_ret2
  exact ⟨b, rfl, HV.out, HO.out⟩
set_option maxHeartbeats 2000000 in
set_option maxRecDepth 100000 in
theorem impl_Merge {x y z : IV} (h : Mrg be x y z) (h5 : z.f0 = 5) (fx : Fine x) (fy : Fine y) (x5 : x.f0 = 5) (y5 : y.f0 = 5) {v u : Value} {w : World} (hv : MadeI x w v) (hu : MadeI y w u) :
    Calls Tryz.prog 23 #[v, u] w fun e w' => (∃ E3 a3 E4 a4, e = .returned (.tuple #[cellsI z E3 a3 E4 a4, .bool true]) ∧ Kd.R Kd.string 9 w' w.heap.size (fun _ => True) (.slice E3 z.f3.length a3) z.f3 ∧ Kd.R kI 34 w' w.heap.size (fun _ => True) (.slice E4 z.f4.length a4) z.f4) ∧ Below w.heap.size w w' := by
  obtain ⟨A3, c3, A4, c4, rfl, h3, g3, h4, g4⟩ := hv
  obtain ⟨B3, d3, B4, d4, rfl, k3, j3, k4, j4⟩ := hu
  obtain ⟨W0, hW0⟩ : ∃ W0 : World, W0 = ((w.alloc (Obj.cells #[.int .i64 x.f0, .int .i64 x.f1, .string x.f2, .slice A3 x.f3.length c3, .slice A4 x.f4.length c4] 34)).alloc (Obj.cells #[.int .i64 y.f0, .int .i64 y.f1, .string y.f2, .slice B3 y.f3.length d3, .slice B4 y.f4.length d4] 34)).alloc (Obj.cells #[.int .i64 0, .int .i64 0, .string ⟨#[]⟩, .slice none 0 0, .slice none 0 0] 34) := ⟨_, rfl⟩
  have hb0 : Below w.heap.size w W0 := by rw [hW0]; exact (((Below.refl _ _).alloc (Nat.le_refl _) _).alloc (by simp) _).alloc (by simp; omega) _
  have hbx : W0.heap[w.heap.size]? = some (.cells #[.int .i64 x.f0, .int .i64 x.f1, .string x.f2, .slice A3 x.f3.length c3, .slice A4 x.f4.length c4] 34 (0, 0)) := by rw [hW0]; exact heap_oldI (heap_oldI (new_atI rfl))
  have hby : W0.heap[w.heap.size + 1]? = some (.cells #[.int .i64 y.f0, .int .i64 y.f1, .string y.f2, .slice B3 y.f3.length d3, .slice B4 y.f4.length d4] 34 (0, 0)) := by rw [hW0]; exact heap_oldI (new_atI (by simp))
  have HRE : Aside0 (W0.heap[w.heap.size + 2]? = some (.cells zV 34 (0, 0))) := ⟨by rw [hW0]; exact new_atI (by simp)⟩
  have HT := Lib.hid (fun (W : World) (hW : Below W0.heap.size W0 W) => to_map fx.canon x5 (w := W) (v := cellsI x A3 c3 A4 c4) ⟨A3, c3, A4, c4, rfl, h3, Kd.C_below (Kd.C_below g3 hb0) hW, h4, Kd.C_below (Kd.C_below g4 hb0) hW⟩)
  have HU := Lib.hid (fun (W : World) (hW : Below W0.heap.size W0 W) => to_map fy.canon y5 (w := W) (v := cellsI y B3 d3 B4 d4) ⟨B3, d3, B4, d4, rfl, k3, Kd.C_below (Kd.C_below j3 hb0) hW, k4, Kd.C_below (Kd.C_below j4 hb0) hW⟩)
  have HB0 := Aside0.mk hb0
  have HMG := Lib.hid h
  have H5 := Lib.hid h5
  have HFX := Lib.hid fx
  have HFY := Lib.hid fy
  have HS0 : Hid (W0.heap.size = w.heap.size + 3) := Lib.hid (by rw [hW0]; simp)
  have HW0 := Lib.hid hW0
  have m0 : W0.cell? ⟨w.heap.size, 0, none⟩ = some (.int .i64 x.f0) := (blk_cell hbx 0).trans rfl
  have m1 : W0.cell? ⟨w.heap.size, 1, none⟩ = some (.int .i64 x.f1) := (blk_cell hbx 1).trans rfl
  have m2 : W0.cell? ⟨w.heap.size, 2, none⟩ = some (.string x.f2) := (blk_cell hbx 2).trans rfl
  have m3 : W0.cell? ⟨w.heap.size, 3, none⟩ = some (.slice A3 x.f3.length c3) := (blk_cell hbx 3).trans rfl
  have m4 : W0.cell? ⟨w.heap.size, 4, none⟩ = some (.slice A4 x.f4.length c4) := (blk_cell hbx 4).trans rfl
  have y0 : W0.cell? ⟨w.heap.size + 1, 0, none⟩ = some (.int .i64 y.f0) := (blk_cell hby 0).trans rfl
  have y1 : W0.cell? ⟨w.heap.size + 1, 1, none⟩ = some (.int .i64 y.f1) := (blk_cell hby 1).trans rfl
  have y2 : W0.cell? ⟨w.heap.size + 1, 2, none⟩ = some (.string y.f2) := (blk_cell hby 2).trans rfl
  have y3 : W0.cell? ⟨w.heap.size + 1, 3, none⟩ = some (.slice B3 y.f3.length d3) := (blk_cell hby 3).trans rfl
  have y4 : W0.cell? ⟨w.heap.size + 1, 4, none⟩ = some (.slice B4 y.f4.length d4) := (blk_cell hby 4).trans rfl
  clear hb0 hW0 hbx hby h3 g3 h4 g4 k3 j3 k4 j4 h h5 fx fy x5 y5
  go_enter Tryz.func23, Tryz.ntmps23
  go_upto_region 1 with fail
  rw [← HW0.out]
  refine start_ (n := 12) (S := fun w' => w'.cell? ⟨w.heap.size, 0, none⟩ = some (.int .i64 x.f0) ∧ w'.cell? ⟨w.heap.size, 1, none⟩ = some (.int .i64 x.f1) ∧ w'.cell? ⟨w.heap.size, 2, none⟩ = some (.string x.f2) ∧ w'.cell? ⟨w.heap.size, 3, none⟩ = some (.slice A3 x.f3.length c3) ∧ w'.cell? ⟨w.heap.size, 4, none⟩ = some (.slice A4 x.f4.length c4) ∧ w'.cell? ⟨w.heap.size + 1, 0, none⟩ = some (.int .i64 y.f0) ∧ w'.cell? ⟨w.heap.size + 1, 1, none⟩ = some (.int .i64 y.f1) ∧ w'.cell? ⟨w.heap.size + 1, 2, none⟩ = some (.string y.f2) ∧ w'.cell? ⟨w.heap.size + 1, 3, none⟩ = some (.slice B3 y.f3.length d3) ∧ w'.cell? ⟨w.heap.size + 1, 4, none⟩ = some (.slice B4 y.f4.length d4)) (ds := [10]) #[false, false, false, false, false, false, false, false, false, false, false, false] (by kernel_rfl) rfl rfl ⟨m0, m1, m2, m3, m4, y0, y1, y2, y3, y4⟩ (fun hHeld => ?_)
  refine take_ (i := 0) (N := some 6) (v := ?_) (a' := ?_) #[true, false, false, false, false, false, false, false, false, false, false, false] rfl rfl (by kernel_rfl) (fun _ _ _ h => h) (Or.inl ⟨by rfl, ?_⟩) hHeld ?_ ?_
  rotate_left
  · rintro w' ⟨s0, s1, s2, s3, s4, s5, s6, s7, s8, s9⟩
    go_simp
    with_reducible rfl
  rotate_left
  · simp only [Act.put, List.setIfInBounds_toArray, List.set_cons_zero, List.set_cons_succ, i64_w, i32_w]
    rfl
  refine take_ (i := 2) (N := some 8) (v := ?_) (a' := ?_) #[true, false, true, false, false, false, false, false, false, false, false, false] rfl rfl (by kernel_rfl) (fun _ _ _ h => h) (Or.inl ⟨by rfl, ?_⟩) hHeld ?_ ?_
  rotate_left
  · rintro w' ⟨s0, s1, s2, s3, s4, s5, s6, s7, s8, s9⟩
    go_simp
    with_reducible rfl
  rotate_left
  · simp only [Act.put, List.setIfInBounds_toArray, List.set_cons_zero, List.set_cons_succ, i64_w, i32_w]
    rfl
  refine one_ (i := 1) (N := some 7) #[true, true, true, false, false, false, false, false, false, false, false, false] rfl rfl (by kernel_rfl) (by decide) (fun K hK => ?_)
  refine goes_ Tryz.func35 (by kernel_rfl) rfl #[cellsI x A3 c3 A4 c4] (by rfl) rfl rfl (by simp only [List.map_toArray, List.map_cons, List.map_nil]; rfl) ?_
  with_reducible refine (HT.out W0.drew (below_drew1 (Below.refl _ _))).mono ?_
  rintro e w1 ⟨b1, rfl, ha1, hb1⟩
  refine ⟨_, rfl, ?_⟩
  have HA1 : Aside0 (AnyF w1 (fun k => W0.heap.size ≤ k ∧ k < w1.heap.size) x (.map b1)) := ⟨ha1⟩
  have hc1 : Below W0.heap.size W0 w1 := below_un hb1
  have H1 := Aside0.mk hc1
  clear ha1 hb1 hc1
  refine hK.out _ _ ⟨(H1.out.cell (World.block_lt_of_cell? W0 _ m0)).trans m0, (H1.out.cell (World.block_lt_of_cell? W0 _ m1)).trans m1, (H1.out.cell (World.block_lt_of_cell? W0 _ m2)).trans m2, (H1.out.cell (World.block_lt_of_cell? W0 _ m3)).trans m3, (H1.out.cell (World.block_lt_of_cell? W0 _ m4)).trans m4, (H1.out.cell (World.block_lt_of_cell? W0 _ y0)).trans y0, (H1.out.cell (World.block_lt_of_cell? W0 _ y1)).trans y1, (H1.out.cell (World.block_lt_of_cell? W0 _ y2)).trans y2, (H1.out.cell (World.block_lt_of_cell? W0 _ y3)).trans y3, (H1.out.cell (World.block_lt_of_cell? W0 _ y4)).trans y4⟩ (fun hHeld => ?_)
  clear hK K
  refine norm_ (a' := ?_) ?_ ?_
  rotate_left
  · show Act.put _ (some 7) _ = _
    simp only [Act.put, List.setIfInBounds_toArray, List.set_cons_zero, List.set_cons_succ, i64_w, i32_w]
    rfl
  refine one_ (i := 3) (N := some 9) #[true, true, true, true, false, false, false, false, false, false, false, false] rfl rfl (by kernel_rfl) (by decide) (fun K hK => ?_)
  refine goes_ Tryz.func35 (by kernel_rfl) rfl #[cellsI y B3 d3 B4 d4] (by rfl) rfl rfl (by simp only [List.map_toArray, List.map_cons, List.map_nil]; rfl) ?_
  with_reducible refine (HU.out w1 H1.out).mono ?_
  rintro e w2 ⟨b2, rfl, ha2, hb2⟩
  refine ⟨_, rfl, ?_⟩
  have f1 := (HA1.out.toldF HFX.out).below_ hb2
  have f2 := ha2.toldF HFY.out
  have HM := Lib.hid (override_Merge HMG.out H5.out f1 f2 (fun n hn => Nat.lt_of_lt_of_le hn.2 hb2.size) (fun n hn => hn.2) (fun n hn hn' => Nat.lt_irrefl _ (Nat.lt_of_lt_of_le hn.2 hn'.1)))
  have H2 := Aside0.mk (below_then H1.out H1.out.size hb2)
  clear f1 f2 ha2 hb2
  refine hK.out _ _ ⟨(H2.out.cell (World.block_lt_of_cell? W0 _ m0)).trans m0, (H2.out.cell (World.block_lt_of_cell? W0 _ m1)).trans m1, (H2.out.cell (World.block_lt_of_cell? W0 _ m2)).trans m2, (H2.out.cell (World.block_lt_of_cell? W0 _ m3)).trans m3, (H2.out.cell (World.block_lt_of_cell? W0 _ m4)).trans m4, (H2.out.cell (World.block_lt_of_cell? W0 _ y0)).trans y0, (H2.out.cell (World.block_lt_of_cell? W0 _ y1)).trans y1, (H2.out.cell (World.block_lt_of_cell? W0 _ y2)).trans y2, (H2.out.cell (World.block_lt_of_cell? W0 _ y3)).trans y3, (H2.out.cell (World.block_lt_of_cell? W0 _ y4)).trans y4⟩ (fun hHeld => ?_)
  clear hK K
  refine norm_ (a' := ?_) ?_ ?_
  rotate_left
  · show Act.put _ (some 9) _ = _
    simp only [Act.put, List.setIfInBounds_toArray, List.set_cons_zero, List.set_cons_succ, i64_w, i32_w]
    rfl
  refine one_ (i := 4) (N := some 10) #[true, true, true, true, true, false, false, false, false, false, false, false] rfl rfl (by kernel_rfl) (by decide) (fun K hK => ?_)
  refine goes_ Tryz.func44 (by kernel_rfl) rfl #[.map (some b1), .map (some b2)] (by rfl) rfl rfl (by simp only [List.map_toArray, List.map_cons, List.map_nil]; rfl) ?_
  with_reducible refine (HM.out).mono ?_
  rintro e w3 ⟨b, rfl, hf3, ho3⟩
  refine ⟨_, rfl, ?_⟩
  have HF3 := Aside0.mk hf3.toFrom
  have H3 : Aside0 (Below W0.heap.size W0 w3) := ⟨H2.out.trans (ho3.toBelow (fun k hk => hk.1) H2.out.size)⟩
  clear hf3 ho3
  refine hK.out _ _ ⟨(H3.out.cell (World.block_lt_of_cell? W0 _ m0)).trans m0, (H3.out.cell (World.block_lt_of_cell? W0 _ m1)).trans m1, (H3.out.cell (World.block_lt_of_cell? W0 _ m2)).trans m2, (H3.out.cell (World.block_lt_of_cell? W0 _ m3)).trans m3, (H3.out.cell (World.block_lt_of_cell? W0 _ m4)).trans m4, (H3.out.cell (World.block_lt_of_cell? W0 _ y0)).trans y0, (H3.out.cell (World.block_lt_of_cell? W0 _ y1)).trans y1, (H3.out.cell (World.block_lt_of_cell? W0 _ y2)).trans y2, (H3.out.cell (World.block_lt_of_cell? W0 _ y3)).trans y3, (H3.out.cell (World.block_lt_of_cell? W0 _ y4)).trans y4⟩ (fun hHeld => ?_)
  clear hK K
  refine norm_ (a' := ?_) ?_ ?_
  rotate_left
  · show Act.put _ (some 10) _ = _
    simp only [Act.put, List.setIfInBounds_toArray, List.set_cons_zero, List.set_cons_succ, i64_w, i32_w]
    rfl
  refine pure_ (i := 5) (N := some 11) (v := ?_) (a' := ?_) #[true, true, true, true, true, true, false, false, false, false, false, false] rfl rfl (by kernel_rfl) (fun _ _ _ h => h) (Or.inl ⟨by rfl, ?_⟩) ?_ ?_
  rotate_left
  · intro w'
    go_simp
    with_reducible rfl
  rotate_left
  · simp only [Act.put, List.setIfInBounds_toArray, List.set_cons_zero, List.set_cons_succ, i64_w, i32_w]
    rfl
  refine pure_ (i := 6) (N := some 12) (v := ?_) (a' := ?_) #[true, true, true, true, true, true, true, false, false, false, false, false] rfl rfl (by kernel_rfl) (fun _ _ _ h => h) (Or.inl ⟨by rfl, ?_⟩) ?_ ?_
  rotate_left
  · intro w'
    go_simp
    with_reducible rfl
  rotate_left
  · simp only [Act.put, List.setIfInBounds_toArray, List.set_cons_zero, List.set_cons_succ, i64_w, i32_w]
    rfl
  refine one_ (i := 7) (N := some 13) #[true, true, true, true, true, true, true, true, false, false, false, false] rfl rfl (by kernel_rfl) (by decide) (fun K hK => ?_)
  refine goes_ Tryz.func33 (by kernel_rfl) rfl #[.map (some b), .nilIface] (by rfl) rfl rfl (by simp only [List.map_toArray, List.map_cons, List.map_nil]; rfl) ?_
  with_reducible refine (impl_model HF3.out).mono ?_
  rintro e w4 ⟨E3, a3, E4, a4, rfl, k3, k4, hb4⟩
  refine ⟨_, rfl, ?_⟩
  unfold cellsI
  have hre : w4.heap[w.heap.size + 2]? = some (.cells zV 34 (0, 0)) := blk_below (blk_below HRE.out H3.out) hb4
  have HRE4 := Aside0.mk hre
  have H4 := Aside0.mk (below_then H3.out H3.out.size hb4)
  have HS4 : Hid (W0.heap.size ≤ w3.heap.size) := Lib.hid H3.out.size
  have K3 := Aside0.mk k3
  have K4 := Aside0.mk k4
  clear k3 k4 hb4 hre
  refine hK.out _ _ ⟨(H4.out.cell (World.block_lt_of_cell? W0 _ m0)).trans m0, (H4.out.cell (World.block_lt_of_cell? W0 _ m1)).trans m1, (H4.out.cell (World.block_lt_of_cell? W0 _ m2)).trans m2, (H4.out.cell (World.block_lt_of_cell? W0 _ m3)).trans m3, (H4.out.cell (World.block_lt_of_cell? W0 _ m4)).trans m4, (H4.out.cell (World.block_lt_of_cell? W0 _ y0)).trans y0, (H4.out.cell (World.block_lt_of_cell? W0 _ y1)).trans y1, (H4.out.cell (World.block_lt_of_cell? W0 _ y2)).trans y2, (H4.out.cell (World.block_lt_of_cell? W0 _ y3)).trans y3, (H4.out.cell (World.block_lt_of_cell? W0 _ y4)).trans y4⟩ (fun hHeld => ?_)
  clear hK K
  refine norm_ (a' := ?_) ?_ ?_
  rotate_left
  · show Act.put _ (some 13) _ = _
    simp only [Act.put, List.setIfInBounds_toArray, List.set_cons_zero, List.set_cons_succ, i64_w, i32_w]
    rfl
  refine pure_ (i := 8) (N := some 14) (v := ?_) (a' := ?_) #[true, true, true, true, true, true, true, true, true, false, false, false] rfl rfl (by kernel_rfl) (fun _ _ _ h => h) (Or.inl ⟨by rfl, ?_⟩) ?_ ?_
  rotate_left
  · intro w'
    go_simp
    with_reducible rfl
  rotate_left
  · simp only [Act.put, List.setIfInBounds_toArray, List.set_cons_zero, List.set_cons_succ, i64_w, i32_w]
    rfl
  refine pure_ (i := 9) (N := some 15) (v := ?_) (a' := ?_) #[true, true, true, true, true, true, true, true, true, true, false, false] rfl rfl (by kernel_rfl) (fun _ _ _ h => h) (Or.inl ⟨by rfl, ?_⟩) ?_ ?_
  rotate_left
  · intro w'
    go_simp
    with_reducible rfl
  rotate_left
  · simp only [Act.put, List.setIfInBounds_toArray, List.set_cons_zero, List.set_cons_succ, i64_w, i32_w]
    rfl
  refine last_ (i := 10) (N := none) #[true, true, true, true, true, true, true, true, true, true, true, false] rfl rfl (by kernel_rfl) (by decide) (fun K hK => ?_)
  refine store_step (cur := #[.int .i64 0, .int .i64 0, .string ⟨#[]⟩, .slice none 0 0, .slice none 0 0]) (e := 34) (g := w.heap.size + 2) 34 _ _ (.agg #[.int .i64 z.f0, .int .i64 z.f1, .string z.f2, .slice E3 z.f3.length a3, .slice E4 z.f4.length a4]) [.int .i64 z.f0, .int .i64 z.f1, .string z.f2, .slice E3 z.f3.length a3, .slice E4 z.f4.length a4] (by rfl) rfl rfl rfl rfl (HRE4.out) rfl (show (Tryz.prog.info? 34).map (·.size) = some 5 by kernel_rfl) rfl (by simp [Value.oneCell']) ?_
  intro w5 h_w5 hg_w5
  have H_w5 := Aside0.mk h_w5
  have HG_w5 := Aside0.mk hg_w5
  clear h_w5 hg_w5
  refine hK.out _ _ ?_
  clear hK K
  refine pure_ (i := 11) (N := some 5) (v := ?_) (a' := ?_) #[true, true, true, true, true, true, true, true, true, true, true, true] rfl rfl (by kernel_rfl) (fun _ _ _ h => h) (Or.inl ⟨by rfl, ?_⟩) ?_ ?_
  rotate_left
  · intro w'
    go_simp
    with_reducible rfl
  rotate_left
  · simp only [Act.put, List.setIfInBounds_toArray, List.set_cons_zero, List.set_cons_succ, i64_w, i32_w]
    rfl
  refine done_ (by kernel_rfl) ?_
  
  clear m0 m1 m2 m3 m4 y0 y1 y2 y3 y4
  have r0 : w5.cell? ⟨w.heap.size + 2, 0, none⟩ = some (.int .i64 z.f0) := (blk_cell H_w5.out 0).trans rfl
  have r1 : w5.cell? ⟨w.heap.size + 2, 1, none⟩ = some (.int .i64 z.f1) := (blk_cell H_w5.out 1).trans rfl
  have r2 : w5.cell? ⟨w.heap.size + 2, 2, none⟩ = some (.string z.f2) := (blk_cell H_w5.out 2).trans rfl
  have r3 : w5.cell? ⟨w.heap.size + 2, 3, none⟩ = some (.slice E3 z.f3.length a3) := (blk_cell H_w5.out 3).trans rfl
  have r4 : w5.cell? ⟨w.heap.size + 2, 4, none⟩ = some (.slice E4 z.f4.length a4) := (blk_cell H_w5.out 4).trans rfl
  go_wp2
  refine bodyPost_ret (v := .tuple #[cellsI z E3 a3 E4 a4, .bool true]) (by unfold cellsI; simp [results, Tryz.results23, go_sem, *]) rfl ?_
  have hne : ∀ k, w3.heap.size ≤ k → some k ≠ some (w.heap.size + 2) := fun k hk e => by have h1 := HS4.out; have h2 := HS0.out; injection e with e; omega
  have hle : w.heap.size ≤ w3.heap.size := by have h1 := HS4.out; have h2 := HS0.out; omega
  have q3 := Kd.R_lower (Kd.R_mono (Kd.R_grown (Kd.R_bound K3.out) HG_w5.out (fun k hk => hne k hk.2.1)) (fun _ _ => trivial)) hle
  have q4 := Kd.R_lower (Kd.R_mono (Kd.R_grown (Kd.R_bound K4.out) HG_w5.out (fun k hk => hne k hk.2.1)) (fun _ _ => trivial)) hle
  exact ⟨⟨E3, a3, E4, a4, rfl, q3, q4⟩, (HB0.out.trans (H4.out.mono HB0.out.size)).grown HG_w5.out (by have h1 := H4.out.size; have h2 := HB0.out.size; omega) (fun k e => by injection e with e; omega)⟩
end Go.Proofs.YtiamiagjkfioiaaGreatDoor.A
/- The union of two maps without a common key, as the specification makes it. Plain. -/
namespace Go.Proofs.YtiamiagjkfioiaaGreatDoor.A
set_option linter.unusedVariables false
set_option linter.unusedSimpArgs false
set_option linter.unusedSectionVars false
open Go.RowKit Go.Proofs.YtiamiagjkfioiaaGreatDoorW.PrintWords Go.Proofs.YtiamiagjkfioiaaGreatDoorW.PrintLast Go.Proofs.YtiamiagjkfioiaaGreatDoorW.PrintMore Go.Proofs.YtiamiagjkfioiaaGreatDoor.PT Go.Proofs.YtiamiagjkfioiaaGreatDoor.L Go.Proofs.YtiamiagjkfioiaaGreatDoor.SM

theorem withKs_perm {key : ByteArray} {ks : List ByteArray} (h : placeB key ks = false) : (withKs key ks).Perm (ks ++ [key]) := by
  unfold withKs
  rw [if_neg (by rw [h]; decide)]
  refine (List.perm_middle).trans ?_
  rw [List.take_append_drop]
  exact (List.perm_append_comm (l₁ := [key]) (l₂ := ks))
theorem place_mem {key : ByteArray} {ks : List ByteArray} (ha : Ord.Asc id ks) : placeB key ks = true ↔ key ∈ ks := by
  constructor
  · intro h
    obtain ⟨h1, h2⟩ := place_in h
    rw [← h2]; exact List.getElem_mem h1
  · intro h
    cases hb : placeB key ks with
    | true => rfl
    | false => exact absurd h (place_not ha hb)
theorem withKs_iff {key k : ByteArray} {ks : List ByteArray} (ha : Ord.Asc id ks) : k ∈ withKs key ks ↔ k = key ∨ k ∈ ks := by
  refine ⟨withKs_mem, fun h => ?_⟩
  cases hb : placeB key ks with
  | true =>
    unfold withKs
    rw [if_pos hb]
    rcases h with rfl | h
    · exact (place_mem ha).1 hb
    · exact h
  | false =>
    rw [(withKs_perm hb).mem_iff]
    rcases h with rfl | h
    · simp
    · simp [h]
/-- a value as the thin package has it -/
def toI : SV → IV
  | ⟨a, b, s, ks, vs⟩ => ⟨a, b, s, ks, vs.attach.map (fun v => toI v.1)⟩
termination_by x => SizeOf.sizeOf x
decreasing_by
  have := List.sizeOf_lt_of_mem v.2
  simp only [S26.mk.sizeOf_spec]
  omega
theorem toI_eq (x : SV) : toI x = ⟨x.f0, x.f1, x.f2, x.f3, x.f4.map toI⟩ := by
  cases x with
  | mk a b s ks vs => rw [toI]; simp [List.attach_map_val]
theorem Twin.isI {x : SV} {y : IV} (h : Twin x y) : y = toI x := by
  induction h with
  | @mk x y h0 h1 h2 h3 hl hb3 hb4 he ih =>
    rw [toI_eq]
    cases y with
    | mk a b s ks vs =>
      simp only at h0 h1 h2 h3 hl
      rw [← h0, ← h1, ← h2, ← h3]
      congr 1
      apply List.ext_getElem (by simp [hl])
      intro i q1 q2
      rw [List.getElem_map]
      exact ih i (by simpa using q2) q1
theorem FineS.isI {x : SV} (h : FineS x) : Twin x (toI x) ∧ Fine (toI x) := by
  obtain ⟨y, h1, h2⟩ := h.twin
  have := h1.isI
  subst this
  exact ⟨h1, h2⟩
/-- a child by its key -/
def kidL {α : Type} (ks : List ByteArray) (vs : List α) (k : ByteArray) : Option α := SM.look (ks.zip vs) k
theorem kidI_toI (x : SV) (k : ByteArray) : kidI (toI x) k = (kidL x.f3 x.f4 k).map toI := by
  unfold kidI kidL
  rw [toI_eq]
  show SM.look (x.f3.zip (x.f4.map toI)) k = _
  have : x.f3.zip (x.f4.map toI) = (x.f3.zip x.f4).map (fun p => (p.1, toI p.2)) := by
    rw [List.zip_map_right]
    rfl
  rw [this]
  simp [SM.look, List.find?_map, Function.comp_def]
theorem kidL_with {α : Type} {key : ByteArray} {ks : List ByteArray} {vs : List α} {x : α} (ha : Ord.Asc id ks) (hl : vs.length = ks.length) (hn : placeB key ks = false) (k : ByteArray) : kidL (withKs key ks) (withL key ks vs x) k = if k = key then some x else kidL ks vs k := by
  have ha' := withKs_asc (key := key) ha
  have hl' : (withL key ks vs x).length = (withKs key ks).length := withL_len key ks vs x hl
  have hz : (withKs key ks).zip (withL key ks vs x) = (ks.take (placeN key ks)).zip (vs.take (placeN key ks)) ++ (key, x) :: (ks.drop (placeN key ks)).zip (vs.drop (placeN key ks)) := by
    unfold withKs withL
    rw [if_neg (by rw [hn]; decide), if_neg (by rw [hn]; decide), List.zip_append (by simp [hl])]
    rfl
  have hz0 : ks.zip vs = (ks.take (placeN key ks)).zip (vs.take (placeN key ks)) ++ (ks.drop (placeN key ks)).zip (vs.drop (placeN key ks)) := by
    rw [← List.zip_append (by simp [hl]), List.take_append_drop, List.take_append_drop]
  have hmem : ∀ p, p ∈ (withKs key ks).zip (withL key ks vs x) ↔ p = (key, x) ∨ p ∈ ks.zip vs := fun p => by
    rw [hz, hz0]
    simp only [List.mem_append, List.mem_cons]
    constructor
    · rintro (h | h | h)
      · exact .inr (.inl h)
      · exact .inl h
      · exact .inr (.inr h)
    · rintro (h | h | h)
      · exact .inr (.inl h)
      · exact .inl h
      · exact .inr (.inr h)
  have hnd : (SM.keys ((withKs key ks).zip (withL key ks vs x))).Nodup := by rw [keys_zip hl']; exact asc_nodup ha'
  unfold kidL
  by_cases e : k = key
  · rw [if_pos e, e]
    exact look_mem (p := (key, x)) hnd ((hmem _).2 (.inl rfl))
  · rw [if_neg e]
    cases h : SM.look (ks.zip vs) k with
    | none =>
      rw [look_none, has_false, keys_zip hl', withKs_iff ha]
      have := has_false.1 (look_none.1 h)
      rw [keys_zip hl] at this
      rintro (h1 | h1)
      · exact e h1
      · exact this h1
    | some u => exact look_mem (p := (k, u)) hnd ((hmem _).2 (.inr (look_some h).1))
theorem kidL_at {α : Type} {ks : List ByteArray} {vs : List α} (hl : vs.length = ks.length) (hn : ks.Nodup) {i : Nat} (h3 : i < ks.length) (h4 : i < vs.length) : kidL ks vs (ks[i]'h3) = some (vs[i]'h4) := by
  unfold kidL
  refine find_of (j := i) (p := (ks[i]'h3, vs[i]'h4)) (by rw [keys_zip hl]; exact hn) ?_
  rw [List.getElem?_zip_eq_some]
  exact ⟨List.getElem?_eq_getElem h3, List.getElem?_eq_getElem h4⟩
theorem kidL_none {α : Type} {ks : List ByteArray} {vs : List α} (hl : vs.length = ks.length) {k : ByteArray} : kidL ks vs k = none ↔ k ∉ ks := by
  unfold kidL
  rw [look_none, has_false, keys_zip hl]
open Classical in
/-- the union, as far as i keys of the second map are put -/
structure UniS (a b : SV) (i : Nat) (z : SV) : Prop where
  fine : FineS z
  z5 : z.f0 = 5
  len : z.f4.length ≤ a.f4.length + i
  keys : ∀ k, k ∈ z.f3 ↔ k ∈ a.f3 ∨ k ∈ b.f3.take i
  free : ∀ k, k ∈ b.f3.take i → k ∉ a.f3
  kid : ∀ k, kidL z.f3 z.f4 k = if k ∈ b.f3.take i then kidL b.f3 b.f4 k else kidL a.f3 a.f4 k
open Classical in
theorem UniS.start {a b : SV} (ha : FineS a) (h5 : a.f0 = 5) : UniS a b 0 a := ⟨ha, h5, Nat.le_refl _, fun k => by simp, fun k h => by simp at h, fun k => by simp⟩
open Classical in
theorem UniS.next {a b z : SV} {i : Nat} (h : UniS a b i z) (hb : FineS b) (b5 : b.f0 = 5) (h3 : i < b.f3.length) (h4 : i < b.f4.length) (hn : b.f3[i]'h3 ∉ a.f3) (hbd : a.f4.length + i + 1 ≤ 1099511627776) : UniS a b (i + 1) ⟨5, 0, be, withKs (b.f3[i]'h3) z.f3, withL (b.f3[i]'h3) z.f3 z.f4 (b.f4[i]'h4)⟩ := by
  obtain ⟨_, hba, hbl, _, hbf⟩ := fineS_map hb b5
  obtain ⟨_, hza, hzl, _, hzf⟩ := fineS_map h.fine h.z5
  have hnz : b.f3[i]'h3 ∉ z.f3 := fun hk => by
    rcases (h.keys _).1 hk with hk | hk
    · exact hn hk
    · exact nodup_take (asc_nodup hba) h3 hk
  have hpl : placeB (b.f3[i]'h3) z.f3 = false := by
    cases e : placeB (b.f3[i]'h3) z.f3 with
    | false => rfl
    | true => exact absurd ((place_mem hza).1 e) hnz
  have hwl := withL_len (b.f3[i]'h3) z.f3 z.f4 (b.f4[i]'h4) hzl
  have hkl := withKs_len (b.f3[i]'h3) z.f3
  have hlen : (withL (b.f3[i]'h3) z.f3 z.f4 (b.f4[i]'h4)).length ≤ a.f4.length + (i + 1) := by
    have := h.len
    omega
  have htk : ∀ k, k ∈ b.f3.take (i + 1) ↔ k ∈ b.f3.take i ∨ k = b.f3[i]'h3 := fun k => by
    rw [List.take_succ_eq_append_getElem h3, List.mem_append, List.mem_singleton]
  refine ⟨.map (withKs_asc hza) hwl (by omega) (fun j hj => ?_), rfl, hlen, fun k => ?_, fun k hk => ?_, fun k => ?_⟩
  · rcases withL_mem (List.getElem_mem hj) with e | e
    · rw [e]; exact hbf i h4
    · obtain ⟨q, hq, e⟩ := List.mem_iff_getElem.1 e
      rw [← e]; exact hzf q hq
  · show k ∈ withKs _ _ ↔ _
    rw [withKs_iff hza, h.keys, htk]
    constructor
    · rintro (h | h | h)
      · exact .inr (.inr h)
      · exact .inl h
      · exact .inr (.inl h)
    · rintro (h | h | h)
      · exact .inr (.inl h)
      · exact .inr (.inr h)
      · exact .inl h
  · rcases (htk k).1 hk with h1 | h1
    · exact h.free k h1
    · rw [h1]; exact hn
  · show kidL (withKs _ _) (withL _ _ _ _) k = _
    rw [kidL_with hza hzl hpl, h.kid]
    by_cases e : k = b.f3[i]'h3
    · subst e
      rw [if_pos rfl, if_pos ((htk _).2 (.inr rfl)), kidL_at hbl (asc_nodup hba) h3 h4]
    · rw [if_neg e]
      by_cases e2 : k ∈ b.f3.take i
      · rw [if_pos e2, if_pos ((htk k).2 (.inl e2))]
      · rw [if_neg e2, if_neg (fun hk => by
          rcases (htk k).1 hk with h1 | h1
          · exact e2 h1
          · exact e h1)]
open Classical in
/-- the union is what either merge makes -/
theorem UniS.mrg {a b z : SV} (h : UniS a b b.f3.length z) (ha : FineS a) (a5 : a.f0 = 5) (hb : FineS b) (b5 : b.f0 = 5) {p : ByteArray} (hn : NoRule p) : Mrg p (toI a) (toI b) (toI z) ∧ Mrg p (toI b) (toI a) (toI z) := by
  have e3 : ∀ x : SV, (toI x).f3 = x.f3 := fun x => by rw [toI_eq]
  have e0 : ∀ x : SV, (toI x).f0 = x.f0 := fun x => by rw [toI_eq]
  obtain ⟨_, _, hal, _, _⟩ := fineS_map ha a5
  obtain ⟨_, _, hbl, _, _⟩ := fineS_map hb b5
  have hk := h.keys
  have hf := h.free
  have hd := h.kid
  rw [List.take_length] at hk hf hd
  refine ⟨.map hn (by rw [e0]; exact a5) (by rw [e0]; exact b5) h.fine.isI.2 (by rw [e0]; exact h.z5) (fun k => by rw [e3, e3, e3]; exact hk k) (fun k hkb => ?_) (fun k hka => ?_) (fun k hka hkb => ?_) (fun k x y u hx hy _ => ?_),
    .map hn (by rw [e0]; exact b5) (by rw [e0]; exact a5) h.fine.isI.2 (by rw [e0]; exact h.z5) (fun k => by rw [e3, e3, e3, hk, Or.comm]) (fun k hka => ?_) (fun k hkb => ?_) (fun k hkb hka => ?_) (fun k y x u hy hx _ => ?_)⟩
  · rw [e3] at hkb
    rw [kidI_toI, kidI_toI, hd, if_neg hkb]
  · rw [e3] at hka
    rw [kidI_toI, kidI_toI, hd]
    by_cases e : k ∈ b.f3
    · rw [if_pos e]
    · rw [if_neg e, (kidL_none hal).2 hka, (kidL_none hbl).2 e]
  · rw [e3] at hka hkb
    exact absurd hka (hf k hkb)
  · rw [kidI_toI] at hx hy
    have h1 : k ∈ a.f3 := Classical.byContradiction fun hh => by rw [(kidL_none hal).2 hh] at hx; cases hx
    have h2 : k ∈ b.f3 := Classical.byContradiction fun hh => by rw [(kidL_none hbl).2 hh] at hy; cases hy
    exact absurd h1 (hf k h2)
  · rw [e3] at hka
    rw [kidI_toI, kidI_toI, hd]
    by_cases e : k ∈ b.f3
    · rw [if_pos e]
    · rw [if_neg e, (kidL_none hal).2 hka, (kidL_none hbl).2 e]
  · rw [e3] at hkb
    rw [kidI_toI, kidI_toI, hd, if_neg hkb]
  · rw [e3] at hka hkb
    exact absurd hka (hf k hkb)
  · rw [kidI_toI] at hx hy
    have h1 : k ∈ a.f3 := Classical.byContradiction fun hh => by rw [(kidL_none hal).2 hh] at hx; cases hx
    have h2 : k ∈ b.f3 := Classical.byContradiction fun hh => by rw [(kidL_none hbl).2 hh] at hy; cases hy
    exact absurd h1 (hf k h2)
end Go.Proofs.YtiamiagjkfioiaaGreatDoor.A
