/- The walks of override.Merge, impl.model, impl.Merge (printed by gen_mgi.py). -/
import Derived.Test.YtiamiagjkfioiaaGreatDoorMgW
import Derived.Test.YtiamiagjkfioiaaGreatDoorTo
namespace Go.Proofs.YtiamiagjkfioiaaGreatDoor.A
set_option linter.unusedVariables false
set_option linter.unusedSimpArgs false
set_option linter.unusedSectionVars false
open Go.RowKit Go.Proofs.YtiamiagjkfioiaaGreatDoorW.PrintWords Go.Proofs.YtiamiagjkfioiaaGreatDoorW.PrintLast Go.Proofs.YtiamiagjkfioiaaGreatDoorW.PrintMore Go.Proofs.YtiamiagjkfioiaaGreatDoor.PT Go.Proofs.YtiamiagjkfioiaaGreatDoor.L Go.Proofs.YtiamiagjkfioiaaGreatDoor.SM

theorem to_map {x : IV} (hc : Canon x) (h5 : x.f0 = 5) {v : Value} {w : World} (hv : MadeI x w v) : Calls Tryz.prog 35 #[v] w fun e w' => ∃ b, e = .returned (.map (some b)) ∧ AnyF w' (fun k => w.heap.size ≤ k ∧ k < w'.heap.size) x (.map b) ∧ Below w.heap.size w w' := by
  obtain ⟨A3, c3, A4, c4, rfl, h3, g3, h4, g4⟩ := hv
  refine (toMapF x hc h5 A3 c3 A4 c4 w g3 g4 (fun y hy W _ => toAnyF _ y (Nat.le_refl _) (hc.sub hy) W)).mono ?_
  rintro e w' ⟨rfl, ⟨m, Q, hm, hmk, hqb, hqd, hme⟩, hb⟩
  have hlt := hm.lt
  have hlen := (hc.keys h5).2
  refine ⟨_, rfl, .map Q h5 hm ⟨by omega, hlt⟩ (fun k hk => by have := (hqb k _ hk).1; omega) (fun k q hk => by have := hqb k q hk; exact ⟨by omega, this.2.1⟩) hqd (by rw [hmk, List.take_length]) ?_ hme, hb⟩
  have := congrArg List.length hmk
  rw [List.length_map, List.take_length] at this
  omega
theorem from_map_ {b : Nat} {y : IV} {w : World} (h : FromIs w (.map b) y) : Calls Tryz.prog 47 #[.map (some b)] w (Told y w) := by
  cases h with
  | map hm hb hk hl he => exact impl_fromMap sortC b _ _ _ w hm hb hk hl (fun i h1 h2 v hv W hW => impl_fromAny sortC (he i h1 h2 v hv) W hW)
theorem strings_Join0 (w : World) : Calls Tryz.prog 72 #[.slice none 0 0, .string ⟨#[46]⟩] w fun e w' => e = .returned (.string ⟨#[]⟩) ∧ w = w' := by
  go_enter Tryz.func72, Tryz.ntmps72
  go_wp2
  go_ret
  exact ⟨rfl, rfl⟩
theorem tree_NewPath0 (w : World) : Calls Tryz.prog 49 #[.slice none 0 0] w fun e w' => e = .returned (.string ⟨#[]⟩) ∧ w = w' := by
  go_enter Tryz.func49, Tryz.ntmps49
  go_wp2_with fail
  refine (strings_Join0 w).mono ?_
  rintro e w1 ⟨rfl, rfl⟩
  go_wp2
  go_ret
  exact ⟨rfl, rfl⟩
set_option maxRecDepth 100000 in
theorem impl_model {y : IV} {b : Nat} {w : World} (h : FromIs w (.map b) y) : Calls Tryz.prog 33 #[.map (some b), .nilIface] w (Told y w) := by
  have hb0 : Below w.heap.size w (w.alloc (Obj.cells zV 34)) := (Below.refl _ _).alloc (Nat.le_refl _) _
  have HC := Lib.hid (from_map_ (h.below_ hb0))
  have HB0 := Aside0.mk hb0
  clear h hb0
  go_enter Tryz.func33, Tryz.ntmps33
  go_wp2_with fail
  refine HC.out.mono ?_
  rintro e w2 ⟨A3, c3, A4, c4, rfl, h3, h4, hbb⟩
  have hre : w2.heap[w.heap.size]? = some (.cells zV 34 (0, 0)) := (hbb.block w.heap.size (by simp)).trans (new_atI rfl)
  have H3 := Aside0.mk h3
  have H4 := Aside0.mk h4
  have HBB := Aside0.mk (below_then HB0.out HB0.out.size hbb)
  have hs1 : (w.alloc (Obj.cells zV 34)).heap.size = w.heap.size + 1 := by simp
  have HS1 := Lib.hid hs1
  clear h3 h4 hbb hs1
  have n0 : w2.cell? ⟨w.heap.size, 0, none⟩ = some (.int .i64 0) := (blk_cell hre 0).trans rfl
  have n1 : w2.cell? ⟨w.heap.size, 1, none⟩ = some (.int .i64 0) := (blk_cell hre 1).trans rfl
  have n2 : w2.cell? ⟨w.heap.size, 2, none⟩ = some (.string ⟨#[]⟩) := (blk_cell hre 2).trans rfl
  have n3 : w2.cell? ⟨w.heap.size, 3, none⟩ = some (.slice none 0 0) := (blk_cell hre 3).trans rfl
  have n4 : w2.cell? ⟨w.heap.size, 4, none⟩ = some (.slice none 0 0) := (blk_cell hre 4).trans rfl
  have f0 := blk_frozen hre 0
  have f1 := blk_frozen hre 1
  have f2 := blk_frozen hre 2
  have f3 := blk_frozen hre 3
  have f4 := blk_frozen hre 4
  clear hre
  unfold cellsI
  go_wp2
  refine bodyPost_ret (v := .tuple #[cellsI y A3 c3 A4 c4, .bool true]) (by unfold cellsI; simp [results, Tryz.results33, go_sem, *]) rfl ?_
  refine Told.rows (y := y) A3 c3 A4 c4 ?_ ?_ (below5 HBB.out _ (Nat.le_refl _) _ _ _ _ _)
  · exact Kd.R_mono (Kd.R_lower (R_far5 (Kd.R_bound H3.out) w.heap.size (fun k hk e => by have h1 := hk.2.1; rw [HS1.out, e] at h1; exact Nat.not_succ_le_self _ h1) _ _ _ _ _) (by rw [HS1.out]; exact Nat.le_succ _)) (fun _ _ => trivial)
  · exact Kd.R_mono (Kd.R_lower (R_far5 (Kd.R_bound H4.out) w.heap.size (fun k hk e => by have h1 := hk.2.1; rw [HS1.out, e] at h1; exact Nat.not_succ_le_self _ h1) _ _ _ _ _) (by rw [HS1.out]; exact Nat.le_succ _)) (fun _ h => h.1)
theorem fresh_kept {z : IV} {w w' W' : World} {B3 : Option Addr} {d3 : Nat} {B4 : Option Addr} {d4 : Nat} (p3 : Kd.R Kd.string 9 w' w.heap.size (fun _ => True) (.slice B3 z.f3.length d3) z.f3) (p4 : Kd.R kI 34 w' w.heap.size (fun _ => True) (.slice B4 z.f4.length d4) z.f4) (hW : ∀ k, w.heap.size ≤ k → k < w'.heap.size → W'.heap[k]? = w'.heap[k]?) : MadeI z W' (cellsI z B3 d3 B4 d4) := by
  have q3 := Kd.R_reads' (Kd.R_step (Kd.R_bound p3) (fun k hk hlt => hW k hk.2.1 hlt))
  have q4 := Kd.R_reads' (Kd.R_step (Kd.R_bound p4) (fun k hk hlt => hW k hk.2.1 hlt))
  exact ⟨B3, d3, B4, d4, rfl, q3.2.1, q3.2.2, q4.2.1, q4.2.2⟩
theorem as_map1 (v : Value) (w : World) : (Instr.typeAssert (.iface 55 v) 20 55 false).run Tryz.prog w = .ok v w := by simp [Instr.typeAssert, run_underlying Tryz.underlying55, go_sem, Result.andThen]
end Go.Proofs.YtiamiagjkfioiaaGreatDoor.A
