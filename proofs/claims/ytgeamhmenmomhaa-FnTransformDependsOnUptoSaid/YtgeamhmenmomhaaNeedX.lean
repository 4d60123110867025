/- The walk of impl.TransformDependsOn (printed by gen_need.py). -/
import Derived.Test.YtgeamhmenmomhaaNeedW
import Derived.Test.YtgeamhmenmomhaaSortC
import Derived.Test.YtgeamhmenmomhaaTo
import Derived.Test.YtgeamhmenmomhaaJoin
import Derived.Carry
namespace Go.Proofs.Ytgeamhmenmomhaa.L
set_option linter.unusedVariables false
set_option linter.unusedSimpArgs false
set_option linter.unusedSectionVars false
open Go.RowKit
theorem impl_at (w : World) :
    Calls Try.prog 23 #[] w fun e w' => (∃ p, e = .returned (.string p)) ∧ Below w.heap.size w w' := by
  have hss : SS (w.alloc (Obj.cells #[Value.string ⟨#[97, 116]⟩] 9)) (.slice (some ⟨w.heap.size, 0, none⟩) 1 1) [⟨#[97, 116]⟩] :=
    ⟨some ⟨w.heap.size, 0, none⟩, 1, rfl, Nat.le_refl _, by unfold maxLen; decide, by simp, fun _ => ⟨w.heap.size, 0, rfl, trivial, by simp, fun i hi => by
      obtain rfl : i = 0 := by simp at hi; omega
      simp⟩⟩
  have HS := Lib.hid hss
  have hj : (joinD [⟨#[97, 116]⟩]).size ≤ 140737488355328 := of_decide_eq_true (by kernel_rfl)
  clear hss
  go_enter Try.func23, Try.ntmps23
  go_wp2_with fail
  refine (tree_NewPath _ _ _ HS.out (by decide) hj).mono ?_
  rintro e w1 ⟨rfl, hb⟩
  go_wp2
  go_ret
  exact ⟨⟨_, rfl⟩, ((Below.refl _ _).alloc (Nat.le_refl _) _).trans (hb.mono (by simp))⟩
end Go.Proofs.Ytgeamhmenmomhaa.L
namespace Go.Proofs.Ytgeamhmenmomhaa.A
open Go.RowKit Go.Proofs.YtgeamhmenmomhaaW.PrintWords Go.Proofs.YtgeamhmenmomhaaW.PrintLast Go.Proofs.YtgeamhmenmomhaaW.PrintMore Go.Proofs.Ytgeamhmenmomhaa.PT Go.Proofs.Ytgeamhmenmomhaa.L Go.Proofs.Ytgeamhmenmomhaa.SM

set_option maxRecDepth 100000 in
theorem impl_value {y : IV} {v : AV} {w : World} (h : FromIs w v y) : Calls Try.prog 20 #[v.enc, .nilIface] w (Told y w) := by
  have hb0 : Below w.heap.size w (w.alloc (Obj.cells zV 41)) := (Below.refl _ _).alloc (Nat.le_refl _) _
  have HC := Lib.hid (fromAny (h.below_ hb0))
  have HB0 := Aside0.mk hb0
  clear h hb0
  go_enter Try.func20, Try.ntmps20
  go_wp2_with fail
  refine HC.out.use.mono ?_
  rintro e w2 ⟨A3, c3, A4, c4, rfl, h3, h4, hbb⟩
  have hre : w2.heap[w.heap.size]? = some (.cells zV 41 (0, 0)) := (hbb.block w.heap.size (by simp)).trans (new_atI rfl)
  have H3 := Aside0.mk h3
  have H4 := Aside0.mk h4
  have HBB := Aside0.mk (below_then HB0.out HB0.out.size hbb)
  have hs1 : (w.alloc (Obj.cells zV 41)).heap.size = w.heap.size + 1 := by simp
  have HS1 := Lib.hid hs1
  clear h3 h4 hbb hs1
  have n0 : w2.cell? ⟨w.heap.size, 0, none⟩ = some (.int .i64 0) := (blk_cell hre 0).trans rfl
  have n1 : w2.cell? ⟨w.heap.size, 1, none⟩ = some (.int .i64 0) := (blk_cell hre 1).trans rfl
  have n2 : w2.cell? ⟨w.heap.size, 2, none⟩ = some (.string ⟨#[]⟩) := (blk_cell hre 2).trans rfl
  have n3 : w2.cell? ⟨w.heap.size, 3, none⟩ = some (.slice none 0 0) := (blk_cell hre 3).trans rfl
  have n4 : w2.cell? ⟨w.heap.size, 4, none⟩ = some (.slice none 0 0) := (blk_cell hre 4).trans rfl
  have f0 := blk_frozen hre 0
  have f1 := blk_frozen hre 1
  have f2 := blk_frozen hre 2
  have f3 := blk_frozen hre 3
  have f4 := blk_frozen hre 4
  clear hre
  unfold cellsI
  go_wp2
  refine bodyPost_ret (v := .tuple #[cellsI y A3 c3 A4 c4, .bool true]) (by unfold cellsI; simp [results, Try.results20, go_sem, *]) rfl ?_
  refine Told.rows (y := y) A3 c3 A4 c4 ?_ ?_ (below5 HBB.out _ (Nat.le_refl _) _ _ _ _ _)
  · exact Kd.R_mono (Kd.R_lower (R_far5 (Kd.R_bound H3.out) w.heap.size (fun k hk e => by have h1 := hk.2.1; rw [HS1.out, e] at h1; exact Nat.not_succ_le_self _ h1) _ _ _ _ _) (by rw [HS1.out]; exact Nat.le_succ _)) (fun _ _ => trivial)
  · exact Kd.R_mono (Kd.R_lower (R_far5 (Kd.R_bound H4.out) w.heap.size (fun k hk e => by have h1 := hk.2.1; rw [HS1.out, e] at h1; exact Nat.not_succ_le_self _ h1) _ _ _ _ _) (by rw [HS1.out]; exact Nat.le_succ _)) (fun _ h => h.1)
/-- a transform, as a function's number -/
def Turns (f : FuncId) (g : Bool) (y z : IV) : Prop := ∀ (w : World) (v : Value), MadeI y w v → Calls Try.prog f #[v, .bool g] w fun e w' => (∃ u, e = .returned (.tuple #[u, .bool true]) ∧ MadeI z w' u) ∧ Below w.heap.size w w'
theorem Turns.use {f : FuncId} {g : Bool} {y z : IV} (h : Turns f g y z) {w : World} {v : Value} (hv : MadeI y w v) : Calls Try.prog f #[v, .bool g] w fun e w' => (∃ u, e = .returned (.tuple #[u, .bool true]) ∧ MadeI z w' u) ∧ Below w.heap.size w w' := h w v hv
theorem to_anyF {y : IV} (hc : Canon y) {v : Value} {w : World} (hv : MadeI y w v) : Calls Try.prog 22 #[v] w fun e w' => ∃ u : AV, e = .returned u.enc ∧ AnyF w' (fun k => w.heap.size ≤ k ∧ k < w'.heap.size) y u ∧ Below w.heap.size w w' := by
  obtain ⟨A3, c3, A4, c4, rfl, h3, g3, h4, g4⟩ := hv
  exact toAnyF _ y (Nat.le_refl _) hc w A3 c3 A4 c4 h3 g3 h4 g4
theorem door_DependsOn (v : Value) (y : IV) (p : ByteArray) (g : Bool) (lo : Nat) (w : World) (h : Calls Try.prog 33 #[v, .string p, .bool g] w (AnsL lo w y)) : Calls Try.prog 21 #[v, .string p, .bool g] w (AnsL lo w y) := by
  have H := Lib.hid h
  clear h
  go_enter Try.func21, Try.ntmps21
  go_wp2_with fail
  refine H.out.mono ?_
  rintro e w1 ⟨u, rfl, hf, hb⟩
  have HF := Aside0.mk hf
  have HB := Aside0.mk hb
  clear hf hb
  go_wp2
  go_ret2
  exact ⟨u, rfl, HF.out, HB.out⟩
set_option maxHeartbeats 2000000 in
set_option maxRecDepth 100000 in
/-- hE: what the transform answers on what the value is as the package has it -/
theorem impl_TransformDependsOn_ (x : IV) (hc : Canon x) (y : IV) (g : Bool) (w : World) {v : Value} (hv : MadeI x w v)
    (hE : ∀ (lo : Nat) (W : World) (u : AV) (p : ByteArray) (W' : World), AnyF W (fun k => lo ≤ k ∧ k < W.heap.size) x u → lo ≤ W.heap.size → Below W.heap.size W W' → Calls Try.prog 33 #[u.enc, .string p, .bool g] W' (AnsL lo W' y)) :
    Calls Try.prog 8 #[v, .bool g] w fun e w' => (∃ u, e = .returned (.tuple #[u, .bool true]) ∧ MadeI y w' u) ∧ Below w.heap.size w w' := by
  obtain ⟨A3, c3, A4, c4, rfl, h3, g3, h4, g4⟩ := hv
  obtain ⟨W0, hW0⟩ : ∃ W0 : World, W0 = (w.alloc (Obj.cells #[.int .i64 x.f0, .int .i64 x.f1, .string x.f2, .slice A3 x.f3.length c3, .slice A4 x.f4.length c4] 41)).alloc (Obj.cells #[.int .i64 0, .int .i64 0, .string ⟨#[]⟩, .slice none 0 0, .slice none 0 0] 41) := ⟨_, rfl⟩
  have hb0 : Below w.heap.size w W0 := by rw [hW0]; exact ((Below.refl _ _).alloc (Nat.le_refl _) _).alloc (by simp) _
  have hbx : W0.heap[w.heap.size]? = some (.cells #[.int .i64 x.f0, .int .i64 x.f1, .string x.f2, .slice A3 x.f3.length c3, .slice A4 x.f4.length c4] 41 (0, 0)) := by rw [hW0]; exact heap_oldI (new_atI rfl)
  have HRE : Aside0 (W0.heap[w.heap.size + 1]? = some (.cells zV 41 (0, 0))) := ⟨by rw [hW0]; exact new_atI (by simp)⟩
  have HT := Lib.hid (to_anyF hc (w := W0) (v := cellsI x A3 c3 A4 c4) ⟨A3, c3, A4, c4, rfl, h3, Kd.C_below g3 hb0, h4, Kd.C_below g4 hb0⟩)
  have HB0 := Aside0.mk hb0
  have HE := Lib.hid hE
  have HS0 : Hid (W0.heap.size = w.heap.size + 2) := Lib.hid (by rw [hW0]; simp)
  have HW0 := Lib.hid hW0
  have m0 : W0.cell? ⟨w.heap.size, 0, none⟩ = some (.int .i64 x.f0) := (blk_cell hbx 0).trans rfl
  have m1 : W0.cell? ⟨w.heap.size, 1, none⟩ = some (.int .i64 x.f1) := (blk_cell hbx 1).trans rfl
  have m2 : W0.cell? ⟨w.heap.size, 2, none⟩ = some (.string x.f2) := (blk_cell hbx 2).trans rfl
  have m3 : W0.cell? ⟨w.heap.size, 3, none⟩ = some (.slice A3 x.f3.length c3) := (blk_cell hbx 3).trans rfl
  have m4 : W0.cell? ⟨w.heap.size, 4, none⟩ = some (.slice A4 x.f4.length c4) := (blk_cell hbx 4).trans rfl
  clear hE hb0 hW0 hbx h3 g3 h4 g4
  go_enter Try.func8, Try.ntmps8
  go_upto_region 1 with fail
  rw [← HW0.out]
  go_wp2_with fail
  refine HT.out.mono ?_
  clear m0 m1 m2 m3 m4
  rintro e w1 ⟨u, rfl, ha, hb1⟩
  have HA := Aside0.mk ha
  have H1 := Aside0.mk hb1
  clear ha hb1
  go_wp2_with fail
  refine (impl_at _).mono ?_
  rintro e w2 ⟨⟨p, rfl⟩, hb2⟩
  have HB2 := Aside0.mk hb2
  have H2 := Aside0.mk (below_then H1.out H1.out.size hb2)
  clear hb2
  go_wp2_with fail
  refine (door_DependsOn u.enc y p g W0.heap.size _ (HE.out W0.heap.size w1 u p w2 HA.out H1.out.size HB2.out)).mono ?_
  rintro e w3 ⟨v3, rfl, hf3, hb3⟩
  have HF3 := Aside0.mk hf3
  have H3 := Aside0.mk (H2.out.trans hb3)
  clear hb3 hf3
  go_wp2_with fail
  refine (impl_value HF3.out).mono ?_
  rintro e w4 ⟨B3, d3, B4, d4, rfl, k3, k4, hb4⟩
  have hre : w4.heap[w.heap.size + 1]? = some (.cells zV 41 (0, 0)) := blk_below (blk_below HRE.out H3.out) hb4
  have H4 := Aside0.mk (below_then H3.out H3.out.size hb4)
  have HS4 : Hid (W0.heap.size ≤ w3.heap.size) := Lib.hid H3.out.size
  have K3 := Aside0.mk k3
  have K4 := Aside0.mk k4
  clear k3 k4 hb4
  have n0 : w4.cell? ⟨w.heap.size + 1, 0, none⟩ = some (.int .i64 0) := (blk_cell hre 0).trans rfl
  have n1 : w4.cell? ⟨w.heap.size + 1, 1, none⟩ = some (.int .i64 0) := (blk_cell hre 1).trans rfl
  have n2 : w4.cell? ⟨w.heap.size + 1, 2, none⟩ = some (.string ⟨#[]⟩) := (blk_cell hre 2).trans rfl
  have n3 : w4.cell? ⟨w.heap.size + 1, 3, none⟩ = some (.slice none 0 0) := (blk_cell hre 3).trans rfl
  have n4 : w4.cell? ⟨w.heap.size + 1, 4, none⟩ = some (.slice none 0 0) := (blk_cell hre 4).trans rfl
  have f0 := blk_frozen hre 0
  have f1 := blk_frozen hre 1
  have f2 := blk_frozen hre 2
  have f3 := blk_frozen hre 3
  have f4 := blk_frozen hre 4
  clear hre
  unfold cellsI
  go_wp2
  refine bodyPost_ret (v := .tuple #[cellsI y B3 d3 B4 d4, .bool true]) (by unfold cellsI; simp [results, Try.results8, go_sem, *]) rfl ?_
  have hne : ∀ k, w3.heap.size ≤ k → k ≠ w.heap.size + 1 := fun k hk e => by have h1 := HS4.out; have h2 := HS0.out; omega
  have q3 := Kd.R_reads' (R_far5 (Kd.R_bound K3.out) (w.heap.size + 1) (fun k hk => hne k hk.2.1) (.int .i64 y.f0) (.int .i64 y.f1) (.string y.f2) (.slice B3 y.f3.length d3) (.slice B4 y.f4.length d4))
  have q4 := Kd.R_reads' (R_far5 (Kd.R_bound K4.out) (w.heap.size + 1) (fun k hk => hne k hk.2.1) (.int .i64 y.f0) (.int .i64 y.f1) (.string y.f2) (.slice B3 y.f3.length d3) (.slice B4 y.f4.length d4))
  exact ⟨⟨_, rfl, B3, d3, B4, d4, rfl, q3.2.1, q3.2.2, q4.2.1, q4.2.2⟩, below5 (HB0.out.trans (H4.out.mono HB0.out.size)) _ (Nat.le_succ _) _ _ _ _ _⟩
theorem turns_needs {y z : IV} (hc : Canon y) (h : NeedC y z) (g : Bool) : Turns 8 g y z := fun w v hv => by
  refine impl_TransformDependsOn_ y hc z g w hv (fun lo W u p W' ha hlo hb => ?_)
  cases h with
  | map hn => exact need_map hn (ha.below_ hb) lo (fun n hn' => ⟨hn'.1, Nat.lt_of_lt_of_le hn'.2 hb.size⟩) (Nat.le_trans hlo hb.size) p g
  | @list ss hs =>
    refine (need_list hs (ha.below_ hb).toIs p g).mono ?_
    rintro e w2 ⟨v, he, hf, hbl⟩
    exact ⟨v, he, hf, hbl.mono (Nat.le_trans hlo hb.size)⟩
theorem enters_needs : ∀ args w, (callFunc 8 args).run Try.prog w = .ok (.enter 8 args) w := Go.Proofs.enters_of Try.func8 (by kernel_rfl) rfl
end Go.Proofs.Ytgeamhmenmomhaa.A
