/- Walks: the transforms of a secret and of an include, as the thin package calls them (printed by gen_trans.py). -/
import Derived.Test.YtadcdjiahekkgaaEnvFile
import Derived.Carry
namespace Go.Proofs.Ytadcdjiahekkgaa.A
set_option linter.unusedVariables false
set_option linter.unusedSimpArgs false
set_option linter.unusedSectionVars false
open Go.RowKit Go.Proofs.YtadcdjiahekkgaaW.PrintWords Go.Proofs.YtadcdjiahekkgaaW.PrintLast Go.Proofs.YtadcdjiahekkgaaW.PrintMore Go.Proofs.Ytadcdjiahekkgaa.PT Go.Proofs.Ytadcdjiahekkgaa.L Go.Proofs.Ytadcdjiahekkgaa.SM

abbrev kSource : ByteArray := ⟨#[115, 111, 117, 114, 99, 101]⟩
theorem run_mk (w : World) : (Instr.makeMap 71 none).run Try.prog w = .ok (.map (some w.heap.size)) (w.alloc (.map #[] 0)) := run_makeMap _ _
/-- what an answer of the package is: a value, no error -/
def Ans (w : World) (y : IV) (e : Ending) (w' : World) : Prop := ∃ v : AV, e = .returned (.tuple #[v.enc, .nilIface]) ∧ FromIs w' v y ∧ Below w.heap.size w w'
set_option maxRecDepth 100000 in
theorem impl_value {y : IV} {v : AV} {w : World} (h : FromIs w v y) : Calls Try.prog 32 #[v.enc, .nilIface] w (Told y w) := by
  have hb0 : Below w.heap.size w (w.alloc (Obj.cells zV 28)) := (Below.refl _ _).alloc (Nat.le_refl _) _
  have HC := Lib.hid (fromAny (h.below_ hb0))
  have HB0 := Aside0.mk hb0
  clear h hb0
  go_enter Try.func32, Try.ntmps32
  go_wp2_with fail
  refine HC.out.use.mono ?_
  rintro e w2 ⟨A3, c3, A4, c4, rfl, h3, h4, hbb⟩
  have hre : w2.heap[w.heap.size]? = some (.cells zV 28 (0, 0)) := (hbb.block w.heap.size (by simp)).trans (new_atI rfl)
  have H3 := Aside0.mk h3
  have H4 := Aside0.mk h4
  have HBB := Aside0.mk (below_then HB0.out HB0.out.size hbb)
  have hs1 : (w.alloc (Obj.cells zV 28)).heap.size = w.heap.size + 1 := by simp
  have HS1 := Lib.hid hs1
  clear h3 h4 hbb hs1
  have n0 : w2.cell? ⟨w.heap.size, 0, none⟩ = some (.int .i64 0) := (blk_cell hre 0).trans rfl
  have n1 : w2.cell? ⟨w.heap.size, 1, none⟩ = some (.int .i64 0) := (blk_cell hre 1).trans rfl
  have n2 : w2.cell? ⟨w.heap.size, 2, none⟩ = some (.string ⟨#[]⟩) := (blk_cell hre 2).trans rfl
  have n3 : w2.cell? ⟨w.heap.size, 3, none⟩ = some (.slice none 0 0) := (blk_cell hre 3).trans rfl
  have n4 : w2.cell? ⟨w.heap.size, 4, none⟩ = some (.slice none 0 0) := (blk_cell hre 4).trans rfl
  have f0 := blk_frozen hre 0
  have f1 := blk_frozen hre 1
  have f2 := blk_frozen hre 2
  have f3 := blk_frozen hre 3
  have f4 := blk_frozen hre 4
  clear hre
  unfold cellsI
  go_wp2
  refine bodyPost_ret (v := .tuple #[cellsI y A3 c3 A4 c4, .bool true]) (by unfold cellsI; simp [results, Try.results32, go_sem, *]) rfl ?_
  refine Told.rows (y := y) A3 c3 A4 c4 ?_ ?_ (below5 HBB.out _ (Nat.le_refl _) _ _ _ _ _)
  · exact Kd.R_mono (Kd.R_lower (R_far5 (Kd.R_bound H3.out) w.heap.size (fun k hk e => by have h1 := hk.2.1; rw [HS1.out, e] at h1; exact Nat.not_succ_le_self _ h1) _ _ _ _ _) (by rw [HS1.out]; exact Nat.le_succ _)) (fun _ _ => trivial)
  · exact Kd.R_mono (Kd.R_lower (R_far5 (Kd.R_bound H4.out) w.heap.size (fun k hk e => by have h1 := hk.2.1; rw [HS1.out, e] at h1; exact Nat.not_succ_le_self _ h1) _ _ _ _ _) (by rw [HS1.out]; exact Nat.le_succ _)) (fun _ h => h.1)
end Go.Proofs.Ytadcdjiahekkgaa.A
