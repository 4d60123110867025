/- The walk of spec.Fit, of every value (printed by gen_fit.py). -/
import Derived.Test.YtgeamhmenmomhaaFitD
namespace Go.Proofs.Ytgeamhmenmomhaa.A
set_option linter.unusedVariables false
set_option linter.unusedSimpArgs false
set_option linter.unusedSectionVars false
open Go.RowKit Go.Proofs.YtgeamhmenmomhaaW.PrintWords Go.Proofs.YtgeamhmenmomhaaW.PrintLast Go.Proofs.YtgeamhmenmomhaaW.PrintMore Go.Proofs.Ytgeamhmenmomhaa.PT Go.Proofs.Ytgeamhmenmomhaa.L Go.Proofs.Ytgeamhmenmomhaa.SM

def FitSays (x : SV) (w : World) (e : Ending) (w' : World) : Prop := ∃ (y : SV) (r : RV), e = .returned r.val ∧ FineS y ∧ wt y ≤ wt x ∧ DeepP (fun k => w.heap.size ≤ k) w' y r ∧ Below w.heap.size w w'
def FitC (x : SV) (w : World) : Prop := ∀ v, MadeS x w v → Calls Try.prog 5 #[v] w (FitSays x w)
theorem FitC.use {x : SV} {w : World} (h : FitC x w) (A3 : Option Addr) (c3 : Nat) (A4 : Option Addr) (c4 : Nat) (h3 : x.f3.length ≤ c3) (g3 : Kd.C Kd.string w A3 x.f3.length x.f3) (h4 : x.f4.length ≤ c4) (g4 : Kd.C kS w A4 x.f4.length x.f4) : Calls Try.prog 5 #[cellsS x A3 c3 A4 c4] w (FitSays x w) := h _ ⟨A3, c3, A4, c4, rfl, h3, g3, h4, g4⟩
theorem Bnd.here {x : SV} (h : Bnd x) : x.f3.length ≤ 1099511627776 ∧ x.f4.length ≤ 1099511627776 := by cases h with | mk a b c => exact ⟨a, b⟩
theorem Bnd.sub {x : SV} (h : Bnd x) (i : Nat) (q : i < x.f4.length) : Bnd (x.f4[i]'q) := by cases h with | mk a b c => exact c i q
theorem spec_B (b : Bool) (w : World) : Calls Try.prog 10 #[.bool b] w fun e w' => e = .returned (.agg #[.int .i64 1, .int .i64 (if b then 1 else 0), .string ⟨#[]⟩, .slice none 0 0, .slice none 0 0]) ∧ Below w.heap.size w w' := by
  cases b
  · go_enter Try.func10, Try.ntmps10
    go_wp2
    refine bodyPost_ret (v := .agg #[.int .i64 1, .int .i64 0, .string ⟨#[]⟩, .slice none 0 0, .slice none 0 0]) (by simp [results, Try.results10, go_sem]) rfl ?_
    exact ⟨rfl, (Below.refl _ _).alloc (Nat.le_refl _) _⟩
  · go_enter Try.func10, Try.ntmps10
    go_wp2
    refine bodyPost_ret (v := .agg #[.int .i64 1, .int .i64 1, .string ⟨#[]⟩, .slice none 0 0, .slice none 0 0]) (by simp [results, Try.results10, go_sem]) rfl ?_
    exact ⟨rfl, (Below.refl _ _).alloc (Nat.le_refl _) _⟩
theorem spec_N (i : Int) (w : World) : Calls Try.prog 11 #[.int .i64 i] w fun e w' => e = .returned (.agg #[.int .i64 2, .int .i64 i, .string ⟨#[]⟩, .slice none 0 0, .slice none 0 0]) ∧ Below w.heap.size w w' := by
  go_enter Try.func11, Try.ntmps11
  go_wp2
  refine bodyPost_ret (v := .agg #[.int .i64 2, .int .i64 i, .string ⟨#[]⟩, .slice none 0 0, .slice none 0 0]) (by simp [results, Try.results11, go_sem]) rfl ?_
  exact ⟨rfl, (Below.refl _ _).alloc (Nat.le_refl _) _⟩
theorem spec_Tx (s : ByteArray) (w : World) : Calls Try.prog 12 #[.string s] w fun e w' => e = .returned (.agg #[.int .i64 3, .int .i64 0, .string s, .slice none 0 0, .slice none 0 0]) ∧ Below w.heap.size w w' := L.spec_T s w
set_option maxHeartbeats 8000000 in
set_option maxRecDepth 100000 in
theorem fit_flat (x : SV) (h45 : ¬ x.f0 = 4 ∧ ¬ x.f0 = 5) (w : World) : FitC x w := by
  rintro v ⟨A3, c3, A4, c4, rfl, h3, g3, h4, g4⟩
  obtain ⟨h4', h5'⟩ := h45
  unfold cellsS
  by_cases h1 : x.f0 = 1
  · rw [h1]
    clear h1 h4' h5' h3 g3 h4 g4
    obtain ⟨b, q, hq, hbt⟩ : ∃ (b : Bool) (q : Int), q = (if b then 1 else 0) ∧ ∀ u, Calls Try.prog 10 #[.bool (x.f1 != 0)] u fun e w' => e = .returned (.agg #[.int .i64 1, .int .i64 q, .string ⟨#[]⟩, .slice none 0 0, .slice none 0 0]) ∧ Below u.heap.size u w' := ⟨x.f1 != 0, _, rfl, fun u => spec_B _ u⟩
    have HBT := Lib.hid hbt
    have HQ := Lib.hid hq
    clear hbt hq
    obtain ⟨W0, hW0⟩ : ∃ W0 : World, W0 = (w.alloc (Obj.cells #[.int .i64 1, .int .i64 x.f1, .string x.f2, .slice A3 x.f3.length c3, .slice A4 x.f4.length c4] 25)).alloc (Obj.cells #[.int .i64 0, .int .i64 0, .string ⟨#[]⟩, .slice none 0 0, .slice none 0 0] 25) := ⟨_, rfl⟩
    have hb0 : Below w.heap.size w W0 := by rw [hW0]; exact ((Below.refl _ _).alloc (Nat.le_refl _) _).alloc (by simp) _
    have hbx : W0.heap[w.heap.size]? = some (.cells #[.int .i64 1, .int .i64 x.f1, .string x.f2, .slice A3 x.f3.length c3, .slice A4 x.f4.length c4] 25 (0, 0)) := by rw [hW0]; exact heap_oldI (new_atI rfl)
    have hre : W0.heap[w.heap.size + 1]? = some (.cells zV 25 (0, 0)) := by rw [hW0]; exact new_atI (by simp)
    have HS0 : Hid (W0.heap.size = w.heap.size + 2) := Lib.hid (by rw [hW0]; simp)
    have HB0 := Aside0.mk hb0
    have HBX := Aside0.mk hbx
    have HRE := Aside0.mk hre
    have HW0 := Lib.hid hW0
    have m0 : W0.cell? ⟨w.heap.size, 0, none⟩ = some (.int .i64 1) := (blk_cell hbx 0).trans rfl
    have m1 : W0.cell? ⟨w.heap.size, 1, none⟩ = some (.int .i64 x.f1) := (blk_cell hbx 1).trans rfl
    have m2 : W0.cell? ⟨w.heap.size, 2, none⟩ = some (.string x.f2) := (blk_cell hbx 2).trans rfl
    have m3 : W0.cell? ⟨w.heap.size, 3, none⟩ = some (.slice A3 x.f3.length c3) := (blk_cell hbx 3).trans rfl
    have m4 : W0.cell? ⟨w.heap.size, 4, none⟩ = some (.slice A4 x.f4.length c4) := (blk_cell hbx 4).trans rfl
    clear hb0 hbx hre hW0
    go_enter Try.func5, Try.ntmps5
    go_upto_region 1 with fail
    rw [← HW0.out]
    go_wp2_with fail
    refine (HBT.out _).mono ?_
    clear m0 m1 m2 m3 m4
    rintro e w1 ⟨rfl, hb1⟩
    have HB1 := Aside0.mk (HB0.out.trans (hb1.mono HB0.out.size))
    have hr1 := blk_below HRE.out hb1
    have n0 : w1.cell? ⟨w.heap.size + 1, 0, none⟩ = some (.int .i64 0) := (blk_cell hr1 0).trans rfl
    have n1 : w1.cell? ⟨w.heap.size + 1, 1, none⟩ = some (.int .i64 0) := (blk_cell hr1 1).trans rfl
    have n2 : w1.cell? ⟨w.heap.size + 1, 2, none⟩ = some (.string ⟨#[]⟩) := (blk_cell hr1 2).trans rfl
    have n3 : w1.cell? ⟨w.heap.size + 1, 3, none⟩ = some (.slice none 0 0) := (blk_cell hr1 3).trans rfl
    have n4 : w1.cell? ⟨w.heap.size + 1, 4, none⟩ = some (.slice none 0 0) := (blk_cell hr1 4).trans rfl
    have f0 := blk_frozen hr1 0
    have f1 := blk_frozen hr1 1
    have f2 := blk_frozen hr1 2
    have f3 := blk_frozen hr1 3
    have f4 := blk_frozen hr1 4
    clear hr1 hb1
    go_wp2
    refine bodyPost_ret (v := .agg #[.int .i64 (1), .int .i64 (q), .string (be), .slice none 0 0, .slice none 0 0]) (by simp [results, Try.results5, go_sem, *]) rfl ?_
    exact ⟨⟨1, q, be, [], []⟩, ⟨1, q, be, none, 0, 0, none, 0, 0⟩, rfl, (by rw [HQ.out]; exact FineS.bool b), wt_flat (.inr rfl), deepP_flat _ _ _ _ _, below5 HB1.out _ (Nat.le_succ _) _ _ _ _ _⟩
  by_cases h2 : x.f0 = 2
  · rw [h2]
    clear h1 h2 h4' h5' h3 g3 h4 g4
    obtain ⟨W0, hW0⟩ : ∃ W0 : World, W0 = (w.alloc (Obj.cells #[.int .i64 2, .int .i64 x.f1, .string x.f2, .slice A3 x.f3.length c3, .slice A4 x.f4.length c4] 25)).alloc (Obj.cells #[.int .i64 0, .int .i64 0, .string ⟨#[]⟩, .slice none 0 0, .slice none 0 0] 25) := ⟨_, rfl⟩
    have hb0 : Below w.heap.size w W0 := by rw [hW0]; exact ((Below.refl _ _).alloc (Nat.le_refl _) _).alloc (by simp) _
    have hbx : W0.heap[w.heap.size]? = some (.cells #[.int .i64 2, .int .i64 x.f1, .string x.f2, .slice A3 x.f3.length c3, .slice A4 x.f4.length c4] 25 (0, 0)) := by rw [hW0]; exact heap_oldI (new_atI rfl)
    have hre : W0.heap[w.heap.size + 1]? = some (.cells zV 25 (0, 0)) := by rw [hW0]; exact new_atI (by simp)
    have HS0 : Hid (W0.heap.size = w.heap.size + 2) := Lib.hid (by rw [hW0]; simp)
    have HB0 := Aside0.mk hb0
    have HBX := Aside0.mk hbx
    have HRE := Aside0.mk hre
    have HW0 := Lib.hid hW0
    have m0 : W0.cell? ⟨w.heap.size, 0, none⟩ = some (.int .i64 2) := (blk_cell hbx 0).trans rfl
    have m1 : W0.cell? ⟨w.heap.size, 1, none⟩ = some (.int .i64 x.f1) := (blk_cell hbx 1).trans rfl
    have m2 : W0.cell? ⟨w.heap.size, 2, none⟩ = some (.string x.f2) := (blk_cell hbx 2).trans rfl
    have m3 : W0.cell? ⟨w.heap.size, 3, none⟩ = some (.slice A3 x.f3.length c3) := (blk_cell hbx 3).trans rfl
    have m4 : W0.cell? ⟨w.heap.size, 4, none⟩ = some (.slice A4 x.f4.length c4) := (blk_cell hbx 4).trans rfl
    clear hb0 hbx hre hW0
    go_enter Try.func5, Try.ntmps5
    go_upto_region 1 with fail
    rw [← HW0.out]
    go_wp2_with fail
    refine (spec_N x.f1 _).mono ?_
    clear m0 m1 m2 m3 m4
    rintro e w1 ⟨rfl, hb1⟩
    have HB1 := Aside0.mk (HB0.out.trans (hb1.mono HB0.out.size))
    have hr1 := blk_below HRE.out hb1
    have n0 : w1.cell? ⟨w.heap.size + 1, 0, none⟩ = some (.int .i64 0) := (blk_cell hr1 0).trans rfl
    have n1 : w1.cell? ⟨w.heap.size + 1, 1, none⟩ = some (.int .i64 0) := (blk_cell hr1 1).trans rfl
    have n2 : w1.cell? ⟨w.heap.size + 1, 2, none⟩ = some (.string ⟨#[]⟩) := (blk_cell hr1 2).trans rfl
    have n3 : w1.cell? ⟨w.heap.size + 1, 3, none⟩ = some (.slice none 0 0) := (blk_cell hr1 3).trans rfl
    have n4 : w1.cell? ⟨w.heap.size + 1, 4, none⟩ = some (.slice none 0 0) := (blk_cell hr1 4).trans rfl
    have f0 := blk_frozen hr1 0
    have f1 := blk_frozen hr1 1
    have f2 := blk_frozen hr1 2
    have f3 := blk_frozen hr1 3
    have f4 := blk_frozen hr1 4
    clear hr1 hb1
    go_wp2
    refine bodyPost_ret (v := .agg #[.int .i64 (2), .int .i64 (x.f1), .string (be), .slice none 0 0, .slice none 0 0]) (by simp [results, Try.results5, go_sem, *]) rfl ?_
    exact ⟨⟨2, x.f1, be, [], []⟩, ⟨2, x.f1, be, none, 0, 0, none, 0, 0⟩, rfl, FineS.int x.f1, wt_flat (.inr rfl), deepP_flat _ _ _ _ _, below5 HB1.out _ (Nat.le_succ _) _ _ _ _ _⟩
  by_cases h3' : x.f0 = 3
  · rw [h3']
    clear h1 h2 h3' h4' h5' h3 g3 h4 g4
    obtain ⟨W0, hW0⟩ : ∃ W0 : World, W0 = (w.alloc (Obj.cells #[.int .i64 3, .int .i64 x.f1, .string x.f2, .slice A3 x.f3.length c3, .slice A4 x.f4.length c4] 25)).alloc (Obj.cells #[.int .i64 0, .int .i64 0, .string ⟨#[]⟩, .slice none 0 0, .slice none 0 0] 25) := ⟨_, rfl⟩
    have hb0 : Below w.heap.size w W0 := by rw [hW0]; exact ((Below.refl _ _).alloc (Nat.le_refl _) _).alloc (by simp) _
    have hbx : W0.heap[w.heap.size]? = some (.cells #[.int .i64 3, .int .i64 x.f1, .string x.f2, .slice A3 x.f3.length c3, .slice A4 x.f4.length c4] 25 (0, 0)) := by rw [hW0]; exact heap_oldI (new_atI rfl)
    have hre : W0.heap[w.heap.size + 1]? = some (.cells zV 25 (0, 0)) := by rw [hW0]; exact new_atI (by simp)
    have HS0 : Hid (W0.heap.size = w.heap.size + 2) := Lib.hid (by rw [hW0]; simp)
    have HB0 := Aside0.mk hb0
    have HBX := Aside0.mk hbx
    have HRE := Aside0.mk hre
    have HW0 := Lib.hid hW0
    have m0 : W0.cell? ⟨w.heap.size, 0, none⟩ = some (.int .i64 3) := (blk_cell hbx 0).trans rfl
    have m1 : W0.cell? ⟨w.heap.size, 1, none⟩ = some (.int .i64 x.f1) := (blk_cell hbx 1).trans rfl
    have m2 : W0.cell? ⟨w.heap.size, 2, none⟩ = some (.string x.f2) := (blk_cell hbx 2).trans rfl
    have m3 : W0.cell? ⟨w.heap.size, 3, none⟩ = some (.slice A3 x.f3.length c3) := (blk_cell hbx 3).trans rfl
    have m4 : W0.cell? ⟨w.heap.size, 4, none⟩ = some (.slice A4 x.f4.length c4) := (blk_cell hbx 4).trans rfl
    clear hb0 hbx hre hW0
    go_enter Try.func5, Try.ntmps5
    go_upto_region 1 with fail
    rw [← HW0.out]
    go_wp2_with fail
    refine (spec_Tx x.f2 _).mono ?_
    clear m0 m1 m2 m3 m4
    rintro e w1 ⟨rfl, hb1⟩
    have HB1 := Aside0.mk (HB0.out.trans (hb1.mono HB0.out.size))
    have hr1 := blk_below HRE.out hb1
    have n0 : w1.cell? ⟨w.heap.size + 1, 0, none⟩ = some (.int .i64 0) := (blk_cell hr1 0).trans rfl
    have n1 : w1.cell? ⟨w.heap.size + 1, 1, none⟩ = some (.int .i64 0) := (blk_cell hr1 1).trans rfl
    have n2 : w1.cell? ⟨w.heap.size + 1, 2, none⟩ = some (.string ⟨#[]⟩) := (blk_cell hr1 2).trans rfl
    have n3 : w1.cell? ⟨w.heap.size + 1, 3, none⟩ = some (.slice none 0 0) := (blk_cell hr1 3).trans rfl
    have n4 : w1.cell? ⟨w.heap.size + 1, 4, none⟩ = some (.slice none 0 0) := (blk_cell hr1 4).trans rfl
    have f0 := blk_frozen hr1 0
    have f1 := blk_frozen hr1 1
    have f2 := blk_frozen hr1 2
    have f3 := blk_frozen hr1 3
    have f4 := blk_frozen hr1 4
    clear hr1 hb1
    go_wp2
    refine bodyPost_ret (v := .agg #[.int .i64 (3), .int .i64 (0), .string (x.f2), .slice none 0 0, .slice none 0 0]) (by simp [results, Try.results5, go_sem, *]) rfl ?_
    exact ⟨⟨3, 0, x.f2, [], []⟩, ⟨3, 0, x.f2, none, 0, 0, none, 0, 0⟩, rfl, FineS.text x.f2, wt_flat (.inl rfl), deepP_flat _ _ _ _ _, below5 HB1.out _ (Nat.le_succ _) _ _ _ _ _⟩
  · have e1 : (x.f0 == 1) = false := by simpa using h1
    have e2 : (x.f0 == 2) = false := by simpa using h2
    have e3 : (x.f0 == 3) = false := by simpa using h3'
    have e4 : (x.f0 == 4) = false := by simpa using h4'
    have e5 : (x.f0 == 5) = false := by simpa using h5'
    clear h1 h2 h3' h4' h5' h3 g3 h4 g4
    obtain ⟨W0, hW0⟩ : ∃ W0 : World, W0 = (w.alloc (Obj.cells #[.int .i64 x.f0, .int .i64 x.f1, .string x.f2, .slice A3 x.f3.length c3, .slice A4 x.f4.length c4] 25)).alloc (Obj.cells #[.int .i64 0, .int .i64 0, .string ⟨#[]⟩, .slice none 0 0, .slice none 0 0] 25) := ⟨_, rfl⟩
    have hb0 : Below w.heap.size w W0 := by rw [hW0]; exact ((Below.refl _ _).alloc (Nat.le_refl _) _).alloc (by simp) _
    have hbx : W0.heap[w.heap.size]? = some (.cells #[.int .i64 x.f0, .int .i64 x.f1, .string x.f2, .slice A3 x.f3.length c3, .slice A4 x.f4.length c4] 25 (0, 0)) := by rw [hW0]; exact heap_oldI (new_atI rfl)
    have hre : W0.heap[w.heap.size + 1]? = some (.cells zV 25 (0, 0)) := by rw [hW0]; exact new_atI (by simp)
    have HS0 : Hid (W0.heap.size = w.heap.size + 2) := Lib.hid (by rw [hW0]; simp)
    have HB0 := Aside0.mk hb0
    have HBX := Aside0.mk hbx
    have HRE := Aside0.mk hre
    have HW0 := Lib.hid hW0
    have m0 : W0.cell? ⟨w.heap.size, 0, none⟩ = some (.int .i64 x.f0) := (blk_cell hbx 0).trans rfl
    have m1 : W0.cell? ⟨w.heap.size, 1, none⟩ = some (.int .i64 x.f1) := (blk_cell hbx 1).trans rfl
    have m2 : W0.cell? ⟨w.heap.size, 2, none⟩ = some (.string x.f2) := (blk_cell hbx 2).trans rfl
    have m3 : W0.cell? ⟨w.heap.size, 3, none⟩ = some (.slice A3 x.f3.length c3) := (blk_cell hbx 3).trans rfl
    have m4 : W0.cell? ⟨w.heap.size, 4, none⟩ = some (.slice A4 x.f4.length c4) := (blk_cell hbx 4).trans rfl
    clear hb0 hbx hre hW0
    go_enter Try.func5, Try.ntmps5
    go_upto_region 1 with fail
    rw [← HW0.out]
    have hr1 := HRE.out
    have n0 : W0.cell? ⟨w.heap.size + 1, 0, none⟩ = some (.int .i64 0) := (blk_cell hr1 0).trans rfl
    have n1 : W0.cell? ⟨w.heap.size + 1, 1, none⟩ = some (.int .i64 0) := (blk_cell hr1 1).trans rfl
    have n2 : W0.cell? ⟨w.heap.size + 1, 2, none⟩ = some (.string ⟨#[]⟩) := (blk_cell hr1 2).trans rfl
    have n3 : W0.cell? ⟨w.heap.size + 1, 3, none⟩ = some (.slice none 0 0) := (blk_cell hr1 3).trans rfl
    have n4 : W0.cell? ⟨w.heap.size + 1, 4, none⟩ = some (.slice none 0 0) := (blk_cell hr1 4).trans rfl
    have f0 := blk_frozen hr1 0
    have f1 := blk_frozen hr1 1
    have f2 := blk_frozen hr1 2
    have f3 := blk_frozen hr1 3
    have f4 := blk_frozen hr1 4
    clear hr1
    go_wp2
    refine bodyPost_ret (v := .agg zV) (by simp [results, Try.results5, go_sem, *]) rfl ?_
    exact ⟨⟨0, 0, be, [], []⟩, RV.zero, rfl, .nil, wt_flat (.inr rfl), deepP_flat _ _ _ _ _, by first | exact HB0.out | exact below5 HB0.out _ (Nat.le_succ _) _ _ _ _ _⟩
end Go.Proofs.Ytgeamhmenmomhaa.A
