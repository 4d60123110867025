/- Walks: the transforms of a secret and of an include, as the thin package calls them (printed by gen_trans.py). -/
import Derived.Test.YtadcdjiahekkgaaEnvFile
import Derived.Carry
namespace Go.Proofs.Ytadcdjiahekkgaa.A
set_option linter.unusedVariables false
set_option linter.unusedSimpArgs false
set_option linter.unusedSectionVars false
open Go.RowKit Go.Proofs.YtadcdjiahekkgaaW.PrintWords Go.Proofs.YtadcdjiahekkgaaW.PrintLast Go.Proofs.YtadcdjiahekkgaaW.PrintMore Go.Proofs.Ytadcdjiahekkgaa.PT Go.Proofs.Ytadcdjiahekkgaa.L Go.Proofs.Ytadcdjiahekkgaa.SM

theorem run_mk (w : World) : (Instr.makeMap 71 none).run Try.prog w = .ok (.map (some w.heap.size)) (w.alloc (.map #[] 0)) := run_makeMap _ _
theorem put_fresh (w : World) (k s : ByteArray) : ∃ W, (Instr.mapUpdate 71 (.map (some w.heap.size)) (.string k) (.iface 9 (.string s))).run Try.prog (w.alloc (.map #[] 0)) = .ok () W ∧ TMap W w.heap.size AV.enc [(k, .text s)] ∧ Below w.heap.size w W := by
  obtain ⟨o, hrun, hs⟩ := run_put (P := Try.prog) Try.underlying71 Try.underlying9 (SMap.made w) k (.iface 9 (.string s))
  refine ⟨_, hrun, ?_, ?_⟩
  · have e : put ([] : Ents) k (.iface 9 (.string s)) = mapE AV.enc [(k, .text s)] := by simp [put, has, mapE, AV.enc]
    rw [e] at hs
    exact hs
  · exact ((Below.refl _ _).alloc (Nat.le_refl _) _).grown (setBlock_grown _ _ o) (by simp) (fun k e => by injection e with e; omega)
/-- what an answer of the package is: a value, no error -/
def Ans (w : World) (y : IV) (e : Ending) (w' : World) : Prop := ∃ v : AV, e = .returned (.tuple #[v.enc, .nilIface]) ∧ FromIs w' v y ∧ Below w.heap.size w w'
theorem from_map1 (w : World) (b : Nat) (k s : ByteArray) (hm : TMap w b AV.enc [(k, .text s)]) : FromIs w (.map b) (mI [k] [s]) :=
  .map hm (by simp) (Ord.sortS_unique (List.pairwise_singleton _ _) (by simp [keys])) rfl (fun i h1 h2 v hv => by
    obtain rfl : i = 0 := by simp at h1; omega
    have : v = .text s := by simpa [SM.look, eq_comm] using hv
    rw [this]
    exact .text s)
set_option maxRecDepth 100000 in
theorem impl_value {y : IV} {v : AV} {w : World} (h : FromIs w v y) : Calls Try.prog 32 #[v.enc, .nilIface] w (Told y w) := by
  have hb0 : Below w.heap.size w (w.alloc (Obj.cells zV 28)) := (Below.refl _ _).alloc (Nat.le_refl _) _
  have HC := Lib.hid (fromAny (h.below_ hb0))
  have HB0 := Aside0.mk hb0
  clear h hb0
  go_enter Try.func32, Try.ntmps32
  go_wp2_with fail
  refine HC.out.use.mono ?_
  rintro e w2 ⟨A3, c3, A4, c4, rfl, h3, h4, hbb⟩
  have hre : w2.heap[w.heap.size]? = some (.cells zV 28 (0, 0)) := (hbb.block w.heap.size (by simp)).trans (new_atI rfl)
  have H3 := Aside0.mk h3
  have H4 := Aside0.mk h4
  have HBB := Aside0.mk (below_then HB0.out HB0.out.size hbb)
  have hs1 : (w.alloc (Obj.cells zV 28)).heap.size = w.heap.size + 1 := by simp
  have HS1 := Lib.hid hs1
  clear h3 h4 hbb hs1
  have n0 : w2.cell? ⟨w.heap.size, 0, none⟩ = some (.int .i64 0) := (blk_cell hre 0).trans rfl
  have n1 : w2.cell? ⟨w.heap.size, 1, none⟩ = some (.int .i64 0) := (blk_cell hre 1).trans rfl
  have n2 : w2.cell? ⟨w.heap.size, 2, none⟩ = some (.string ⟨#[]⟩) := (blk_cell hre 2).trans rfl
  have n3 : w2.cell? ⟨w.heap.size, 3, none⟩ = some (.slice none 0 0) := (blk_cell hre 3).trans rfl
  have n4 : w2.cell? ⟨w.heap.size, 4, none⟩ = some (.slice none 0 0) := (blk_cell hre 4).trans rfl
  have f0 := blk_frozen hre 0
  have f1 := blk_frozen hre 1
  have f2 := blk_frozen hre 2
  have f3 := blk_frozen hre 3
  have f4 := blk_frozen hre 4
  clear hre
  unfold cellsI
  go_wp2
  refine bodyPost_ret (v := .tuple #[cellsI y A3 c3 A4 c4, .bool true]) (by unfold cellsI; simp [results, Try.results32, go_sem, *]) rfl ?_
  refine Told.rows (y := y) A3 c3 A4 c4 ?_ ?_ (below5 HBB.out _ (Nat.le_refl _) _ _ _ _ _)
  · exact Kd.R_mono (Kd.R_lower (R_far5 (Kd.R_bound H3.out) w.heap.size (fun k hk e => by have h1 := hk.2.1; rw [HS1.out, e] at h1; exact Nat.not_succ_le_self _ h1) _ _ _ _ _) (by rw [HS1.out]; exact Nat.le_succ _)) (fun _ _ => trivial)
  · exact Kd.R_mono (Kd.R_lower (R_far5 (Kd.R_bound H4.out) w.heap.size (fun k hk e => by have h1 := hk.2.1; rw [HS1.out, e] at h1; exact Nat.not_succ_le_self _ h1) _ _ _ _ _) (by rw [HS1.out]; exact Nat.le_succ _)) (fun _ h => h.1)
set_option maxRecDepth 100000 in
theorem transformInclude_text (s p : ByteArray) (g : Bool) (w : World) : Calls Try.prog 49 #[.iface 9 (.string s), .string p, .bool g] w (Ans w (mI [kPath] [s])) := by
  have e1 := no_map 20 w 9 (.string s) (by decide)
  have e2 := as_string 20 w s
  have e3 := run_mk w
  obtain ⟨W, e4, hm, hb⟩ := put_fresh w kPath s
  have HM := Aside0.mk hm
  have HB := Aside0.mk hb
  clear hm hb
  go_enter Try.func49, Try.ntmps49
  go_wp2
  go_ret2
  exact ⟨.map w.heap.size, rfl, from_map1 W _ _ _ HM.out, HB.out⟩
set_option maxRecDepth 100000 in
theorem transformInclude_map (b : Nat) (y : IV) (p : ByteArray) (g : Bool) (w : World) (h : FromIs w (.map b) y) : Calls Try.prog 49 #[.iface 71 (.map (some b)), .string p, .bool g] w (Ans w y) := by
  have e1 := as_map 20 w (.map (some b))
  have H := Aside0.mk h
  clear h
  go_enter Try.func49, Try.ntmps49
  go_wp2
  go_ret2
  exact ⟨.map b, rfl, H.out, Below.refl _ _⟩
theorem door_Include (v : Value) (y : IV) (p : ByteArray) (g : Bool) (w : World) (h : Calls Try.prog 49 #[v, .string p, .bool g] w (Ans w y)) : Calls Try.prog 33 #[v, .string p, .bool g] w (Ans w y) := by
  have H := Lib.hid h
  clear h
  go_enter Try.func33, Try.ntmps33
  go_wp2_with fail
  refine H.out.mono ?_
  rintro e w1 ⟨u, rfl, hf, hb⟩
  have HF := Aside0.mk hf
  have HB := Aside0.mk hb
  clear hf hb
  go_wp2
  go_ret2
  exact ⟨u, rfl, HF.out, HB.out⟩
set_option maxHeartbeats 2000000 in
set_option maxRecDepth 100000 in
/-- hE: what the transform answers on what the value is as the package has it -/
theorem impl_TransformInclude_ (x : IV) (hc : Canon x) (y : IV) (g : Bool) (w : World) {v : Value} (hv : MadeI x w v)
    (hE : ∀ (W : World) (u : AV) (p : ByteArray) (W' : World), AnyIs 0 W x u → Below W.heap.size W W' → Calls Try.prog 49 #[u.enc, .string p, .bool g] W' (Ans W' y)) :
    Calls Try.prog 14 #[v, .bool g] w fun e w' => (∃ u, e = .returned (.tuple #[u, .bool true]) ∧ MadeI y w' u) ∧ Below w.heap.size w w' := by
  obtain ⟨A3, c3, A4, c4, rfl, h3, g3, h4, g4⟩ := hv
  obtain ⟨W0, hW0⟩ : ∃ W0 : World, W0 = (w.alloc (Obj.cells #[.int .i64 x.f0, .int .i64 x.f1, .string x.f2, .slice A3 x.f3.length c3, .slice A4 x.f4.length c4] 28)).alloc (Obj.cells #[.int .i64 0, .int .i64 0, .string ⟨#[]⟩, .slice none 0 0, .slice none 0 0] 28) := ⟨_, rfl⟩
  have hb0 : Below w.heap.size w W0 := by rw [hW0]; exact ((Below.refl _ _).alloc (Nat.le_refl _) _).alloc (by simp) _
  have hbx : W0.heap[w.heap.size]? = some (.cells #[.int .i64 x.f0, .int .i64 x.f1, .string x.f2, .slice A3 x.f3.length c3, .slice A4 x.f4.length c4] 28 (0, 0)) := by rw [hW0]; exact heap_oldI (new_atI rfl)
  have HRE : Aside0 (W0.heap[w.heap.size + 1]? = some (.cells zV 28 (0, 0))) := ⟨by rw [hW0]; exact new_atI (by simp)⟩
  have HT := Lib.hid (to_any hc (w := W0) (v := cellsI x A3 c3 A4 c4) ⟨A3, c3, A4, c4, rfl, h3, Kd.C_below g3 hb0, h4, Kd.C_below g4 hb0⟩)
  have HB0 := Aside0.mk hb0
  have HE := Lib.hid hE
  have HS0 : Hid (W0.heap.size = w.heap.size + 2) := Lib.hid (by rw [hW0]; simp)
  have HW0 := Lib.hid hW0
  have m0 : W0.cell? ⟨w.heap.size, 0, none⟩ = some (.int .i64 x.f0) := (blk_cell hbx 0).trans rfl
  have m1 : W0.cell? ⟨w.heap.size, 1, none⟩ = some (.int .i64 x.f1) := (blk_cell hbx 1).trans rfl
  have m2 : W0.cell? ⟨w.heap.size, 2, none⟩ = some (.string x.f2) := (blk_cell hbx 2).trans rfl
  have m3 : W0.cell? ⟨w.heap.size, 3, none⟩ = some (.slice A3 x.f3.length c3) := (blk_cell hbx 3).trans rfl
  have m4 : W0.cell? ⟨w.heap.size, 4, none⟩ = some (.slice A4 x.f4.length c4) := (blk_cell hbx 4).trans rfl
  clear hE hb0 hW0 hbx h3 g3 h4 g4
  go_enter Try.func14, Try.ntmps14
  go_upto_region 1 with fail
  rw [← HW0.out]
  go_wp2_with fail
  refine HT.out.mono ?_
  clear m0 m1 m2 m3 m4
  rintro e w1 ⟨u, rfl, ha, hb1⟩
  have HA := Aside0.mk (ha.lower (Nat.zero_le _))
  have H1 := Aside0.mk hb1
  clear ha hb1
  go_wp2_with fail
  refine (impl_at _).mono ?_
  rintro e w2 ⟨⟨p, rfl⟩, hb2⟩
  have HB2 := Aside0.mk hb2
  have H2 := Aside0.mk (below_then H1.out H1.out.size hb2)
  clear hb2
  go_wp2_with fail
  refine (door_Include u.enc y p g _ (HE.out w1 u p w2 HA.out HB2.out)).mono ?_
  rintro e w3 ⟨v3, rfl, hf3, hb3⟩
  have HF3 := Aside0.mk hf3
  have H3 := Aside0.mk (below_then H2.out H2.out.size hb3)
  clear hb3 hf3
  go_wp2_with fail
  refine (impl_value HF3.out).mono ?_
  rintro e w4 ⟨B3, d3, B4, d4, rfl, k3, k4, hb4⟩
  have hre : w4.heap[w.heap.size + 1]? = some (.cells zV 28 (0, 0)) := blk_below (blk_below HRE.out H3.out) hb4
  have H4 := Aside0.mk (below_then H3.out H3.out.size hb4)
  have HS4 : Hid (W0.heap.size ≤ w3.heap.size) := Lib.hid H3.out.size
  have K3 := Aside0.mk k3
  have K4 := Aside0.mk k4
  clear k3 k4 hb4
  have n0 : w4.cell? ⟨w.heap.size + 1, 0, none⟩ = some (.int .i64 0) := (blk_cell hre 0).trans rfl
  have n1 : w4.cell? ⟨w.heap.size + 1, 1, none⟩ = some (.int .i64 0) := (blk_cell hre 1).trans rfl
  have n2 : w4.cell? ⟨w.heap.size + 1, 2, none⟩ = some (.string ⟨#[]⟩) := (blk_cell hre 2).trans rfl
  have n3 : w4.cell? ⟨w.heap.size + 1, 3, none⟩ = some (.slice none 0 0) := (blk_cell hre 3).trans rfl
  have n4 : w4.cell? ⟨w.heap.size + 1, 4, none⟩ = some (.slice none 0 0) := (blk_cell hre 4).trans rfl
  have f0 := blk_frozen hre 0
  have f1 := blk_frozen hre 1
  have f2 := blk_frozen hre 2
  have f3 := blk_frozen hre 3
  have f4 := blk_frozen hre 4
  clear hre
  unfold cellsI
  go_wp2
  refine bodyPost_ret (v := .tuple #[cellsI y B3 d3 B4 d4, .bool true]) (by unfold cellsI; simp [results, Try.results14, go_sem, *]) rfl ?_
  have hne : ∀ k, w3.heap.size ≤ k → k ≠ w.heap.size + 1 := fun k hk e => by have h1 := HS4.out; have h2 := HS0.out; omega
  have q3 := Kd.R_reads' (R_far5 (Kd.R_bound K3.out) (w.heap.size + 1) (fun k hk => hne k hk.2.1) (.int .i64 y.f0) (.int .i64 y.f1) (.string y.f2) (.slice B3 y.f3.length d3) (.slice B4 y.f4.length d4))
  have q4 := Kd.R_reads' (R_far5 (Kd.R_bound K4.out) (w.heap.size + 1) (fun k hk => hne k hk.2.1) (.int .i64 y.f0) (.int .i64 y.f1) (.string y.f2) (.slice B3 y.f3.length d3) (.slice B4 y.f4.length d4))
  exact ⟨⟨_, rfl, B3, d3, B4, d4, rfl, q3.2.1, q3.2.2, q4.2.1, q4.2.2⟩, below5 (HB0.out.trans (H4.out.mono HB0.out.size)) _ (Nat.le_succ _) _ _ _ _ _⟩
theorem impl_TransformInclude_text (s : ByteArray) (g : Bool) (w : World) {v : Value} (hv : MadeI (tI s) w v) : Calls Try.prog 14 #[v, .bool g] w fun e w' => (∃ u, e = .returned (.tuple #[u, .bool true]) ∧ MadeI (mI [kPath] [s]) w' u) ∧ Below w.heap.size w w' :=
  impl_TransformInclude_ (tI s) (canon_text s) (mI [kPath] [s]) g w hv (fun W u p W' ha hb => by
    rw [any_text ha]
    exact transformInclude_text s p g W')
theorem impl_TransformInclude_map (s : ByteArray) (g : Bool) (w : World) {v : Value} (hv : MadeI (mI [kPath] [s]) w v) : Calls Try.prog 14 #[v, .bool g] w fun e w' => (∃ u, e = .returned (.tuple #[u, .bool true]) ∧ MadeI (mI [kPath] [s]) w' u) ∧ Below w.heap.size w w' :=
  impl_TransformInclude_ (mI [kPath] [s]) (canon_map [kPath] [s] (by simp) rfl (by simp)) (mI [kPath] [s]) g w hv (fun W u p W' ha hb => by
    obtain ⟨b, rfl, _, hm⟩ := any_map (ks := [kPath]) (ss := [s]) ha
    exact transformInclude_map b _ p g W' (from_map1 W' b _ _ (hm.below hb)))
end Go.Proofs.Ytadcdjiahekkgaa.A
