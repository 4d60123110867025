/- Walks: the transform of a device. -/
import Derived.Test.YtadcdjiahekkgaaPartIs
import Derived.Test.YtadcdjiahekkgaaTransA
namespace Go.Proofs.Ytadcdjiahekkgaa.A
set_option linter.unusedVariables false
set_option linter.unusedSimpArgs false
set_option linter.unusedSectionVars false
open Go.RowKit Go.Proofs.YtadcdjiahekkgaaW.PrintWords Go.Proofs.YtadcdjiahekkgaaW.PrintLast Go.Proofs.YtadcdjiahekkgaaW.PrintMore Go.Proofs.Ytadcdjiahekkgaa.PT Go.Proofs.Ytadcdjiahekkgaa.L Go.Proofs.Ytadcdjiahekkgaa.SM

abbrev kTarget : ByteArray := ⟨#[116, 97, 114, 103, 101, 116]⟩
abbrev kPerm : ByteArray := ⟨#[112, 101, 114, 109, 105, 115, 115, 105, 111, 110, 115]⟩
abbrev kRwm : ByteArray := ⟨#[114, 119, 109]⟩
abbrev devK : List ByteArray := [kPerm, kSource, kTarget]
theorem devK_srt : Ord.Srt devK := by
  unfold Ord.Srt devK
  rw [List.pairwise_cons, List.pairwise_cons, List.pairwise_cons]
  refine ⟨?_, ?_, ?_, List.Pairwise.nil⟩
  · intro b hb
    simp only [List.mem_cons, List.not_mem_nil, or_false] at hb
    rcases hb with rfl | rfl <;> kernel_rfl
  · intro b hb
    simp only [List.mem_cons, List.not_mem_nil, or_false] at hb
    subst hb
    kernel_rfl
  · intro b hb
    simp at hb
theorem MMq_dev (s t p : ByteArray) : MMq [(kSource, tR s), (kTarget, tR t), (kPerm, tR p)] = (devK, [tR p, tR s, tR t]) := by kernel_rfl
theorem withK_dev : withKs kPerm devK = devK := by kernel_rfl
theorem withV_dev (s t p : ByteArray) (x : RV) : withVs kPerm devK [tR p, tR s, tR t] x = [x, tR s, tR t] := by kernel_rfl
theorem put_more {W : World} {b : Nat} {m : List (ByteArray × AV)} (h : TMap W b AV.enc m) (k s : ByteArray) : ∃ W', (Instr.mapUpdate 71 (.map (some b)) (.string k) (.iface 9 (.string s))).run Try.prog W = .ok () W' ∧ TMap W' b AV.enc (put m k (.text s)) ∧ W.grownBy W' (some b) := by
  obtain ⟨o, hrun, hs⟩ := run_put (P := Try.prog) Try.underlying71 Try.underlying9 h k (.iface 9 (.string s))
  refine ⟨_, hrun, ?_, setBlock_grown _ _ o⟩
  have e : put (mapE AV.enc m) k (.iface 9 (.string s)) = mapE AV.enc (put m k (.text s)) := put_mapE AV.enc m k (.text s)
  rw [e] at hs
  exact hs
theorem dev_from (w : World) (b : Nat) (s t p : ByteArray) (hm : TMap w b AV.enc [(kSource, .text s), (kTarget, .text t), (kPerm, .text p)]) : FromIs w (.map b) (mI devK [p, s, t]) := by
  refine .map hm (by simp) (Ord.sortS_unique devK_srt ?_) rfl (fun i h1 h2 v hv => ?_)
  · show [kPerm, kSource, kTarget].Perm [kSource, kTarget, kPerm]
    exact (List.Perm.swap kSource kPerm [kTarget]).trans (List.Perm.cons kSource (List.Perm.swap kTarget kPerm []))
  · have h3 : i < 3 := h1
    rcases i with _ | _ | _ | i
    · have hl : SM.look [(kSource, AV.text s), (kTarget, AV.text t), (kPerm, AV.text p)] kPerm = some (.text p) := by kernel_rfl
      have : v = .text p := by
        have := hl.symm.trans hv
        injection this with this
        exact this.symm
      rw [this]; exact .text p
    · have hl : SM.look [(kSource, AV.text s), (kTarget, AV.text t), (kPerm, AV.text p)] kSource = some (.text s) := by kernel_rfl
      have : v = .text s := by
        have := hl.symm.trans hv
        injection this with this
        exact this.symm
      rw [this]; exact .text s
    · have hl : SM.look [(kSource, AV.text s), (kTarget, AV.text t), (kPerm, AV.text p)] kTarget = some (.text t) := by kernel_rfl
      have : v = .text t := by
        have := hl.symm.trans hv
        injection this with this
        exact this.symm
      rw [this]; exact .text t
    · omega
theorem dev_put (s t p : ByteArray) : put (put (put ([] : List (ByteArray × AV)) kSource (.text s)) kTarget (.text t)) kPerm (.text p) = [(kSource, .text s), (kTarget, .text t), (kPerm, .text p)] := by
  kernel_rfl
set_option maxHeartbeats 4000000 in
set_option maxRecDepth 100000 in
theorem dev_text3 (x s t p q : ByteArray) (g : Bool) (w : World) (hx : x.size ≤ 4398046511104) (h : (sp 58 x.data.toList).map mk = [s, t, p]) (ht : ¬ t.toList = []) :
    Calls Try.prog 56 #[.iface 9 (.string x), .string q, .bool g] w (Ans w (mI devK [p, s, t])) := by
  have e1 := no_map 20 w 9 (.string x) (by decide)
  have e2 := as_string 20 w x
  have H := Lib.hid h
  have ht2 : (t.toList == []) = false := by simpa using ht
  have ht3 : t.toList.isEmpty = false := by simpa using ht
  clear h
  go_enter Try.func56, Try.ntmps56
  go_wp2_with fail
  refine (transform_zzSplit x 58 _ hx).mono ?_
  clear e1 e2
  rintro e w1 ⟨v, rfl, hv, hb⟩
  rw [H.out] at hv
  have hss := hv.any
  obtain ⟨A, c, rfl, h1, h2, h3⟩ := SS.get hss
  obtain ⟨pb, po, rfl, hpb, hpc⟩ := h3 (by simp)
  have c0 : w1.cell? ⟨pb, po, none⟩ = some (.string s) := hpc 0 (by simp)
  have c1 : w1.cell? ⟨pb, po + 1, none⟩ = some (.string t) := hpc 1 (by simp)
  have c2 : w1.cell? ⟨pb, po + 2, none⟩ = some (.string p) := hpc 2 (by simp)
  have e3 := run_mk w1
  obtain ⟨Wa, e4, ma, ga⟩ := put_more (TMap.made w1 AV.enc) kSource s
  obtain ⟨Wb, e5, mb, gb⟩ := put_more ma kTarget t
  obtain ⟨Wc, e6, mc, gc⟩ := put_more mb kPerm p
  rw [dev_put] at mc
  have MC := Aside0.mk mc
  have HB : Aside0 (Below w.heap.size w Wc) := ⟨(((hb.alloc hb.size _).grown ga (Nat.le_trans hb.size (by simp)) (fun k e => by injection e with e; have := hb.size; omega)).grown gb (Nat.le_trans hb.size (Nat.le_trans (by simp) ga.size)) (fun k e => by injection e with e; have := hb.size; omega)).grown gc (Nat.le_trans hb.size (Nat.le_trans (Nat.le_trans (by simp) ga.size) gb.size)) (fun k e => by injection e with e; have := hb.size; omega)⟩
  clear hpc h3 hss hv ma mb mc ga gb gc hb H
  simp only [List.length_cons, List.length_nil] at *
  unfold maxLen at h2
  go_wp2
  go_ret2
  exact ⟨.map w1.heap.size, rfl, dev_from Wc _ s t p MC.out, HB.out⟩
set_option maxHeartbeats 4000000 in
set_option maxRecDepth 100000 in
theorem dev_text2 (x s t q : ByteArray) (g : Bool) (w : World) (hx : x.size ≤ 4398046511104) (h : (sp 58 x.data.toList).map mk = [s, t]) (ht : ¬ t.toList = []) :
    Calls Try.prog 56 #[.iface 9 (.string x), .string q, .bool g] w (Ans w (mI devK [kRwm, s, t])) := by
  have e1 := no_map 20 w 9 (.string x) (by decide)
  have e2 := as_string 20 w x
  have H := Lib.hid h
  have ht2 : (t.toList == []) = false := by simpa using ht
  have ht3 : t.toList.isEmpty = false := by simpa using ht
  clear h
  go_enter Try.func56, Try.ntmps56
  go_wp2_with fail
  refine (transform_zzSplit x 58 _ hx).mono ?_
  clear e1 e2
  rintro e w1 ⟨v, rfl, hv, hb⟩
  rw [H.out] at hv
  have hss := hv.any
  obtain ⟨A, c, rfl, h1, h2, h3⟩ := SS.get hss
  obtain ⟨pb, po, rfl, hpb, hpc⟩ := h3 (by simp)
  have c0 : w1.cell? ⟨pb, po, none⟩ = some (.string s) := hpc 0 (by simp)
  have c1 : w1.cell? ⟨pb, po + 1, none⟩ = some (.string t) := hpc 1 (by simp)
  have e3 := run_mk w1
  obtain ⟨Wa, e4, ma, ga⟩ := put_more (TMap.made w1 AV.enc) kSource s
  obtain ⟨Wb, e5, mb, gb⟩ := put_more ma kTarget t
  obtain ⟨Wc, e6, mc, gc⟩ := put_more mb kPerm kRwm
  rw [dev_put] at mc
  have MC := Aside0.mk mc
  have HB : Aside0 (Below w.heap.size w Wc) := ⟨(((hb.alloc hb.size _).grown ga (Nat.le_trans hb.size (by simp)) (fun k e => by injection e with e; have := hb.size; omega)).grown gb (Nat.le_trans hb.size (Nat.le_trans (by simp) ga.size)) (fun k e => by injection e with e; have := hb.size; omega)).grown gc (Nat.le_trans hb.size (Nat.le_trans (Nat.le_trans (by simp) ga.size) gb.size)) (fun k e => by injection e with e; have := hb.size; omega)⟩
  clear hpc h3 hss hv ma mb mc ga gb gc hb H
  simp only [List.length_cons, List.length_nil] at *
  unfold maxLen at h2
  go_wp2
  go_ret2
  exact ⟨.map w1.heap.size, rfl, dev_from Wc _ s t kRwm MC.out, HB.out⟩
set_option maxRecDepth 100000 in
theorem transformDeviceMapping_map (b : Nat) (y : IV) (p : ByteArray) (g : Bool) (w : World) (h : FromIs w (.map b) y) : Calls Try.prog 56 #[.iface 71 (.map (some b)), .string p, .bool g] w (Ans w y) := by
  have e1 := as_map 20 w (.map (some b))
  have H := Aside0.mk h
  clear h
  go_enter Try.func56, Try.ntmps56
  go_wp2
  go_ret2
  exact ⟨.map b, rfl, H.out, Below.refl _ _⟩
theorem door_Device (v : Value) (y : IV) (p : ByteArray) (g : Bool) (w : World) (h : Calls Try.prog 56 #[v, .string p, .bool g] w (Ans w y)) : Calls Try.prog 42 #[v, .string p, .bool g] w (Ans w y) := by
  have H := Lib.hid h
  clear h
  go_enter Try.func42, Try.ntmps42
  go_wp2_with fail
  refine H.out.mono ?_
  rintro e w1 ⟨u, rfl, hf, hb⟩
  have HF := Aside0.mk hf
  have HB := Aside0.mk hb
  clear hf hb
  go_wp2
  go_ret2
  exact ⟨u, rfl, HF.out, HB.out⟩
set_option maxHeartbeats 2000000 in
set_option maxRecDepth 100000 in
/-- hE: what the transform answers on what the value is as the package has it -/
theorem impl_TransformDevice_ (x : IV) (hc : Canon x) (y : IV) (g : Bool) (w : World) {v : Value} (hv : MadeI x w v)
    (hE : ∀ (W : World) (u : AV) (p : ByteArray) (W' : World), AnyIs 0 W x u → Below W.heap.size W W' → Calls Try.prog 56 #[u.enc, .string p, .bool g] W' (Ans W' y)) :
    Calls Try.prog 24 #[v, .bool g] w fun e w' => (∃ u, e = .returned (.tuple #[u, .bool true]) ∧ MadeI y w' u) ∧ Below w.heap.size w w' := by
  obtain ⟨A3, c3, A4, c4, rfl, h3, g3, h4, g4⟩ := hv
  obtain ⟨W0, hW0⟩ : ∃ W0 : World, W0 = (w.alloc (Obj.cells #[.int .i64 x.f0, .int .i64 x.f1, .string x.f2, .slice A3 x.f3.length c3, .slice A4 x.f4.length c4] 28)).alloc (Obj.cells #[.int .i64 0, .int .i64 0, .string ⟨#[]⟩, .slice none 0 0, .slice none 0 0] 28) := ⟨_, rfl⟩
  have hb0 : Below w.heap.size w W0 := by rw [hW0]; exact ((Below.refl _ _).alloc (Nat.le_refl _) _).alloc (by simp) _
  have hbx : W0.heap[w.heap.size]? = some (.cells #[.int .i64 x.f0, .int .i64 x.f1, .string x.f2, .slice A3 x.f3.length c3, .slice A4 x.f4.length c4] 28 (0, 0)) := by rw [hW0]; exact heap_oldI (new_atI rfl)
  have HRE : Aside0 (W0.heap[w.heap.size + 1]? = some (.cells zV 28 (0, 0))) := ⟨by rw [hW0]; exact new_atI (by simp)⟩
  have HT := Lib.hid (to_any hc (w := W0) (v := cellsI x A3 c3 A4 c4) ⟨A3, c3, A4, c4, rfl, h3, Kd.C_below g3 hb0, h4, Kd.C_below g4 hb0⟩)
  have HB0 := Aside0.mk hb0
  have HE := Lib.hid hE
  have HS0 : Hid (W0.heap.size = w.heap.size + 2) := Lib.hid (by rw [hW0]; simp)
  have HW0 := Lib.hid hW0
  have m0 : W0.cell? ⟨w.heap.size, 0, none⟩ = some (.int .i64 x.f0) := (blk_cell hbx 0).trans rfl
  have m1 : W0.cell? ⟨w.heap.size, 1, none⟩ = some (.int .i64 x.f1) := (blk_cell hbx 1).trans rfl
  have m2 : W0.cell? ⟨w.heap.size, 2, none⟩ = some (.string x.f2) := (blk_cell hbx 2).trans rfl
  have m3 : W0.cell? ⟨w.heap.size, 3, none⟩ = some (.slice A3 x.f3.length c3) := (blk_cell hbx 3).trans rfl
  have m4 : W0.cell? ⟨w.heap.size, 4, none⟩ = some (.slice A4 x.f4.length c4) := (blk_cell hbx 4).trans rfl
  clear hE hb0 hW0 hbx h3 g3 h4 g4
  go_enter Try.func24, Try.ntmps24
  go_upto_region 1 with fail
  rw [← HW0.out]
  go_wp2_with fail
  refine HT.out.mono ?_
  clear m0 m1 m2 m3 m4
  rintro e w1 ⟨u, rfl, ha, hb1⟩
  have HA := Aside0.mk (ha.lower (Nat.zero_le _))
  have H1 := Aside0.mk hb1
  clear ha hb1
  go_wp2_with fail
  refine (impl_at _).mono ?_
  rintro e w2 ⟨⟨p, rfl⟩, hb2⟩
  have HB2 := Aside0.mk hb2
  have H2 := Aside0.mk (below_then H1.out H1.out.size hb2)
  clear hb2
  go_wp2_with fail
  refine (door_Device u.enc y p g _ (HE.out w1 u p w2 HA.out HB2.out)).mono ?_
  rintro e w3 ⟨v3, rfl, hf3, hb3⟩
  have HF3 := Aside0.mk hf3
  have H3 := Aside0.mk (below_then H2.out H2.out.size hb3)
  clear hb3 hf3
  go_wp2_with fail
  refine (impl_value HF3.out).mono ?_
  rintro e w4 ⟨B3, d3, B4, d4, rfl, k3, k4, hb4⟩
  have hre : w4.heap[w.heap.size + 1]? = some (.cells zV 28 (0, 0)) := blk_below (blk_below HRE.out H3.out) hb4
  have H4 := Aside0.mk (below_then H3.out H3.out.size hb4)
  have HS4 : Hid (W0.heap.size ≤ w3.heap.size) := Lib.hid H3.out.size
  have K3 := Aside0.mk k3
  have K4 := Aside0.mk k4
  clear k3 k4 hb4
  have n0 : w4.cell? ⟨w.heap.size + 1, 0, none⟩ = some (.int .i64 0) := (blk_cell hre 0).trans rfl
  have n1 : w4.cell? ⟨w.heap.size + 1, 1, none⟩ = some (.int .i64 0) := (blk_cell hre 1).trans rfl
  have n2 : w4.cell? ⟨w.heap.size + 1, 2, none⟩ = some (.string ⟨#[]⟩) := (blk_cell hre 2).trans rfl
  have n3 : w4.cell? ⟨w.heap.size + 1, 3, none⟩ = some (.slice none 0 0) := (blk_cell hre 3).trans rfl
  have n4 : w4.cell? ⟨w.heap.size + 1, 4, none⟩ = some (.slice none 0 0) := (blk_cell hre 4).trans rfl
  have f0 := blk_frozen hre 0
  have f1 := blk_frozen hre 1
  have f2 := blk_frozen hre 2
  have f3 := blk_frozen hre 3
  have f4 := blk_frozen hre 4
  clear hre
  unfold cellsI
  go_wp2
  refine bodyPost_ret (v := .tuple #[cellsI y B3 d3 B4 d4, .bool true]) (by unfold cellsI; simp [results, Try.results24, go_sem, *]) rfl ?_
  have hne : ∀ k, w3.heap.size ≤ k → k ≠ w.heap.size + 1 := fun k hk e => by have h1 := HS4.out; have h2 := HS0.out; omega
  have q3 := Kd.R_reads' (R_far5 (Kd.R_bound K3.out) (w.heap.size + 1) (fun k hk => hne k hk.2.1) (.int .i64 y.f0) (.int .i64 y.f1) (.string y.f2) (.slice B3 y.f3.length d3) (.slice B4 y.f4.length d4))
  have q4 := Kd.R_reads' (R_far5 (Kd.R_bound K4.out) (w.heap.size + 1) (fun k hk => hne k hk.2.1) (.int .i64 y.f0) (.int .i64 y.f1) (.string y.f2) (.slice B3 y.f3.length d3) (.slice B4 y.f4.length d4))
  exact ⟨⟨_, rfl, B3, d3, B4, d4, rfl, q3.2.1, q3.2.2, q4.2.1, q4.2.2⟩, below5 (HB0.out.trans (H4.out.mono HB0.out.size)) _ (Nat.le_succ _) _ _ _ _ _⟩
theorem impl_TransformDevice_text3 (x s t p : ByteArray) (g : Bool) (hx : x.size ≤ 4398046511104) (h : (sp 58 x.data.toList).map mk = [s, t, p]) (ht : ¬ t.toList = []) : Turns 24 g (tI x) (mI devK [p, s, t]) := fun w v hv =>
  impl_TransformDevice_ (tI x) (canon_text x) (mI devK [p, s, t]) g w hv (fun W u q W' ha hb => by
    rw [any_text ha]
    exact dev_text3 x s t p q g W' hx h ht)
theorem impl_TransformDevice_text2 (x s t : ByteArray) (g : Bool) (hx : x.size ≤ 4398046511104) (h : (sp 58 x.data.toList).map mk = [s, t]) (ht : ¬ t.toList = []) : Turns 24 g (tI x) (mI devK [kRwm, s, t]) := fun w v hv =>
  impl_TransformDevice_ (tI x) (canon_text x) (mI devK [kRwm, s, t]) g w hv (fun W u q W' ha hb => by
    rw [any_text ha]
    exact dev_text2 x s t q g W' hx h ht)
theorem devK_nodup : devK.Nodup := by
  simp only [devK, List.nodup_cons, List.mem_cons, List.not_mem_nil, or_false, not_or, not_false_eq_true, List.nodup_nil, and_true]
  refine ⟨⟨?_, ?_⟩, ?_⟩ <;> exact of_decide_eq_true (by kernel_rfl)
theorem dev_from' (w : World) (b : Nat) (s t p : ByteArray) (hm : TMap w b AV.enc (devK.zip ([p, s, t].map AV.text))) : FromIs w (.map b) (mI devK [p, s, t]) := by
  refine .map hm (by simp) (Ord.sortS_unique devK_srt ?_) rfl (fun i h1 h2 v hv => ?_)
  · exact List.Perm.refl _
  · have h3 : i < 3 := h1
    rcases i with _ | _ | _ | i
    · have hl : SM.look (devK.zip ([p, s, t].map AV.text)) kPerm = some (.text p) := by kernel_rfl
      have : v = .text p := by
        have := hl.symm.trans hv
        injection this with this
        exact this.symm
      rw [this]; exact .text p
    · have hl : SM.look (devK.zip ([p, s, t].map AV.text)) kSource = some (.text s) := by kernel_rfl
      have : v = .text s := by
        have := hl.symm.trans hv
        injection this with this
        exact this.symm
      rw [this]; exact .text s
    · have hl : SM.look (devK.zip ([p, s, t].map AV.text)) kTarget = some (.text t) := by kernel_rfl
      have : v = .text t := by
        have := hl.symm.trans hv
        injection this with this
        exact this.symm
      rw [this]; exact .text t
    · omega
theorem impl_TransformDevice_map (s t p : ByteArray) (g : Bool) : Turns 24 g (mI devK [p, s, t]) (mI devK [p, s, t]) := fun w v hv =>
  impl_TransformDevice_ (mI devK [p, s, t]) (canon_map devK [p, s, t] devK_nodup rfl (by simp)) (mI devK [p, s, t]) g w hv (fun W u q W' ha hb => by
    obtain ⟨b, rfl, _, hm⟩ := any_map (ks := devK) (ss := [p, s, t]) ha
    exact transformDeviceMapping_map b _ q g W' (dev_from' W' b s t p (hm.below hb)))
end Go.Proofs.Ytadcdjiahekkgaa.A
