/- Joined texts. -/
import Derived.Test.YtiamiagjkfioiaaGreatDoorFit
/- The walk of spec.Fit of a list (printed by gen_fit.py). -/
namespace Go.Proofs.YtiamiagjkfioiaaGreatDoor.A
set_option linter.unusedVariables false
set_option linter.unusedSimpArgs false
set_option linter.unusedSectionVars false
open Go.RowKit Go.Proofs.YtiamiagjkfioiaaGreatDoorW.PrintWords Go.Proofs.YtiamiagjkfioiaaGreatDoorW.PrintLast Go.Proofs.YtiamiagjkfioiaaGreatDoorW.PrintMore Go.Proofs.YtiamiagjkfioiaaGreatDoor.PT Go.Proofs.YtiamiagjkfioiaaGreatDoor.L Go.Proofs.YtiamiagjkfioiaaGreatDoor.SM

structure FitL (w W1 : World) (wr : World) (X : List SV) (i : Nat) (A : Option Addr) (c : Nat) (rs : List RV) (ys : List SV) : Prop where
  box : wr.heap[w.heap.size + 2]? = some (.cells #[.int .i64 4, .int .i64 0, .string ⟨#[]⟩, .slice none 0 0, .slice A rs.length c] 26 (0, 0))
  row : Kd.R kR 26 wr (w.heap.size + 3) (fun _ => True) (.slice A rs.length c) rs
  deep : All2 (DeepP (fun k => w.heap.size + 3 ≤ k ∧ some k ≠ (Value.slice A rs.length c).ownBlock) wr) ys rs
  fine : ∀ y ∈ ys, FineS y
  cnt : (ys.map wt).sum ≤ ((X.take i).map wt).sum
  bel : Below (w.heap.size + 2) W1 wr
  size : w.heap.size + 3 ≤ wr.heap.size
theorem ltS {a b : Nat} (h : a < b) : a < b + 3 := by omega
set_option maxHeartbeats 8000000 in
set_option maxRecDepth 100000 in
theorem fit_list (x : SV) (h4' : x.f0 = 4) (hb : Bnd x) (w : World) (IH : ∀ (i : Nat) (h : i < x.f4.length) (W : World), Below w.heap.size w W → FitC (x.f4[i]'h) W) : FitC x w := by
  rintro v ⟨A3, c3, A4, c4, rfl, h3, g3, h4, g4⟩
  unfold cellsS
  rw [h4']
  have hbd := hb.here.2
  obtain ⟨n, hn⟩ : ∃ n, n = x.f4.length := ⟨_, rfl⟩
  have HN := Lib.hid hn
  have HBD : Hid (n ≤ 1099511627776) := Lib.hid (by rw [hn]; exact hbd)
  rw [← hn] at g4
  have G4 := Aside0.mk g4
  have HIH := Lib.hid IH
  rw [← hn]
  clear h4' hb hbd IH h3 g3 h4 g4 hn
  · skip
    obtain ⟨W0, hW0⟩ : ∃ W0 : World, W0 = (w.alloc (Obj.cells #[.int .i64 4, .int .i64 x.f1, .string x.f2, .slice A3 x.f3.length c3, .slice A4 n c4] 26)).alloc (Obj.cells #[.int .i64 0, .int .i64 0, .string ⟨#[]⟩, .slice none 0 0, .slice none 0 0] 26) := ⟨_, rfl⟩
    have hb0 : Below w.heap.size w W0 := by rw [hW0]; exact ((Below.refl _ _).alloc (Nat.le_refl _) _).alloc (by simp) _
    have hbx : W0.heap[w.heap.size]? = some (.cells #[.int .i64 4, .int .i64 x.f1, .string x.f2, .slice A3 x.f3.length c3, .slice A4 n c4] 26 (0, 0)) := by rw [hW0]; exact heap_oldI (new_atI rfl)
    have hre : W0.heap[w.heap.size + 1]? = some (.cells zV 26 (0, 0)) := by rw [hW0]; exact new_atI (by simp)
    have HS0 : Hid (W0.heap.size = w.heap.size + 2) := Lib.hid (by rw [hW0]; simp)
    have HB0 := Aside0.mk hb0
    have HBX := Aside0.mk hbx
    have HRE := Aside0.mk hre
    have HW0 := Lib.hid hW0
    have m0 : W0.cell? ⟨w.heap.size, 0, none⟩ = some (.int .i64 4) := (blk_cell hbx 0).trans rfl
    have m1 : W0.cell? ⟨w.heap.size, 1, none⟩ = some (.int .i64 x.f1) := (blk_cell hbx 1).trans rfl
    have m2 : W0.cell? ⟨w.heap.size, 2, none⟩ = some (.string x.f2) := (blk_cell hbx 2).trans rfl
    have m3 : W0.cell? ⟨w.heap.size, 3, none⟩ = some (.slice A3 x.f3.length c3) := (blk_cell hbx 3).trans rfl
    have m4 : W0.cell? ⟨w.heap.size, 4, none⟩ = some (.slice A4 n c4) := (blk_cell hbx 4).trans rfl
    clear hb0 hbx hre hW0
    go_enter Tryz.func18, Tryz.ntmps18
    go_upto_region 1 with fail
    rw [← HW0.out]
    go_wp2
    clear m0 m1 m2 m3 m4
    obtain ⟨W1, hW1⟩ : ∃ W1 : World, W1 = W0.alloc (Obj.cells #[.int .i64 4, .int .i64 0, .string ⟨#[]⟩, .slice none 0 0, .slice none 0 0] 26) := ⟨_, rfl⟩
    rw [← hW1, HS0.out]
    have hsz1 : W1.heap.size = w.heap.size + 3 := by rw [hW1]; simp [HS0.out]
    have HBX1 : Aside0 (W1.heap[w.heap.size]? = some (.cells #[.int .i64 4, .int .i64 x.f1, .string x.f2, .slice A3 x.f3.length c3, .slice A4 n c4] 26 (0, 0))) := ⟨by rw [hW1]; exact heap_oldI HBX.out⟩
    have HRE1 : Aside0 (W1.heap[w.heap.size + 1]? = some (.cells zV 26 (0, 0))) := ⟨by rw [hW1]; exact heap_oldI HRE.out⟩
    have HBO1 : Aside0 (W1.heap[w.heap.size + 2]? = some (.cells #[.int .i64 4, .int .i64 0, .string ⟨#[]⟩, .slice none 0 0, .slice none 0 0] 26 (0, 0))) := ⟨by rw [hW1]; exact new_atI HS0.out⟩
    have HB1 : Aside0 (Below w.heap.size w W1) := ⟨by rw [hW1]; exact HB0.out.alloc HB0.out.size _⟩
    have HSZ1 := Lib.hid hsz1
    clear hW1 hsz1
    go_loopw [4] (fun v4 wr => ∃ (i : Nat) (ys : List SV) (rs : List RV) (A : Option Addr) (c : Nat), i ≤ n ∧ v4 = .int .i64 i ∧ Hid (rs.length = i) ∧ Aside0 (FitL w W1 wr x.f4 i A c rs ys)) (fun v4 _ => n - (intOf v4).toNat)
    case atStart => exact ⟨0, [], [], none, 0, Nat.zero_le _, rfl, Lib.hid rfl, ⟨HBO1.out, Kd.R_nil _ _ _ _ _, ⟨rfl, fun i h1 => absurd h1 (Nat.not_lt_zero _)⟩, fun y hy => absurd hy List.not_mem_nil, Nat.le_refl _, Below.refl _ _, by rw [HSZ1.out]; exact Nat.le_refl _⟩⟩
    case round =>
      obtain ⟨i, ys, rs, A, c, hi, rfl, HRL, HF⟩ := hrel
      have hx4 : wr.cell? ⟨w.heap.size, 4, none⟩ = some (.slice A4 n c4) := (HF.out.bel.cell (p := ⟨w.heap.size, 4, none⟩) (Nat.lt_succ_of_lt (Nat.lt_succ_self _))).trans ((blk_cell HBX1.out 4).trans rfl)
      by_cases hlt : i < n
      · have i0 : (0 : Int) ≤ (i : Int) := Int.natCast_nonneg _
        have i1 : (i : Int) < (n : Int) := Int.ofNat_lt.2 hlt
        have hlt4 : i < x.f4.length := by rw [← HN.out]; exact hlt
        obtain ⟨ade, E3, d3, E4, d4, eA, he0, he1, he2, he3, he4, q3, r3, q4, r4⟩ := at_T26 G4.out (i : Int) i0 i1
        obtain ⟨y, hy⟩ : ∃ y, y = rd_T26 x.f4 (i : Int) := ⟨_, rfl⟩
        rw [← hy] at he0 he1 he2 he3 he4 q3 r3 q4 r4
        have hyi : y = x.f4[i]'hlt4 := hy.trans (rdSV hlt4)
        have hbwr : Below w.heap.size w wr := HB1.out.trans (HF.out.bel.mono (Nat.le_add_right _ 2))
        simp only [Int.toNat_natCast] at he0 he1 he2 he3 he4
        have EL : Hid ((ade.add (i * 5)).block < w.heap.size) := Lib.hid (World.block_lt_of_cell? w _ he0)
        have tr : ∀ {q : Addr} {u : Value}, w.cell? q = some u → wr.cell? q = some u := fun h => (hbwr.cell (World.block_lt_of_cell? w _ h)).trans h
        replace he0 := tr he0
        replace he1 := tr he1
        replace he2 := tr he2
        replace he3 := tr he3
        replace he4 := tr he4
        have HC : Hid (∀ W, Below w.heap.size w W → FitC y W) := Lib.hid (by rw [hyi]; exact HIH.out i hlt4)
        have HYM : Hid (((x.f4.take (i + 1)).map wt).sum = ((x.f4.take i).map wt).sum + wt y) := Lib.hid (by rw [List.take_succ_eq_append_getElem hlt4, List.map_append, List.sum_append, hyi]; simp)
        have HBWR := Aside0.mk hbwr
        have R3 := Aside0.mk (And.intro q3 r3)
        have R4 := Aside0.mk (And.intro q4 r4)
        have b4 : wr.cell? ⟨w.heap.size + 2, 4, none⟩ = some (.slice A rs.length c) := (blk_cell HF.out.box 4).trans rfl
        have wk := wrF hlt HBD.out
        have hvb : (rs.length + 1) * 80 ≤ 140737488355328 := by rw [HRL.out]; have := HBD.out; omega
        have HVB := Lib.hid hvb
        have HSR := Lib.hid HF.out.size
        subst eA
        clear hy hyi hbwr tr q3 r3 q4 r4 hlt4 hvb
        go_upto_region 13 with fail
        refine start_ (n := 12) (S := fun w' => w'.cell? ⟨w.heap.size + 2, 4, none⟩ = some (.slice A rs.length c) ∧ w'.cell? ⟨w.heap.size, 4, none⟩ = some (.slice (some ade) n c4) ∧ w'.cell? (ade.add (i * 5)) = some (.int .i64 y.f0) ∧ w'.cell? ⟨(ade.add (i * 5)).block, (ade.add (i * 5)).off + 1, none⟩ = some (.int .i64 y.f1) ∧ w'.cell? ⟨(ade.add (i * 5)).block, (ade.add (i * 5)).off + 2, none⟩ = some (.string y.f2) ∧ w'.cell? ⟨(ade.add (i * 5)).block, (ade.add (i * 5)).off + 3, none⟩ = some (.slice E3 y.f3.length d3) ∧ w'.cell? ⟨(ade.add (i * 5)).block, (ade.add (i * 5)).off + 4, none⟩ = some (.slice E4 y.f4.length d4)) (ds := [11]) #[false, false, false, false, false, false, false, false, false, false, false, false] (by kernel_rfl) rfl rfl ⟨b4, hx4, he0, he1, he2, he3, he4⟩ (fun hHeld => ?_)
        refine pure_ (i := 0) (N := some 35) (v := ?_) (a' := ?_) #[true, false, false, false, false, false, false, false, false, false, false, false] rfl rfl (by kernel_rfl) (fun _ _ _ h => h) (Or.inl ⟨by rfl, ?_⟩) ?_ ?_
        rotate_left
        · intro w'
          go_simp
          with_reducible rfl
        rotate_left
        · simp only [Act.put, List.setIfInBounds_toArray, List.set_cons_zero, List.set_cons_succ, i64_w, i32_w]
          rfl
        refine pure_ (i := 2) (N := some 37) (v := ?_) (a' := ?_) #[true, false, true, false, false, false, false, false, false, false, false, false] rfl rfl (by kernel_rfl) (fun _ _ _ h => h) (Or.inl ⟨by rfl, ?_⟩) ?_ ?_
        rotate_left
        · intro w'
          go_simp
          with_reducible rfl
        rotate_left
        · simp only [Act.put, List.setIfInBounds_toArray, List.set_cons_zero, List.set_cons_succ, i64_w, i32_w]
          rfl
        refine pure_ (i := 4) (N := some 39) (v := ?_) (a' := ?_) #[true, false, true, false, true, false, false, false, false, false, false, false] rfl rfl (by kernel_rfl) (fun _ _ _ h => h) (Or.inl ⟨by rfl, ?_⟩) ?_ ?_
        rotate_left
        · intro w'
          go_simp
          with_reducible rfl
        rotate_left
        · simp only [Act.put, List.setIfInBounds_toArray, List.set_cons_zero, List.set_cons_succ, i64_w, i32_w]
          rfl
        refine take_ (i := 1) (N := some 36) (v := ?_) (a' := ?_) #[true, true, true, false, true, false, false, false, false, false, false, false] rfl rfl (by kernel_rfl) (fun _ _ _ h => h) (Or.inl ⟨by rfl, ?_⟩) hHeld ?_ ?_
        rotate_left
        · rintro w' ⟨s0, s1, s2, s3, s4, s5, s6⟩
          go_simp
          with_reducible rfl
        rotate_left
        · simp only [Act.put, List.setIfInBounds_toArray, List.set_cons_zero, List.set_cons_succ, i64_w, i32_w]
          rfl
        refine take_ (i := 3) (N := some 38) (v := ?_) (a' := ?_) #[true, true, true, true, true, false, false, false, false, false, false, false] rfl rfl (by kernel_rfl) (fun _ _ _ h => h) (Or.inl ⟨by rfl, ?_⟩) hHeld ?_ ?_
        rotate_left
        · rintro w' ⟨s0, s1, s2, s3, s4, s5, s6⟩
          go_simp
          with_reducible rfl
        rotate_left
        · simp only [Act.put, List.setIfInBounds_toArray, List.set_cons_zero, List.set_cons_succ, i64_w, i32_w]
          rfl
        refine pure_ (i := 5) (N := some 40) (v := ?_) (a' := ?_) #[true, true, true, true, true, true, false, false, false, false, false, false] rfl rfl (by kernel_rfl) (fun _ _ _ h => h) (Or.inl ⟨by rfl, ?_⟩) ?_ ?_
        rotate_left
        · intro w'
          go_simp
          with_reducible rfl
        rotate_left
        · simp only [Act.put, List.setIfInBounds_toArray, List.set_cons_zero, List.set_cons_succ, i64_w, i32_w]
          rfl
        refine take_ (i := 6) (N := some 41) (v := ?_) (a' := ?_) #[true, true, true, true, true, true, true, false, false, false, false, false] rfl rfl (by kernel_rfl) (fun _ _ _ h => h) (Or.inl ⟨by rfl, ?_⟩) hHeld ?_ ?_
        rotate_left
        · rintro w' ⟨s0, s1, s2, s3, s4, s5, s6⟩
          go_simp
          with_reducible rfl
        rotate_left
        · simp only [Act.put, List.setIfInBounds_toArray, List.set_cons_zero, List.set_cons_succ, i64_w, i32_w]
          rfl
        refine one_ (i := 7) (N := some 42) #[true, true, true, true, true, true, true, true, false, false, false, false] rfl rfl (by kernel_rfl) (by decide) (fun K hK => ?_)
        refine goes_ Tryz.func18 (by kernel_rfl) rfl #[cellsS y E3 d3 E4 d4] (by rfl) rfl rfl (by simp only [List.map_toArray, List.map_cons, List.map_nil]; rfl) ?_
        with_reducible refine (FitC.use (HC.out wr.drew (below_drew1 HBWR.out)) E3 d3 E4 d4 R3.out.1 (Kd.C_below R3.out.2 (below_drew1 HBWR.out)) R4.out.1 (Kd.C_below R4.out.2 (below_drew1 HBWR.out))).mono ?_
        rintro e w3 ⟨z, r, rfl, hz, hq, hd, hb3⟩
        refine ⟨_, rfl, ?_⟩
        unfold RV.val
        have hc3 : Below wr.heap.size wr w3 := below_un hb3
        have HC3 := Aside0.mk hc3
        have HK3 : Aside0 (Below (w.heap.size + 3) wr w3) := ⟨hc3.mono HSR.out⟩
        have HZ := Aside0.mk hz
        have HQ := Lib.hid hq
        have HD := Aside0.mk (hd.imp (fun k hk hk2 => show wr.heap.size ≤ k from hk))
        have ROW3 := Aside0.mk (Kd.R_below HF.out.row hc3)
        clear hb3 hc3 hd hz hq
        refine hK.out _ _ ⟨(HK3.out.cell (p := ⟨w.heap.size + 2, 4, none⟩) (Nat.lt_succ_self _)).trans b4, (HK3.out.cell (p := ⟨w.heap.size, 4, none⟩) (Nat.lt_succ_of_lt (Nat.lt_succ_of_lt (Nat.lt_succ_self _)))).trans hx4, (HK3.out.cell (p := (ade.add (i * 5))) (ltS EL.out)).trans he0, (HK3.out.cell (p := ⟨(ade.add (i * 5)).block, (ade.add (i * 5)).off + 1, none⟩) (ltS EL.out)).trans he1, (HK3.out.cell (p := ⟨(ade.add (i * 5)).block, (ade.add (i * 5)).off + 2, none⟩) (ltS EL.out)).trans he2, (HK3.out.cell (p := ⟨(ade.add (i * 5)).block, (ade.add (i * 5)).off + 3, none⟩) (ltS EL.out)).trans he3, (HK3.out.cell (p := ⟨(ade.add (i * 5)).block, (ade.add (i * 5)).off + 4, none⟩) (ltS EL.out)).trans he4⟩ (fun hHeld => ?_)
        clear hK K
        refine norm_ (a' := ?_) ?_ ?_
        rotate_left
        · show Act.put _ (some 42) _ = _
          simp only [Act.put, List.setIfInBounds_toArray, List.set_cons_zero, List.set_cons_succ, i64_w, i32_w]
          rfl
        refine one_ (i := 8) (N := some 43) #[true, true, true, true, true, true, true, true, true, false, false, false] rfl rfl (by kernel_rfl) (by decide) (fun K hK => ?_)
        refine value_ (w1 := ?_) (v := ?_) (by rfl) rfl ?_ ?_
        rotate_left 2
        · go_simp
          constructor
          · rfl
          · rfl
        have HK8 : Aside0 (Below (w.heap.size + 3) wr (w3.alloc (Obj.cells #[.int .i64 r.n0, .int .i64 r.n1, .string r.t, .slice r.A r.an r.ac, .slice r.B r.bn r.bc] 26))) := ⟨HK3.out.alloc (Nat.le_trans HSR.out HC3.out.size) _⟩
        refine hK.out _ _ ⟨(HK8.out.cell (p := ⟨w.heap.size + 2, 4, none⟩) (Nat.lt_succ_self _)).trans b4, (HK8.out.cell (p := ⟨w.heap.size, 4, none⟩) (Nat.lt_succ_of_lt (Nat.lt_succ_of_lt (Nat.lt_succ_self _)))).trans hx4, (HK8.out.cell (p := (ade.add (i * 5))) (ltS EL.out)).trans he0, (HK8.out.cell (p := ⟨(ade.add (i * 5)).block, (ade.add (i * 5)).off + 1, none⟩) (ltS EL.out)).trans he1, (HK8.out.cell (p := ⟨(ade.add (i * 5)).block, (ade.add (i * 5)).off + 2, none⟩) (ltS EL.out)).trans he2, (HK8.out.cell (p := ⟨(ade.add (i * 5)).block, (ade.add (i * 5)).off + 3, none⟩) (ltS EL.out)).trans he3, (HK8.out.cell (p := ⟨(ade.add (i * 5)).block, (ade.add (i * 5)).off + 4, none⟩) (ltS EL.out)).trans he4⟩ (fun hHeld => ?_)
        clear hK K
        refine norm_ (a' := ?_) ?_ ?_
        rotate_left
        · show Act.put _ (some 43) _ = _
          simp only [Act.put, List.setIfInBounds_toArray, List.set_cons_zero, List.set_cons_succ, i64_w, i32_w]
          rfl
        refine one_ (i := 9) (N := some 44) #[true, true, true, true, true, true, true, true, true, true, false, false] rfl rfl (by kernel_rfl) (by decide) (fun K hK => ?_)
        refine Kd.R_append_step kR (w0 := wr) (w.heap.size + 3) (by rfl) (.tmp 36) (.tmp 43) 24 26 (.agg zV) 80 rfl Tryz.underlying24 infoV rfl (show 0 < 5 by decide) (by decide) (.slice A rs.length c) rs r [.int .i64 r.n0, .int .i64 r.n1, .string r.t, .slice r.A r.an r.ac, .slice r.B r.bn r.bc] (fun _ => True) (fun k => True ∧ some k ≠ (Value.slice A rs.length c).ownBlock) rfl rfl ?aP (fun _ hk => hk) ?aF ?aO ?aB ?aS ?aL ?_; (case aP => rfl); (case aF => exact fun _ _ => trivial); (case aO => exact ROW3.out); (case aB => exact HK3.out); (case aS => exact Nat.le_trans HSR.out HC3.out.size); (case aL => exact HVB.out)
        intro v6 w6 ho6 hb6 hg6 hat6
        obtain ⟨A6, c6, eo⟩ := Kd.R_slice ho6
        subst eo
        have HO6 := Aside0.mk ho6
        have HK6 := Aside0.mk hb6
        have HG6 := Aside0.mk hg6
        have HAT := Aside0.mk hat6
        clear ho6 hb6 hg6 hat6
        refine hK.out _ _ ⟨(HK6.out.cell (p := ⟨w.heap.size + 2, 4, none⟩) (Nat.lt_succ_self _)).trans b4, (HK6.out.cell (p := ⟨w.heap.size, 4, none⟩) (Nat.lt_succ_of_lt (Nat.lt_succ_of_lt (Nat.lt_succ_self _)))).trans hx4, (HK6.out.cell (p := (ade.add (i * 5))) (ltS EL.out)).trans he0, (HK6.out.cell (p := ⟨(ade.add (i * 5)).block, (ade.add (i * 5)).off + 1, none⟩) (ltS EL.out)).trans he1, (HK6.out.cell (p := ⟨(ade.add (i * 5)).block, (ade.add (i * 5)).off + 2, none⟩) (ltS EL.out)).trans he2, (HK6.out.cell (p := ⟨(ade.add (i * 5)).block, (ade.add (i * 5)).off + 3, none⟩) (ltS EL.out)).trans he3, (HK6.out.cell (p := ⟨(ade.add (i * 5)).block, (ade.add (i * 5)).off + 4, none⟩) (ltS EL.out)).trans he4⟩ (fun hHeld => ?_)
        clear hK K
        refine norm_ (a' := ?_) ?_ ?_
        rotate_left
        · show Act.put _ (some 44) _ = _
          simp only [Act.put, List.setIfInBounds_toArray, List.set_cons_zero, List.set_cons_succ, i64_w, i32_w]
          rfl
        refine pure_ (i := 10) (N := some 45) (v := ?_) (a' := ?_) #[true, true, true, true, true, true, true, true, true, true, true, false] rfl rfl (by kernel_rfl) (fun _ _ _ h => h) (Or.inl ⟨by rfl, ?_⟩) ?_ ?_
        rotate_left
        · intro w'
          go_simp
          with_reducible rfl
        rotate_left
        · simp only [Act.put, List.setIfInBounds_toArray, List.set_cons_zero, List.set_cons_succ, i64_w, i32_w]
          rfl
        refine last_ (i := 11) (N := none) #[true, true, true, true, true, true, true, true, true, true, true, true] rfl rfl (by kernel_rfl) (by decide) (fun K hK => ?_)
        refine store_fld (cur := #[.int .i64 4, .int .i64 0, .string ⟨#[]⟩, .slice none 0 0, .slice A rs.length c]) (e := 26) (g := w.heap.size + 2) (o := 4) 24 _ _ (.slice A6 (rs ++ [r]).length c6) (by rfl) rfl rfl rfl rfl ((HK6.out.block (w.heap.size + 2) (Nat.lt_succ_self _)).trans HF.out.box) rfl (show (Tryz.prog.info? 24).map (·.size) = some 1 by kernel_rfl) (show 4 < 5 by decide) rfl ?_
        intro w7 h7 hg7
        have H7 := Aside0.mk h7
        have HG7 := Aside0.mk hg7
        clear h7 hg7
        refine hK.out _ _ ?_
        clear hK K
        refine done_ (by kernel_rfl) ?_
        
        go_wp2
        go_roundw
        case rel =>
          have hs3 : wr.heap.size ≤ w3.heap.size := HC3.out.size
          have hs7 : w6.heap.size ≤ w7.heap.size := HG7.out.size
          have e1 : (rs ++ [r]).length = rs.length + 1 := by simp
          have hnew : ∀ k, (Value.slice A6 (rs ++ [r]).length c6).ownBlock = some k → w.heap.size + 3 ≤ k := Kd.R_base HO6.out
          have hne2 : ∀ k, w.heap.size + 3 ≤ k → some k ≠ some (w.heap.size + 2) := fun k hk e => by injection e with e; omega
          have hold : ∀ k, w.heap.size + 3 ≤ k ∧ some k ≠ (Value.slice A rs.length c).ownBlock → k < w3.heap.size → w7.heap[k]? = w3.heap[k]? := fun k hk hlt' => (HG7.out.block k (Nat.lt_of_lt_of_le hlt' HG6.out.size) (hne2 k hk.1)).trans (HG6.out.block k hlt' hk.2)
          have hto : ∀ k, (w.heap.size + 3 ≤ k ∧ some k ≠ (Value.slice A rs.length c).ownBlock) → k < w7.heap.size → k < w3.heap.size → (w.heap.size + 3 ≤ k ∧ some k ≠ (Value.slice A6 (rs ++ [r]).length c6).ownBlock) := fun k hk _ hlt' => ⟨hk.1, fun e => by
            rcases HAT.out with h | ⟨b, h, hb⟩
            · exact hk.2 (e.trans h)
            · rw [h] at e; injection e with e; omega⟩
          have hfr : ∀ k, wr.heap.size ≤ k → w.heap.size + 3 ≤ k ∧ some k ≠ (Value.slice A rs.length c).ownBlock := fun k hk => ⟨Nat.le_trans HSR.out hk, fun e => by have := Kd.R_lt HF.out.row k e.symm; omega⟩
          have step : ∀ {y : SV} {q : RV}, DeepP (fun k => w.heap.size + 3 ≤ k ∧ some k ≠ (Value.slice A rs.length c).ownBlock) w3 y q → DeepP (fun k => w.heap.size + 3 ≤ k ∧ some k ≠ (Value.slice A6 (rs ++ [r]).length c6).ownBlock) w7 y q := fun {y q} h => by
            have h2 : DeepP (fun k => (w.heap.size + 3 ≤ k ∧ some k ≠ (Value.slice A rs.length c).ownBlock) ∧ k < w3.heap.size) w3 y q := h.imp (fun k hk hk2 => ⟨hk, hk2⟩)
            exact (h2.kept (fun k hk _ => hold k hk.1 hk.2)).imp (fun k hk hk7 => hto k hk.1 hk7 hk.2)
          refine ⟨i + 1, ys ++ [z], rs ++ [r], A6, c6, hlt, by go_num, Lib.hid (by rw [e1, HRL.out]), ⟨?_, ?_, ?_, ?_, ?_, ?_, ?_⟩⟩
          · exact H7.out
          · exact kR_apart HO6.out HG7.out (fun k hk => hne2 k (hnew k hk))
          · exact All2.snoc ((HF.out.deep.imp (fun _ _ h => h.below_ HC3.out)).imp (fun _ _ h => step h)) (step (HD.out.imp (fun k hk _ => hfr k hk)))
          · intro q hq
            rcases List.mem_append.1 hq with h | h
            · exact HF.out.fine q h
            · rw [List.mem_singleton.1 h]; exact HZ.out
          · rw [HYM.out, List.map_append, List.sum_append]
            have h1 := HF.out.cnt
            have h2 := HQ.out
            simp only [List.map_cons, List.map_nil, List.sum_cons, List.sum_nil, Nat.add_zero]
            exact Nat.add_le_add h1 h2
          · exact (HF.out.bel.trans (HK6.out.mono (Nat.le_succ _))).grown HG7.out (Nat.le_trans (Nat.le_trans (Nat.le_succ _) HSR.out) HK6.out.size) (fun k e => by injection e with e; omega)
          · exact Nat.le_trans HSR.out (Nat.le_trans HK6.out.size hs7)
        case measure => first | exact msF hlt | (rw [wk]; exact msF hlt)
      · obtain rfl : i = n := by omega
        have m0 : wr.cell? ⟨w.heap.size + 2, 0, none⟩ = some (.int .i64 4) := (blk_cell HF.out.box 0).trans rfl
        have m1 : wr.cell? ⟨w.heap.size + 2, 1, none⟩ = some (.int .i64 0) := (blk_cell HF.out.box 1).trans rfl
        have m2 : wr.cell? ⟨w.heap.size + 2, 2, none⟩ = some (.string ⟨#[]⟩) := (blk_cell HF.out.box 2).trans rfl
        have m3 : wr.cell? ⟨w.heap.size + 2, 3, none⟩ = some (.slice none 0 0) := (blk_cell HF.out.box 3).trans rfl
        have m4 : wr.cell? ⟨w.heap.size + 2, 4, none⟩ = some (.slice A rs.length c) := (blk_cell HF.out.box 4).trans rfl
        have hr1 : wr.heap[w.heap.size + 1]? = some (.cells zV 26 (0, 0)) := (HF.out.bel.block (w.heap.size + 1) (Nat.lt_succ_self _)).trans HRE1.out
        have n0 : wr.cell? ⟨w.heap.size + 1, 0, none⟩ = some (.int .i64 0) := (blk_cell hr1 0).trans rfl
        have n1 : wr.cell? ⟨w.heap.size + 1, 1, none⟩ = some (.int .i64 0) := (blk_cell hr1 1).trans rfl
        have n2 : wr.cell? ⟨w.heap.size + 1, 2, none⟩ = some (.string ⟨#[]⟩) := (blk_cell hr1 2).trans rfl
        have n3 : wr.cell? ⟨w.heap.size + 1, 3, none⟩ = some (.slice none 0 0) := (blk_cell hr1 3).trans rfl
        have n4 : wr.cell? ⟨w.heap.size + 1, 4, none⟩ = some (.slice none 0 0) := (blk_cell hr1 4).trans rfl
        have f0 := blk_frozen hr1 0
        have f1 := blk_frozen hr1 1
        have f2 := blk_frozen hr1 2
        have f3 := blk_frozen hr1 3
        have f4 := blk_frozen hr1 4
        clear hr1
        go_wp2
        refine bodyPost_ret (v := .agg #[.int .i64 4, .int .i64 0, .string ⟨#[]⟩, .slice none 0 0, .slice A rs.length c]) (by simp [results, Tryz.results18, go_sem, *]) rfl ?_
        obtain ⟨A', c', eA', hlc, hC⟩ := Kd.R_reads HF.out.row
        injection eA' with eA1 _ eA3
        subst eA1 eA3
        have hlen := HF.out.deep.1
        have hb5 : Below w.heap.size w wr := HB1.out.trans (HF.out.bel.mono (Nat.le_add_right _ 2))
        have hbf := below5 hb5 (w.heap.size + 1) (Nat.le_succ _) (.int .i64 4) (.int .i64 0) (.string ⟨#[]⟩) (.slice none 0 0) (.slice A rs.length c)
        have hfar : ∀ k, k ≠ w.heap.size + 1 → (((((wr.setCell ⟨w.heap.size + 1, 0, none⟩ (.int .i64 4)).setCell ⟨w.heap.size + 1, 1, none⟩ (.int .i64 0)).setCell ⟨w.heap.size + 1, 2, none⟩ (.string ⟨#[]⟩)).setCell ⟨w.heap.size + 1, 3, none⟩ (.slice none 0 0)).setCell ⟨w.heap.size + 1, 4, none⟩ (.slice A rs.length c)).heap[k]? = wr.heap[k]? := fun k hk => by
          repeat rw [Below.heap_setCell _ _ _ _ hk]
        have hbase : ∀ ad, A = some ad → 0 < rs.length → w.heap.size + 3 ≤ ad.block := fun ad e hp => fr_own HF.out.row (Nat.le_refl _) ad e
        refine ⟨⟨4, 0, be, [], ys⟩, ⟨4, 0, be, none, 0, 0, A, rs.length, c⟩, rfl, .list (by rw [hlen, HRL.out]; exact HBD.out) (fun j hj => HF.out.fine _ (List.getElem_mem hj)), wt_list (by have := HF.out.cnt; rwa [show x.f4.take i = x.f4 by rw [HN.out, List.take_length]] at this), ?_, hbf⟩
        refine .mk (rs := rs) rfl rfl rfl rfl (Nat.le_refl _) (C_nil _ _ _) (fun h => absurd h (Nat.lt_irrefl _)) hlen.symm hlc hlen.symm (C_keep hC (fun _ _ q => q) (fun hp ad e _ => hfar _ (by have := hbase ad e hp; omega))) (fun hp ad e => by have := hbase ad e hp; omega) (fun j q1 q2 => ?_)
        exact ((HF.out.deep.2 j q1 q2).kept (fun k hk _ => hfar k (by have := hk.1; omega))).imp (fun k hk _ => by have := hk.1; omega)
end Go.Proofs.YtiamiagjkfioiaaGreatDoor.A
/- The walk of spec.Fit of a map, and of every value (printed by gen_fit.py). -/
namespace Go.Proofs.YtiamiagjkfioiaaGreatDoor.A
set_option linter.unusedVariables false
set_option linter.unusedSimpArgs false
set_option linter.unusedSectionVars false
open Go.RowKit Go.Proofs.YtiamiagjkfioiaaGreatDoorW.PrintWords Go.Proofs.YtiamiagjkfioiaaGreatDoorW.PrintLast Go.Proofs.YtiamiagjkfioiaaGreatDoorW.PrintMore Go.Proofs.YtiamiagjkfioiaaGreatDoor.PT Go.Proofs.YtiamiagjkfioiaaGreatDoor.L Go.Proofs.YtiamiagjkfioiaaGreatDoor.SM

structure FitM (w W1 : World) (wr : World) (x : SV) (i : Nat) (A : Option Addr) (c : Nat) (A' : Option Addr) (c' : Nat) (ks : List ByteArray) (rs : List RV) (ys : List SV) : Prop where
  box : wr.heap[w.heap.size + 3]? = some (.cells #[.int .i64 5, .int .i64 0, .string ⟨#[]⟩, .slice A ks.length c, .slice A' rs.length c'] 26 (0, 0))
  len : rs.length = ks.length
  kc : ks.length ≤ c
  kC : Kd.C Kd.string wr A ks.length ks
  vc : rs.length ≤ c'
  vC : Kd.C kR wr A' rs.length rs
  kf : Fr (w.heap.size + 4) A
  vf : Fr (w.heap.size + 4) A'
  asc : Ord.Asc id ks
  deep : All2 (DeepP (fun k => w.heap.size + 4 ≤ k) wr) ys rs
  fine : ∀ y ∈ ys, FineS y
  cnt : ksum ks + (ys.map wt).sum ≤ ksum (x.f3.take i) + ((x.f4.take i).map wt).sum
  bel : Below (w.heap.size + 3) W1 wr
  size : w.heap.size + 4 ≤ wr.heap.size
theorem withL_mem {α : Type} {key : ByteArray} {ks : List ByteArray} {vs : List α} {x q : α} (h : q ∈ withL key ks vs x) : q = x ∨ q ∈ vs := by
  unfold A.withL at h
  split at h
  · rcases List.mem_or_eq_of_mem_set h with h | h
    · exact .inr h
    · exact .inl h
  · rcases List.mem_append.1 h with h | h
    · exact .inr (List.mem_of_mem_take h)
    · rcases List.mem_cons.1 h with h | h
      · exact .inl h
      · exact .inr (List.mem_of_mem_drop h)
theorem sum4 {a b c d e f g h i : Nat} (h1 : a + b ≤ c + d) (h2 : e ≤ f) (h3 : g ≤ a + h) (h4 : i ≤ b + e) : g + i ≤ (c + h) + (d + f) := by omega
theorem ltS' (a : Nat) : a < a + 3 := by omega
theorem lt4 {a : Nat} : a + 3 < a + 4 := Nat.lt_succ_self _
theorem lt4a {a : Nat} : a < a + 4 := by omega
theorem lt4e {a b : Nat} (h : b < a) : b < a + 4 := by omega
set_option maxHeartbeats 8000000 in
set_option maxRecDepth 100000 in
theorem fit_map (x : SV) (h5' : x.f0 = 5) (hb : Bnd x) (w : World) (IH : ∀ (i : Nat) (h : i < x.f4.length) (W : World), Below w.heap.size w W → FitC (x.f4[i]'h) W) : FitC x w := by
  rintro v ⟨A3, c3, A4, c4, rfl, h3, g3, h4, g4⟩
  unfold cellsS
  rw [h5']
  obtain ⟨nk, hnk⟩ : ∃ nk, nk = x.f3.length := ⟨_, rfl⟩
  obtain ⟨n, hn⟩ : ∃ n, n = x.f4.length := ⟨_, rfl⟩
  have HNK := Lib.hid hnk
  have HN := Lib.hid hn
  have HBK : Hid (nk ≤ 1099511627776) := Lib.hid (by rw [hnk]; exact hb.here.1)
  rw [← hn] at g4
  rw [← hnk] at g3
  have G3 := Aside0.mk g3
  have G4 := Aside0.mk g4
  have HIH := Lib.hid IH
  rw [← hn, ← hnk]
  clear h5' hb IH h3 g3 h4 g4 hn hnk
  · skip
    obtain ⟨W0, hW0⟩ : ∃ W0 : World, W0 = (w.alloc (Obj.cells #[.int .i64 5, .int .i64 x.f1, .string x.f2, .slice A3 nk c3, .slice A4 n c4] 26)).alloc (Obj.cells #[.int .i64 0, .int .i64 0, .string ⟨#[]⟩, .slice none 0 0, .slice none 0 0] 26) := ⟨_, rfl⟩
    have hb0 : Below w.heap.size w W0 := by rw [hW0]; exact ((Below.refl _ _).alloc (Nat.le_refl _) _).alloc (by simp) _
    have hbx : W0.heap[w.heap.size]? = some (.cells #[.int .i64 5, .int .i64 x.f1, .string x.f2, .slice A3 nk c3, .slice A4 n c4] 26 (0, 0)) := by rw [hW0]; exact heap_oldI (new_atI rfl)
    have hre : W0.heap[w.heap.size + 1]? = some (.cells zV 26 (0, 0)) := by rw [hW0]; exact new_atI (by simp)
    have HS0 : Hid (W0.heap.size = w.heap.size + 2) := Lib.hid (by rw [hW0]; simp)
    have HB0 := Aside0.mk hb0
    have HBX := Aside0.mk hbx
    have HRE := Aside0.mk hre
    have HW0 := Lib.hid hW0
    have m0 : W0.cell? ⟨w.heap.size, 0, none⟩ = some (.int .i64 5) := (blk_cell hbx 0).trans rfl
    have m1 : W0.cell? ⟨w.heap.size, 1, none⟩ = some (.int .i64 x.f1) := (blk_cell hbx 1).trans rfl
    have m2 : W0.cell? ⟨w.heap.size, 2, none⟩ = some (.string x.f2) := (blk_cell hbx 2).trans rfl
    have m3 : W0.cell? ⟨w.heap.size, 3, none⟩ = some (.slice A3 nk c3) := (blk_cell hbx 3).trans rfl
    have m4 : W0.cell? ⟨w.heap.size, 4, none⟩ = some (.slice A4 n c4) := (blk_cell hbx 4).trans rfl
    clear hb0 hbx hre hW0
    go_enter Tryz.func18, Tryz.ntmps18
    go_upto_region 1 with fail
    rw [← HW0.out]
    go_wp2_with fail
    refine (spec_Empty _).mono ?_
    rintro e w1 ⟨rfl, rfl⟩
    go_wp2
    clear m0 m1 m2 m3 m4
    obtain ⟨W1, hW1⟩ : ∃ W1 : World, W1 = (W0.alloc (Obj.cells #[.int .i64 5, .int .i64 0, .string ⟨#[]⟩, .slice none 0 0, .slice none 0 0] 26)).alloc (Obj.cells #[.int .i64 5, .int .i64 0, .string ⟨#[]⟩, .slice none 0 0, .slice none 0 0] 26) := ⟨_, rfl⟩
    rw [← hW1]
    have hs3 : (W0.alloc (Obj.cells #[.int .i64 5, .int .i64 0, .string ⟨#[]⟩, .slice none 0 0, .slice none 0 0] 26)).heap.size = w.heap.size + 3 := by simp [HS0.out]
    have hsz1 : W1.heap.size = w.heap.size + 4 := by rw [hW1]; simp [HS0.out]
    have HBX1 : Aside0 (W1.heap[w.heap.size]? = some (.cells #[.int .i64 5, .int .i64 x.f1, .string x.f2, .slice A3 nk c3, .slice A4 n c4] 26 (0, 0))) := ⟨by rw [hW1]; exact heap_oldI (heap_oldI HBX.out)⟩
    have HRE1 : Aside0 (W1.heap[w.heap.size + 1]? = some (.cells zV 26 (0, 0))) := ⟨by rw [hW1]; exact heap_oldI (heap_oldI HRE.out)⟩
    have HBO1 : Aside0 (W1.heap[w.heap.size + 3]? = some (.cells #[.int .i64 5, .int .i64 0, .string ⟨#[]⟩, .slice none 0 0, .slice none 0 0] 26 (0, 0))) := ⟨by rw [hW1]; exact new_atI hs3⟩
    have HB1 : Aside0 (Below w.heap.size w W1) := ⟨by rw [hW1]; exact (HB0.out.alloc HB0.out.size _).alloc (by rw [hs3]; exact Nat.le_add_right _ 3) _⟩
    have HSZ1 := Lib.hid hsz1
    have hs2 : W0.heap.size + 1 = w.heap.size + 3 := by rw [HS0.out]
    first | rw [hs2] | simp only [World.alloc_size, hs2, HS0.out] | skip
    clear hW1 hsz1 hs3 hs2
    go_loopw [6] (fun v6 wr => ∃ (i : Nat) (ks : List ByteArray) (ys : List SV) (rs : List RV) (A : Option Addr) (c : Nat) (A' : Option Addr) (c' : Nat), i ≤ nk ∧ v6 = .int .i64 i ∧ Hid (ks.length ≤ i) ∧ Aside0 (FitM w W1 wr x i A c A' c' ks rs ys)) (fun v6 _ => nk - (intOf v6).toNat)
    case atStart => exact ⟨0, [], [], [], none, 0, none, 0, Nat.zero_le _, rfl, Lib.hid (Nat.le_refl _), ⟨HBO1.out, rfl, Nat.le_refl _, C_nil _ _ _, Nat.le_refl _, C_nil _ _ _, Fr.none _, Fr.none _, List.Pairwise.nil, ⟨rfl, fun i h1 => absurd h1 (Nat.not_lt_zero _)⟩, fun y hy => absurd hy List.not_mem_nil, Nat.zero_le _, Below.refl _ _, by rw [HSZ1.out]; exact Nat.le_refl _⟩⟩
    case round =>
      obtain ⟨i, ks, ys, rs, A, c, A', c', hi, rfl, HKL, HF⟩ := hrel
      have hx3 : wr.cell? ⟨w.heap.size, 3, none⟩ = some (.slice A3 nk c3) := (HF.out.bel.cell (p := ⟨w.heap.size, 3, none⟩) (ltS' w.heap.size)).trans ((blk_cell HBX1.out 3).trans rfl)
      have hx4 : wr.cell? ⟨w.heap.size, 4, none⟩ = some (.slice A4 n c4) := (HF.out.bel.cell (p := ⟨w.heap.size, 4, none⟩) (ltS' w.heap.size)).trans ((blk_cell HBX1.out 4).trans rfl)
      have m0 : wr.cell? ⟨w.heap.size + 3, 0, none⟩ = some (.int .i64 5) := (blk_cell HF.out.box 0).trans rfl
      have m1 : wr.cell? ⟨w.heap.size + 3, 1, none⟩ = some (.int .i64 0) := (blk_cell HF.out.box 1).trans rfl
      have m2 : wr.cell? ⟨w.heap.size + 3, 2, none⟩ = some (.string ⟨#[]⟩) := (blk_cell HF.out.box 2).trans rfl
      have m3 : wr.cell? ⟨w.heap.size + 3, 3, none⟩ = some (.slice A ks.length c) := (blk_cell HF.out.box 3).trans rfl
      have m4 : wr.cell? ⟨w.heap.size + 3, 4, none⟩ = some (.slice A' rs.length c') := (blk_cell HF.out.box 4).trans rfl
      by_cases hgo : i < nk ∧ i < n
      · obtain ⟨hlt, hlt4'⟩ := hgo
        have i0 : (0 : Int) ≤ (i : Int) := Int.natCast_nonneg _
        have i1 : (i : Int) < (nk : Int) := Int.ofNat_lt.2 hlt
        have i2 : (i : Int) < (n : Int) := Int.ofNat_lt.2 hlt4'
        have hlt4 : i < x.f4.length := by rw [← HN.out]; exact hlt4'
        obtain ⟨adk, eK, hk0⟩ := Kd.at_string G3.out (i : Int) i0 i1
        obtain ⟨ade, E3, d3, E4, d4, eA, he0, he1, he2, he3, he4, q3, r3, q4, r4⟩ := at_T26 G4.out (i : Int) i0 i2
        obtain ⟨y, hy⟩ : ∃ y, y = rd_T26 x.f4 (i : Int) := ⟨_, rfl⟩
        obtain ⟨key, hkey⟩ : ∃ key, key = rdOf ByteArray.empty x.f3 (i : Int) := ⟨_, rfl⟩
        rw [← hkey] at hk0
        rw [← hy] at he0 he1 he2 he3 he4 q3 r3 q4 r4
        have hyi : y = x.f4[i]'hlt4 := hy.trans (rdSV hlt4)
        have hlt3 : i < x.f3.length := by rw [← HNK.out]; exact hlt
        have HKM : Hid (ksum (x.f3.take (i + 1)) = ksum (x.f3.take i) + (key.size + 1)) := Lib.hid (by rw [List.take_succ_eq_append_getElem hlt3, ksum_append, hkey, rdK hlt3]; simp [ksum])
        have hbwr : Below w.heap.size w wr := HB1.out.trans (HF.out.bel.mono (Nat.le_add_right _ 3))
        simp only [Int.toNat_natCast] at hk0 he0 he1 he2 he3 he4
        have EK : Hid ((adk.add i).block < w.heap.size) := Lib.hid (World.block_lt_of_cell? w _ hk0)
        have EL : Hid ((ade.add (i * 5)).block < w.heap.size) := Lib.hid (World.block_lt_of_cell? w _ he0)
        have tr : ∀ {q : Addr} {u : Value}, w.cell? q = some u → wr.cell? q = some u := fun h => (hbwr.cell (World.block_lt_of_cell? w _ h)).trans h
        replace hk0 := tr hk0
        replace he0 := tr he0
        replace he1 := tr he1
        replace he2 := tr he2
        replace he3 := tr he3
        replace he4 := tr he4
        have HC : Hid (∀ W, Below w.heap.size w W → FitC y W) := Lib.hid (by rw [hyi]; exact HIH.out i hlt4)
        have HYM : Hid (((x.f4.take (i + 1)).map wt).sum = ((x.f4.take i).map wt).sum + wt y) := Lib.hid (by rw [List.take_succ_eq_append_getElem hlt4, List.map_append, List.sum_append, hyi]; simp)
        have HBWR := Aside0.mk hbwr
        have R3 := Aside0.mk (And.intro q3 r3)
        have R4 := Aside0.mk (And.intro q4 r4)
        have wk := wrF hlt HBK.out
        have HSR := Lib.hid HF.out.size
        have HKB : Hid (ks.length ≤ 1099511627776) := Lib.hid (Nat.le_trans HKL.out (Nat.le_trans hi HBK.out))
        subst eK
        subst eA
        clear hy hyi hkey hbwr tr q3 r3 q4 r4 hlt4
        go_upto_region 20 with fail
        refine start_ (n := 14) (S := fun w' => w'.cell? ⟨w.heap.size + 3, 0, none⟩ = some (.int .i64 5) ∧ w'.cell? ⟨w.heap.size + 3, 1, none⟩ = some (.int .i64 0) ∧ w'.cell? ⟨w.heap.size + 3, 2, none⟩ = some (.string ⟨#[]⟩) ∧ w'.cell? ⟨w.heap.size + 3, 3, none⟩ = some (.slice A ks.length c) ∧ w'.cell? ⟨w.heap.size + 3, 4, none⟩ = some (.slice A' rs.length c') ∧ w'.cell? ⟨w.heap.size, 3, none⟩ = some (.slice (some adk) nk c3) ∧ w'.cell? ⟨w.heap.size, 4, none⟩ = some (.slice (some ade) n c4) ∧ w'.cell? (adk.add i) = some (.string key) ∧ w'.cell? (ade.add (i * 5)) = some (.int .i64 y.f0) ∧ w'.cell? ⟨(ade.add (i * 5)).block, (ade.add (i * 5)).off + 1, none⟩ = some (.int .i64 y.f1) ∧ w'.cell? ⟨(ade.add (i * 5)).block, (ade.add (i * 5)).off + 2, none⟩ = some (.string y.f2) ∧ w'.cell? ⟨(ade.add (i * 5)).block, (ade.add (i * 5)).off + 3, none⟩ = some (.slice E3 y.f3.length d3) ∧ w'.cell? ⟨(ade.add (i * 5)).block, (ade.add (i * 5)).off + 4, none⟩ = some (.slice E4 y.f4.length d4)) (ds := [13]) #[false, false, false, false, false, false, false, false, false, false, false, false, false, false] (by kernel_rfl) rfl rfl ⟨m0, m1, m2, m3, m4, hx3, hx4, hk0, he0, he1, he2, he3, he4⟩ (fun hHeld => ?_)
        refine pure_ (i := 1) (N := some 65) (v := ?_) (a' := ?_) #[false, true, false, false, false, false, false, false, false, false, false, false, false, false] rfl rfl (by kernel_rfl) (fun _ _ _ h => h) (Or.inl ⟨by rfl, ?_⟩) ?_ ?_
        rotate_left
        · intro w'
          go_simp
          with_reducible rfl
        rotate_left
        · simp only [Act.put, List.setIfInBounds_toArray, List.set_cons_zero, List.set_cons_succ, i64_w, i32_w]
          rfl
        refine pure_ (i := 3) (N := some 67) (v := ?_) (a' := ?_) #[false, true, false, true, false, false, false, false, false, false, false, false, false, false] rfl rfl (by kernel_rfl) (fun _ _ _ h => h) (Or.inl ⟨by rfl, ?_⟩) ?_ ?_
        rotate_left
        · intro w'
          go_simp
          with_reducible rfl
        rotate_left
        · simp only [Act.put, List.setIfInBounds_toArray, List.set_cons_zero, List.set_cons_succ, i64_w, i32_w]
          rfl
        refine pure_ (i := 6) (N := some 70) (v := ?_) (a' := ?_) #[false, true, false, true, false, false, true, false, false, false, false, false, false, false] rfl rfl (by kernel_rfl) (fun _ _ _ h => h) (Or.inl ⟨by rfl, ?_⟩) ?_ ?_
        rotate_left
        · intro w'
          go_simp
          with_reducible rfl
        rotate_left
        · simp only [Act.put, List.setIfInBounds_toArray, List.set_cons_zero, List.set_cons_succ, i64_w, i32_w]
          rfl
        refine pure_ (i := 8) (N := some 72) (v := ?_) (a' := ?_) #[false, true, false, true, false, false, true, false, true, false, false, false, false, false] rfl rfl (by kernel_rfl) (fun _ _ _ h => h) (Or.inl ⟨by rfl, ?_⟩) ?_ ?_
        rotate_left
        · intro w'
          go_simp
          with_reducible rfl
        rotate_left
        · simp only [Act.put, List.setIfInBounds_toArray, List.set_cons_zero, List.set_cons_succ, i64_w, i32_w]
          rfl
        refine take_ (i := 0) (N := some 64) (v := ?_) (a' := ?_) #[true, true, false, true, false, false, true, false, true, false, false, false, false, false] rfl rfl (by kernel_rfl) (fun _ _ _ h => h) (Or.inl ⟨by rfl, ?_⟩) hHeld ?_ ?_
        rotate_left
        · rintro w' ⟨s0, s1, s2, s3, s4, s5, s6, s7, s8, s9, s10, s11, s12⟩
          go_simp
          with_reducible rfl
        rotate_left
        · simp only [Act.put, List.setIfInBounds_toArray, List.set_cons_zero, List.set_cons_succ, i64_w, i32_w]
          rfl
        refine take_ (i := 2) (N := some 66) (v := ?_) (a' := ?_) #[true, true, true, true, false, false, true, false, true, false, false, false, false, false] rfl rfl (by kernel_rfl) (fun _ _ _ h => h) (Or.inl ⟨by rfl, ?_⟩) hHeld ?_ ?_
        rotate_left
        · rintro w' ⟨s0, s1, s2, s3, s4, s5, s6, s7, s8, s9, s10, s11, s12⟩
          go_simp
          with_reducible rfl
        rotate_left
        · simp only [Act.put, List.setIfInBounds_toArray, List.set_cons_zero, List.set_cons_succ, i64_w, i32_w]
          rfl
        refine pure_ (i := 4) (N := some 68) (v := ?_) (a' := ?_) #[true, true, true, true, true, false, true, false, true, false, false, false, false, false] rfl rfl (by kernel_rfl) (fun _ _ _ h => h) (Or.inl ⟨by rfl, ?_⟩) ?_ ?_
        rotate_left
        · intro w'
          go_simp
          with_reducible rfl
        rotate_left
        · simp only [Act.put, List.setIfInBounds_toArray, List.set_cons_zero, List.set_cons_succ, i64_w, i32_w]
          rfl
        refine take_ (i := 5) (N := some 69) (v := ?_) (a' := ?_) #[true, true, true, true, true, true, true, false, true, false, false, false, false, false] rfl rfl (by kernel_rfl) (fun _ _ _ h => h) (Or.inl ⟨by rfl, ?_⟩) hHeld ?_ ?_
        rotate_left
        · rintro w' ⟨s0, s1, s2, s3, s4, s5, s6, s7, s8, s9, s10, s11, s12⟩
          go_simp
          with_reducible rfl
        rotate_left
        · simp only [Act.put, List.setIfInBounds_toArray, List.set_cons_zero, List.set_cons_succ, i64_w, i32_w]
          rfl
        refine take_ (i := 7) (N := some 71) (v := ?_) (a' := ?_) #[true, true, true, true, true, true, true, true, true, false, false, false, false, false] rfl rfl (by kernel_rfl) (fun _ _ _ h => h) (Or.inl ⟨by rfl, ?_⟩) hHeld ?_ ?_
        rotate_left
        · rintro w' ⟨s0, s1, s2, s3, s4, s5, s6, s7, s8, s9, s10, s11, s12⟩
          go_simp
          with_reducible rfl
        rotate_left
        · simp only [Act.put, List.setIfInBounds_toArray, List.set_cons_zero, List.set_cons_succ, i64_w, i32_w]
          rfl
        refine pure_ (i := 9) (N := some 73) (v := ?_) (a' := ?_) #[true, true, true, true, true, true, true, true, true, true, false, false, false, false] rfl rfl (by kernel_rfl) (fun _ _ _ h => h) (Or.inl ⟨by rfl, ?_⟩) ?_ ?_
        rotate_left
        · intro w'
          go_simp
          with_reducible rfl
        rotate_left
        · simp only [Act.put, List.setIfInBounds_toArray, List.set_cons_zero, List.set_cons_succ, i64_w, i32_w]
          rfl
        refine take_ (i := 10) (N := some 74) (v := ?_) (a' := ?_) #[true, true, true, true, true, true, true, true, true, true, true, false, false, false] rfl rfl (by kernel_rfl) (fun _ _ _ h => h) (Or.inl ⟨by rfl, ?_⟩) hHeld ?_ ?_
        rotate_left
        · rintro w' ⟨s0, s1, s2, s3, s4, s5, s6, s7, s8, s9, s10, s11, s12⟩
          go_simp
          with_reducible rfl
        rotate_left
        · simp only [Act.put, List.setIfInBounds_toArray, List.set_cons_zero, List.set_cons_succ, i64_w, i32_w]
          rfl
        refine one_ (i := 11) (N := some 75) #[true, true, true, true, true, true, true, true, true, true, true, true, false, false] rfl rfl (by kernel_rfl) (by decide) (fun K hK => ?_)
        refine goes_ Tryz.func18 (by kernel_rfl) rfl #[cellsS y E3 d3 E4 d4] (by rfl) rfl rfl (by simp only [List.map_toArray, List.map_cons, List.map_nil]; rfl) ?_
        with_reducible refine (FitC.use (HC.out wr.drew (below_drew1 HBWR.out)) E3 d3 E4 d4 R3.out.1 (Kd.C_below R3.out.2 (below_drew1 HBWR.out)) R4.out.1 (Kd.C_below R4.out.2 (below_drew1 HBWR.out))).mono ?_
        rintro e w3 ⟨z, r, rfl, hz, hq, hd, hb3⟩
        refine ⟨_, rfl, ?_⟩
        unfold RV.val
        have hc3 : Below wr.heap.size wr w3 := below_un hb3
        have HC3 := Aside0.mk hc3
        have HK3 : Aside0 (Below (w.heap.size + 4) wr w3) := ⟨hc3.mono HSR.out⟩
        have HZ := Aside0.mk hz
        have HQ := Lib.hid hq
        have HD := Aside0.mk (hd.imp (fun k hk hk2 => show wr.heap.size ≤ k from hk))
        have KC3 := Aside0.mk (Kd.C_below HF.out.kC hc3)
        have VC3 := Aside0.mk (Kd.C_below HF.out.vC hc3)
        clear hb3 hc3 hd hz hq
        refine hK.out _ _ ⟨(HK3.out.cell (p := ⟨w.heap.size + 3, 0, none⟩) lt4).trans m0, (HK3.out.cell (p := ⟨w.heap.size + 3, 1, none⟩) lt4).trans m1, (HK3.out.cell (p := ⟨w.heap.size + 3, 2, none⟩) lt4).trans m2, (HK3.out.cell (p := ⟨w.heap.size + 3, 3, none⟩) lt4).trans m3, (HK3.out.cell (p := ⟨w.heap.size + 3, 4, none⟩) lt4).trans m4, (HK3.out.cell (p := ⟨w.heap.size, 3, none⟩) lt4a).trans hx3, (HK3.out.cell (p := ⟨w.heap.size, 4, none⟩) lt4a).trans hx4, (HK3.out.cell (p := (adk.add i)) (lt4e EK.out)).trans hk0, (HK3.out.cell (p := (ade.add (i * 5))) (lt4e EL.out)).trans he0, (HK3.out.cell (p := ⟨(ade.add (i * 5)).block, (ade.add (i * 5)).off + 1, none⟩) (lt4e EL.out)).trans he1, (HK3.out.cell (p := ⟨(ade.add (i * 5)).block, (ade.add (i * 5)).off + 2, none⟩) (lt4e EL.out)).trans he2, (HK3.out.cell (p := ⟨(ade.add (i * 5)).block, (ade.add (i * 5)).off + 3, none⟩) (lt4e EL.out)).trans he3, (HK3.out.cell (p := ⟨(ade.add (i * 5)).block, (ade.add (i * 5)).off + 4, none⟩) (lt4e EL.out)).trans he4⟩ (fun hHeld => ?_)
        clear hK K
        refine norm_ (a' := ?_) ?_ ?_
        rotate_left
        · show Act.put _ (some 75) _ = _
          simp only [Act.put, List.setIfInBounds_toArray, List.set_cons_zero, List.set_cons_succ, i64_w, i32_w]
          rfl
        refine one_ (i := 12) (N := some 76) #[true, true, true, true, true, true, true, true, true, true, true, true, true, false] rfl rfl (by kernel_rfl) (by decide) (fun K hK => ?_)
        refine goes_ Tryz.func22 (by kernel_rfl) rfl #[.agg #[.int .i64 5, .int .i64 0, .string ⟨#[]⟩, .slice A ks.length c, .slice A' rs.length c'], .string key, .agg #[.int .i64 r.n0, .int .i64 r.n1, .string r.t, .slice r.A r.an r.ac, .slice r.B r.bn r.bc]] (by rfl) rfl rfl (by simp only [List.map_toArray, List.map_cons, List.map_nil]; rfl) ?_
        with_reducible refine (spec_WithR 5 0 ⟨#[]⟩ key ks rs r A c A' c' w3 KC3.out VC3.out HKB.out HF.out.len).mono ?_
        rintro e w4 ⟨A5, c5, A6, c6, rfl, hd3, hD3, hd4, hD4, hg3, hg4, hb4⟩
        refine ⟨_, rfl, ?_⟩
        have HB4 := Aside0.mk hb4
        have HD3 := Aside0.mk (And.intro hd3 hD3)
        have HD4 := Aside0.mk (And.intro hd4 hD4)
        have HG := Aside0.mk (And.intro hg3 hg4)
        have HK4 : Aside0 (Below (w.heap.size + 4) wr w4) := ⟨HK3.out.trans (hb4.mono (Nat.le_trans HSR.out HC3.out.size))⟩
        clear hb4 hd3 hD3 hd4 hD4 hg3 hg4
        refine hK.out _ _ ⟨(HK4.out.cell (p := ⟨w.heap.size + 3, 0, none⟩) lt4).trans m0, (HK4.out.cell (p := ⟨w.heap.size + 3, 1, none⟩) lt4).trans m1, (HK4.out.cell (p := ⟨w.heap.size + 3, 2, none⟩) lt4).trans m2, (HK4.out.cell (p := ⟨w.heap.size + 3, 3, none⟩) lt4).trans m3, (HK4.out.cell (p := ⟨w.heap.size + 3, 4, none⟩) lt4).trans m4, (HK4.out.cell (p := ⟨w.heap.size, 3, none⟩) lt4a).trans hx3, (HK4.out.cell (p := ⟨w.heap.size, 4, none⟩) lt4a).trans hx4, (HK4.out.cell (p := (adk.add i)) (lt4e EK.out)).trans hk0, (HK4.out.cell (p := (ade.add (i * 5))) (lt4e EL.out)).trans he0, (HK4.out.cell (p := ⟨(ade.add (i * 5)).block, (ade.add (i * 5)).off + 1, none⟩) (lt4e EL.out)).trans he1, (HK4.out.cell (p := ⟨(ade.add (i * 5)).block, (ade.add (i * 5)).off + 2, none⟩) (lt4e EL.out)).trans he2, (HK4.out.cell (p := ⟨(ade.add (i * 5)).block, (ade.add (i * 5)).off + 3, none⟩) (lt4e EL.out)).trans he3, (HK4.out.cell (p := ⟨(ade.add (i * 5)).block, (ade.add (i * 5)).off + 4, none⟩) (lt4e EL.out)).trans he4⟩ (fun hHeld => ?_)
        clear hK K
        refine norm_ (a' := ?_) ?_ ?_
        rotate_left
        · show Act.put _ (some 76) _ = _
          simp only [Act.put, List.setIfInBounds_toArray, List.set_cons_zero, List.set_cons_succ, i64_w, i32_w]
          rfl
        refine last_ (i := 13) (N := none) #[true, true, true, true, true, true, true, true, true, true, true, true, true, true] rfl rfl (by kernel_rfl) (by decide) (fun K hK => ?_)
        refine store_step (cur := #[.int .i64 5, .int .i64 0, .string ⟨#[]⟩, .slice A ks.length c, .slice A' rs.length c']) (e := 26) (g := w.heap.size + 3) 26 _ _ (.agg #[.int .i64 5, .int .i64 0, .string ⟨#[]⟩, .slice A5 (withKs key ks).length c5, .slice A6 (withVs key ks rs r).length c6]) [.int .i64 5, .int .i64 0, .string ⟨#[]⟩, .slice A5 (withKs key ks).length c5, .slice A6 (withVs key ks rs r).length c6] (by rfl) rfl rfl rfl rfl ((HK4.out.block (w.heap.size + 3) (Nat.lt_succ_self _)).trans HF.out.box) rfl (show (Tryz.prog.info? 26).map (·.size) = some 5 by kernel_rfl) rfl (by simp [Value.oneCell']) ?_
        intro w7 h7 hg7
        have H7 := Aside0.mk h7
        have HG7 := Aside0.mk hg7
        clear h7 hg7
        refine hK.out _ _ ?_
        clear hK K
        refine done_ (by kernel_rfl) ?_
        
        go_wp2
        go_roundw
        case rel =>
          have hs3 : wr.heap.size ≤ w3.heap.size := HC3.out.size
          have hs4 : w3.heap.size ≤ w4.heap.size := HB4.out.size
          have hs7 : w4.heap.size ≤ w7.heap.size := HG7.out.size
          have hsr := HSR.out
          have hf3 : Fr (w.heap.size + 4) A5 := HG.out.1.lower (Nat.le_trans hsr hs3)
          have hf4 : Fr (w.heap.size + 4) A6 := HG.out.2.lower (Nat.le_trans hsr hs3)
          have hmv : ∀ k, w.heap.size + 4 ≤ k → k < w4.heap.size → w7.heap[k]? = w4.heap[k]? := fun k hk hlt' => HG7.out.block k hlt' (fun e => by injection e with e; omega)
          have hd3 : All2 (DeepP (fun k => w.heap.size + 4 ≤ k) w7) (withL key ks ys z) (withL key ks rs r) := by
            have h1 : All2 (DeepP (fun k => w.heap.size + 4 ≤ k) w3) (withL key ks ys z) (withL key ks rs r) := All2.withL key ks (HF.out.deep.imp (fun _ _ h => h.below_ HC3.out)) (HD.out.imp (fun k hk _ => Nat.le_trans hsr hk))
            exact h1.imp (fun _ _ h => (h.below_ HB4.out).kept (fun k hk hlt' => hmv k hk hlt'))
          refine ⟨i + 1, withKs key ks, withL key ks ys z, withVs key ks rs r, A5, c5, A6, c6, hlt, by go_num, Lib.hid (Nat.le_trans (withKs_len _ _) (Nat.succ_le_succ HKL.out)), ⟨H7.out, withVs_len _ _ _ _ HF.out.len, HD3.out.1, kd_move HD3.out.2 (fun _ _ q => q) (fun ad e hlt' => hmv _ (hf3 ad e) hlt'), HD4.out.1, kd_move HD4.out.2 (fun _ _ q => q) (fun ad e hlt' => hmv _ (hf4 ad e) hlt'), hf3, hf4, withKs_asc HF.out.asc, hd3, ?_, ?_, ?_, ?_⟩⟩
          · intro q hq
            rcases withL_mem hq with h | h
            · rw [h]; exact HZ.out
            · exact HF.out.fine q h
          · rw [HKM.out, HYM.out]
            have h1 := HF.out.cnt
            have h2 := HQ.out
            have h3 := ksum_with key ks
            have h4 := wsum_with key ks ys z
            exact sum4 h1 h2 h3 h4
          · exact (HF.out.bel.trans (HK4.out.mono (Nat.le_succ _))).grown HG7.out (Nat.le_trans (Nat.le_trans (Nat.le_succ _) hsr) HK4.out.size) (fun k e => by injection e with e; omega)
          · exact Nat.le_trans hsr (Nat.le_trans hs3 (Nat.le_trans hs4 hs7))
        case measure => first | exact msF hlt | (rw [wk]; exact msF hlt)
      · have hr1 : wr.heap[w.heap.size + 1]? = some (.cells zV 26 (0, 0)) := (HF.out.bel.block (w.heap.size + 1) (by omega)).trans HRE1.out
        have n0 : wr.cell? ⟨w.heap.size + 1, 0, none⟩ = some (.int .i64 0) := (blk_cell hr1 0).trans rfl
        have n1 : wr.cell? ⟨w.heap.size + 1, 1, none⟩ = some (.int .i64 0) := (blk_cell hr1 1).trans rfl
        have n2 : wr.cell? ⟨w.heap.size + 1, 2, none⟩ = some (.string ⟨#[]⟩) := (blk_cell hr1 2).trans rfl
        have n3 : wr.cell? ⟨w.heap.size + 1, 3, none⟩ = some (.slice none 0 0) := (blk_cell hr1 3).trans rfl
        have n4 : wr.cell? ⟨w.heap.size + 1, 4, none⟩ = some (.slice none 0 0) := (blk_cell hr1 4).trans rfl
        have f0 := blk_frozen hr1 0
        have f1 := blk_frozen hr1 1
        have f2 := blk_frozen hr1 2
        have f3 := blk_frozen hr1 3
        have f4 := blk_frozen hr1 4
        clear hr1
        have fin : Below w.heap.size w wr := HB1.out.trans (HF.out.bel.mono (Nat.le_add_right _ 3))
        have FIN := Aside0.mk fin
        have DONE : Aside0 (FitSays x w (.returned (.agg #[.int .i64 5, .int .i64 0, .string ⟨#[]⟩, .slice A ks.length c, .slice A' rs.length c'])) (((((wr.setCell ⟨w.heap.size + 1, 0, none⟩ (.int .i64 5)).setCell ⟨w.heap.size + 1, 1, none⟩ (.int .i64 0)).setCell ⟨w.heap.size + 1, 2, none⟩ (.string ⟨#[]⟩)).setCell ⟨w.heap.size + 1, 3, none⟩ (.slice A ks.length c)).setCell ⟨w.heap.size + 1, 4, none⟩ (.slice A' rs.length c'))) := by
          have hbf := below5 FIN.out (w.heap.size + 1) (Nat.le_succ _) (.int .i64 5) (.int .i64 0) (.string ⟨#[]⟩) (.slice A ks.length c) (.slice A' rs.length c')
          have hfar : ∀ k, k ≠ w.heap.size + 1 → (((((wr.setCell ⟨w.heap.size + 1, 0, none⟩ (.int .i64 5)).setCell ⟨w.heap.size + 1, 1, none⟩ (.int .i64 0)).setCell ⟨w.heap.size + 1, 2, none⟩ (.string ⟨#[]⟩)).setCell ⟨w.heap.size + 1, 3, none⟩ (.slice A ks.length c)).setCell ⟨w.heap.size + 1, 4, none⟩ (.slice A' rs.length c')).heap[k]? = wr.heap[k]? := fun k hk => by
            repeat rw [Below.heap_setCell _ _ _ _ hk]
          have hlen := HF.out.deep.1
          refine ⟨⟨⟨5, 0, be, ks, ys⟩, ⟨5, 0, be, A, ks.length, c, A', rs.length, c'⟩, rfl, .map HF.out.asc (by rw [hlen]; exact HF.out.len) (by rw [hlen, HF.out.len]; exact Nat.le_trans HKL.out (Nat.le_trans hi HBK.out)) (fun j hj => HF.out.fine _ (List.getElem_mem hj)), wt_map HF.out.cnt, ?_, hbf⟩⟩
          refine .mk (rs := rs) rfl rfl rfl rfl HF.out.kc (kd_move HF.out.kC (fun _ _ q => q) (fun ad e _ => hfar _ (by have := HF.out.kf ad e; omega))) (fun _ ad e => by have := HF.out.kf ad e; omega) hlen.symm HF.out.vc hlen.symm (kd_move HF.out.vC (fun _ _ q => q) (fun ad e _ => hfar _ (by have := HF.out.vf ad e; omega))) (fun _ ad e => by have := HF.out.vf ad e; omega) (fun j q1 q2 => ?_)
          exact ((HF.out.deep.2 j q1 q2).kept (fun k hk _ => hfar k (by omega))).imp (fun k hk _ => by omega)
        clear fin
        by_cases hlt : i < nk
        · have j1 : (i : Int) < (nk : Int) := Int.ofNat_lt.2 hlt
          have j2 : ¬ (i : Int) < (n : Int) := fun h => hgo ⟨hlt, Int.ofNat_lt.1 h⟩
          clear hgo
          go_wp2
          refine bodyPost_ret (v := .agg #[.int .i64 5, .int .i64 0, .string ⟨#[]⟩, .slice A ks.length c, .slice A' rs.length c']) (by simp [results, Tryz.results18, go_sem, *]) rfl ?_
          exact DONE.out
        · have j1 : ¬ (i : Int) < (nk : Int) := fun h => hlt (Int.ofNat_lt.1 h)
          clear hgo
          go_wp2
          refine bodyPost_ret (v := .agg #[.int .i64 5, .int .i64 0, .string ⟨#[]⟩, .slice A ks.length c, .slice A' rs.length c']) (by simp [results, Tryz.results18, go_sem, *]) rfl ?_
          exact DONE.out
theorem spec_Fit {x : SV} (h : Bnd x) : ∀ w, FitC x w := by
  induction h with
  | @mk x h3 h4 he ih =>
    intro w
    by_cases c4 : x.f0 = 4
    · exact fit_list x c4 (.mk h3 h4 he) w (fun i hi W _ => ih i hi W)
    · by_cases c5 : x.f0 = 5
      · exact fit_map x c5 (.mk h3 h4 he) w (fun i hi W _ => ih i hi W)
      · exact fit_flat x ⟨c4, c5⟩ w
end Go.Proofs.YtiamiagjkfioiaaGreatDoor.A
