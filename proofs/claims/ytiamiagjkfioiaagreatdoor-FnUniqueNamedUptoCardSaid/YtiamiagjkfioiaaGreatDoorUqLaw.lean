/- The walk of the law on unique entries of an environment (printed by gen_uqlaw.py). -/
import Derived.Test.YtiamiagjkfioiaaGreatDoorUqN
import Derived.Test.YtiamiagjkfioiaaGreatDoorUni
namespace Go.Proofs.YtiamiagjkfioiaaGreatDoor.A
set_option linter.unusedVariables false
set_option linter.unusedSimpArgs false
set_option linter.unusedSectionVars false
open Go.RowKit Go.Proofs.YtiamiagjkfioiaaGreatDoorW.PrintWords Go.Proofs.YtiamiagjkfioiaaGreatDoorW.PrintLast Go.Proofs.YtiamiagjkfioiaaGreatDoorW.PrintMore Go.Proofs.YtiamiagjkfioiaaGreatDoor.PT Go.Proofs.YtiamiagjkfioiaaGreatDoor.L Go.Proofs.YtiamiagjkfioiaaGreatDoor.SM

theorem texts_made (l : List ByteArray) (hl : l.length ≤ 1048576) {A0 : Option Addr} {c0 : Nat} {w : World} (hC : Kd.C Kd.string w A0 l.length l) (hc : l.length ≤ c0) :
    Calls Tryz.prog 10 #[.slice A0 l.length c0] w fun e w' => (∃ r : RV, e = .returned r.val ∧ DeepP (fun _ => True) w' (textsS l) r) ∧ Below w.heap.size w w' := by
  obtain ⟨K, hK⟩ := (textsF l hl).get
  refine (spec_Texts.calls K A0 c0 l 4 0 be [] (l.map tS) w hC hc hK).mono ?_
  rintro e w' ⟨v3, v4, rfl, h3, h4, hb⟩
  obtain ⟨A3, c3, rfl, g3, k3⟩ := Kd.R_reads h3
  obtain ⟨A4, c4, rfl, g4, k4⟩ := Kd.R_reads h4
  obtain ⟨r, hr, hd⟩ := deep_of_made _ (textsS l) (Nat.le_refl _) (w := w') (v := .agg #[.int .i64 4, .int .i64 0, .string be, .slice A3 ([] : List ByteArray).length c3, .slice A4 (l.map tS).length c4]) ⟨A3, c3, A4, c4, rfl, g3, k3, g4, k4⟩
  exact ⟨⟨r, by rw [hr], hd.imp (fun _ _ _ => trivial)⟩, hb⟩
theorem uniq_made (l : List ByteArray) (hl : l.length ≤ 1048576) (hs : ∀ s ∈ l, s.size ≤ 1099511627776) {A0 : Option Addr} {c0 : Nat} {w : World} (hC : Kd.C Kd.string w A0 l.length l) (hc : l.length ≤ c0) :
    Calls Tryz.prog 12 #[.slice A0 l.length c0] w fun e w' => (∃ A c, e = .returned (.slice A (uniqL l).length c) ∧ (uniqL l).length ≤ c ∧ Kd.C Kd.string w' A (uniqL l).length (uniqL l)) ∧ Below w.heap.size w w' := by
  obtain ⟨K, hK⟩ := (uniqF l hl hs).get
  refine (spec_UniqueNamed.calls K A0 c0 l (uniqL l) w hC hc hK).mono ?_
  rintro e w' ⟨v, rfl, h3, hb⟩
  obtain ⟨A3, c3, rfl, g3, k3⟩ := Kd.R_reads h3
  exact ⟨⟨A3, c3, rfl, g3, k3⟩, hb⟩
theorem fits2_made (l : List ByteArray) {A0 : Option Addr} {c0 : Nat} {w : World} (hC : Kd.C Kd.string w A0 l.length l) (hc : l.length ≤ c0) :
    Calls Tryz.prog 7 #[.slice A0 l.length c0] w fun e w' => (∃ b, e = .returned (.bool b)) ∧ Below w.heap.size w w' := by
  have h2 : ∃ r, laws_zzFits2.f (l.length + 1) l = some r := by
    unfold laws_zzFits2.f
    by_cases h : (l.length : Int) > 2147483647
    · exact ⟨_, if_pos h⟩
    · rw [if_neg h]
      exact fits2_loop l (by omega) l.length 0 (by omega)
  obtain ⟨r, hr⟩ := h2
  refine (laws_zzFits2.calls _ A0 c0 l r w hC hc hr).mono ?_
  rintro e w' ⟨rfl, hb⟩
  exact ⟨⟨r, rfl⟩, hb.below⟩
theorem says_service (l : List ByteArray) (hl : l.length ≤ 1048576) (hs : ∀ s ∈ l, s.size ≤ 1099511627776) (W : World) (u : Value) (hu : MadeS (oneS kEnvi (textsS l)) W u) :
    Calls Tryz.prog 29 #[u] W fun e w' => (∃ b, e = .returned (.bool b)) ∧ Below W.heap.size W w' := by
  obtain ⟨r, rfl, hd⟩ := deep_of_made _ _ (Nat.le_refl _) hu
  refine spec_SaysService hd (Nat.le_refl 1) (show 1 ≤ _ by omega) (fun i h3 h4 W u hu => ?_)
  have hi : i < 1 := h3
  have : i = 0 := by omega
  subst this
  exact spec_sayAttr l hl hs hu
/-- the model of one environment -/
def eS (l : List ByteArray) : SV := oneS kServ (oneS kS1 (oneS kEnvi (textsS l)))
def eI (l : List ByteArray) : IV := oneI kServ (oneI kS1 (oneI kEnvi (textsI l)))
theorem eS_fine {l : List ByteArray} (h : l.length ≤ 1048576) : FineS (eS l) := fineS_one (fineS_one (fineS_one (fineS_texts (by omega))))
theorem toI_one (k : ByteArray) (x : SV) : toI (oneS k x) = oneI k (toI x) := by rw [toI_eq]; rfl
theorem toI_texts (l : List ByteArray) : toI (textsS l) = textsI l := by
  rw [toI_eq]
  unfold textsI textsS
  simp only [List.map_map]
  congr 1
  apply List.map_congr_left
  intro s _
  show toI (tS s) = tIx s
  rw [toI_eq]; rfl
theorem toI_eS (l : List ByteArray) : toI (eS l) = eI l := by unfold eS eI; rw [toI_one, toI_one, toI_one, toI_texts]
abbrev pSS : ByteArray := ⟨#[115, 101, 114, 118, 105, 99, 101, 115, 46, 115]⟩
theorem n1_ : nextP be kServ = kServ := by kernel_rfl
theorem n2_ : nextP kServ kS1 = pSS := by kernel_rfl
theorem n3_ : nextP pSS kEnvi = pEnv := by kernel_rfl
theorem eu_all (l : List ByteArray) (hl : l.length ≤ 1048576) (hs : ∀ s ∈ l, s.size ≤ 2147483647) : EU be (eI l) (eI (uniqL l)) := by
  have hf : Fine (textsI (uniqL l)) := by
    have := (fineS_texts (ss := uniqL l) (by have := uniqL_len l; omega)).isI.2
    rwa [toI_texts] at this
  refine eu_one (fine_one (fine_one hf)) (by decide) (by decide) ?_
  rw [n1_]
  refine eu_one (fine_one hf) (by decide) (by decide) ?_
  rw [n2_]
  refine eu_one hf (by decide) (by decide) ?_
  rw [n3_]
  exact eu_list l hl hs
set_option maxHeartbeats 16000000 in
set_option maxRecDepth 100000 in
theorem law_UniqueNamed (l : List ByteArray) (A0 : Option Addr) (c0 : Nat) {w : World} (hC : Kd.C Kd.string w A0 l.length l) (hc : l.length ≤ c0) (hl : l.length ≤ 1048576) (hs : ∀ s ∈ l, s.size ≤ 1048576) (ht : Tab w) :
    Calls Tryz.prog 3 #[.slice A0 l.length c0] w fun e w' => e = .returned (.bool true) ∧ Below w.heap.size w w' := by
  have hlu : (uniqL l).length ≤ 1048576 := by have := uniqL_len l; omega
  have HFI := Lib.hid (fun (W : World) (hW : Below w.heap.size w W) => fits2_made l (Kd.C_below hC hW) hc)
  have HTX := Lib.hid (fun (W : World) (hW : Below w.heap.size w W) => texts_made l hl (Kd.C_below hC hW) hc)
  have HUQ := Lib.hid (fun (W : World) (hW : Below w.heap.size w W) => uniq_made l hl (fun s h => Nat.le_trans (hs s h) (by decide)) (Kd.C_below hC hW) hc)
  have HTU := Lib.hid (fun (W : World) (A : Option Addr) (c : Nat) (h : Kd.C Kd.string W A (uniqL l).length (uniqL l)) (h2 : (uniqL l).length ≤ c) => texts_made (uniqL l) hlu h h2)
  have HSV := Lib.hid (says_service l hl (fun s h => Nat.le_trans (hs s h) (by decide)))
  have HEU := Lib.hid (eu_all l hl (fun s h => Nat.le_trans (hs s h) (by decide)))
  have HF1 := Lib.hid (eS_fine hl)
  have HF2 := Lib.hid (eS_fine hlu)
  have HTB := Lib.hid ht
  have HB := Aside0.mk (Below.refl w.heap.size w)
  clear hC hc hl hs ht hlu
  go_enter Tryz.func3, Tryz.ntmps3
  go_wp2_with fail
  refine (HFI.out w HB.out).mono ?_
  rintro e w1 ⟨⟨rr, rfl⟩, hb1⟩
  have HB1 := Aside0.mk hb1
  clear hb1
  cases rr with
  | false =>
    go_wp2
    go_ret
    exact ⟨rfl, HB1.out⟩
  | true =>
  go_wp2_with fail
  refine (HTX.out w1 HB1.out).mono ?_
  rintro e w2 ⟨⟨r2, rfl, hd2⟩, hb2⟩
  have HD2 := Aside0.mk hd2
  have HB2 := Aside0.mk (below_then HB1.out HB1.out.size hb2)
  clear hd2 hb2
  unfold RV.val
  go_wp2_with fail
  obtain ⟨W3, hW3⟩ : ∃ W3 : World, W3 = w2.alloc (Obj.cells #[.iface 9 (.string kEnvi), .iface 26 (.agg #[.int .i64 r2.n0, .int .i64 r2.n1, .string r2.t, .slice r2.A r2.an r2.ac, .slice r2.B r2.bn r2.bc])] 20) := ⟨_, rfl⟩
  have hb3 : Below w2.heap.size w2 W3 := by rw [hW3]; exact (Below.refl _ _).alloc (Nat.le_refl _) _
  have hg3 : W3.heap[w2.heap.size]? = some (.cells #[.iface 9 (.string kEnvi), .iface 26 (.agg #[.int .i64 r2.n0, .int .i64 r2.n1, .string r2.t, .slice r2.A r2.an r2.ac, .slice r2.B r2.bn r2.bc])] 20 (0, 0)) := by rw [hW3]; exact new_atI rfl
  have HM3 := Lib.hid (M_one (k := kEnvi) (HD2.out.below_ hb3) (fun _ _ => trivial) ⟨w2.heap.size, 0, none⟩ ((blk_cell hg3 0).trans rfl) ((blk_cell hg3 1).trans rfl))
  have HB3 := Aside0.mk (below_then HB2.out HB2.out.size hb3)
  have HW3 := Lib.hid hW3
  clear hb3 hg3 hW3
  rw [← HW3.out]
  refine HM3.out.mono ?_
  rintro e w4 ⟨⟨r4, rfl, hd4⟩, hb4⟩
  have HMO4 := Lib.hid (laws_mergeOne hd4 (fun _ _ => trivial))
  have HB4 := Aside0.mk (below_then HB3.out HB3.out.size hb4)
  clear hd4 hb4
  unfold RV.val
  go_wp2_with fail
  refine HMO4.out.mono ?_
  rintro e w5 ⟨⟨r5, rfl, hd5⟩, hb5⟩
  have HB5 := Aside0.mk (below_then HB4.out HB4.out.size hb5)
  obtain ⟨W6, hW6⟩ : ∃ W6 : World, W6 = w5.alloc (Obj.cells #[.int .i64 r5.n0, .int .i64 r5.n1, .string r5.t, .slice r5.A r5.an r5.ac, .slice r5.B r5.bn r5.bc] 26) := ⟨_, rfl⟩
  obtain ⟨g6, hg6⟩ : ∃ g6, g6 = w5.heap.size := ⟨_, rfl⟩
  have hb6 : Below w5.heap.size w5 W6 := by rw [hW6]; exact (Below.refl _ _).alloc (Nat.le_refl _) _
  have HX6 : Aside0 (W6.heap[g6]? = some (.cells #[.int .i64 r5.n0, .int .i64 r5.n1, .string r5.t, .slice r5.A r5.an r5.ac, .slice r5.B r5.bn r5.bc] 26 (0, 0))) := ⟨by rw [hW6, hg6]; exact new_atI rfl⟩
  have HD6 := Aside0.mk (hd5.below_ hb6)
  have HB6 := Aside0.mk (below_then HB5.out HB5.out.size hb6)
  have HW6 := Lib.hid hW6
  have HG6 := Lib.hid hg6
  clear hd5 hb5 hb6 hW6 hg6
  unfold RV.val
  go_upto_region 4 with fail
  rw [← HW6.out, ← HG6.out]
  have x0 : W6.cell? ⟨g6, 0, none⟩ = some (.int .i64 r5.n0) := (blk_cell HX6.out 0).trans rfl
  have x1 : W6.cell? ⟨g6, 1, none⟩ = some (.int .i64 r5.n1) := (blk_cell HX6.out 1).trans rfl
  have x2 : W6.cell? ⟨g6, 2, none⟩ = some (.string r5.t) := (blk_cell HX6.out 2).trans rfl
  have x3 : W6.cell? ⟨g6, 3, none⟩ = some (.slice r5.A r5.an r5.ac) := (blk_cell HX6.out 3).trans rfl
  have x4 : W6.cell? ⟨g6, 4, none⟩ = some (.slice r5.B r5.bn r5.bc) := (blk_cell HX6.out 4).trans rfl
  go_wp2_with fail
  refine (spec_Says1 HD6.out HSV.out).mono ?_
  clear x0 x1 x2 x3 x4
  rintro e w7 ⟨⟨rr, rfl⟩, hb7⟩
  have HB7 := Aside0.mk (below_then HB6.out HB6.out.size hb7)
  have HX7 := Aside0.mk (blk_below HX6.out hb7)
  have HD7 := Aside0.mk (HD6.out.below_ hb7)
  clear hb7
  cases rr with
  | false =>
    go_wp2
    go_ret
    exact ⟨rfl, HB7.out⟩
  | true =>
  go_wp2_with fail
  refine (HUQ.out w7 HB7.out).mono ?_
  rintro e w8 ⟨⟨B0, d0, rfl, k2, k1⟩, hb8⟩
  have HTU8 := Lib.hid (HTU.out w8 B0 d0 k1 k2)
  have HR8 := Aside0.mk hb8
  have HB8 := Aside0.mk (below_then HB7.out HB7.out.size hb8)
  clear hb8 k1 k2
  go_wp2_with fail
  refine HTU8.out.mono ?_
  rintro e w9 ⟨⟨r9, rfl, hd9⟩, hb9⟩
  have HD9 := Aside0.mk hd9
  have HB9 := Aside0.mk (below_then HB8.out HB8.out.size hb9)
  have HR9 := Aside0.mk (below_then HR8.out HR8.out.size hb9)
  clear hd9 hb9
  unfold RV.val
  go_wp2_with fail
  obtain ⟨W10, hW10⟩ : ∃ W10 : World, W10 = w9.alloc (Obj.cells #[.iface 9 (.string kEnvi), .iface 26 (.agg #[.int .i64 r9.n0, .int .i64 r9.n1, .string r9.t, .slice r9.A r9.an r9.ac, .slice r9.B r9.bn r9.bc])] 20) := ⟨_, rfl⟩
  have hb10 : Below w9.heap.size w9 W10 := by rw [hW10]; exact (Below.refl _ _).alloc (Nat.le_refl _) _
  have hg10 : W10.heap[w9.heap.size]? = some (.cells #[.iface 9 (.string kEnvi), .iface 26 (.agg #[.int .i64 r9.n0, .int .i64 r9.n1, .string r9.t, .slice r9.A r9.an r9.ac, .slice r9.B r9.bn r9.bc])] 20 (0, 0)) := by rw [hW10]; exact new_atI rfl
  have HM10 := Lib.hid (M_one (k := kEnvi) (HD9.out.below_ hb10) (fun _ _ => trivial) ⟨w9.heap.size, 0, none⟩ ((blk_cell hg10 0).trans rfl) ((blk_cell hg10 1).trans rfl))
  have HB10 := Aside0.mk (below_then HB9.out HB9.out.size hb10)
  have HR10 := Aside0.mk (below_then HR9.out HR9.out.size hb10)
  have HW10 := Lib.hid hW10
  clear hb10 hg10 hW10
  rw [← HW10.out]
  refine HM10.out.mono ?_
  rintro e w11 ⟨⟨r11, rfl, hd11⟩, hb11⟩
  have HMO11 := Lib.hid (laws_mergeOne hd11 (fun _ _ => trivial))
  have HB11 := Aside0.mk (below_then HB10.out HB10.out.size hb11)
  have HR11 := Aside0.mk (below_then HR10.out HR10.out.size hb11)
  clear hd11 hb11
  unfold RV.val
  go_wp2_with fail
  refine HMO11.out.mono ?_
  rintro e w12 ⟨⟨r12, rfl, hd12⟩, hb12⟩
  have HB12 := Aside0.mk (below_then HB11.out HB11.out.size hb12)
  have HR12 := Aside0.mk (below_then HR11.out HR11.out.size hb12)
  obtain ⟨W13, hW13⟩ : ∃ W13 : World, W13 = w12.alloc (Obj.cells #[.int .i64 r12.n0, .int .i64 r12.n1, .string r12.t, .slice r12.A r12.an r12.ac, .slice r12.B r12.bn r12.bc] 26) := ⟨_, rfl⟩
  obtain ⟨g13, hg13⟩ : ∃ g13, g13 = w12.heap.size := ⟨_, rfl⟩
  have hb13 : Below w12.heap.size w12 W13 := by rw [hW13]; exact (Below.refl _ _).alloc (Nat.le_refl _) _
  have HX13 : Aside0 (W13.heap[g13]? = some (.cells #[.int .i64 r12.n0, .int .i64 r12.n1, .string r12.t, .slice r12.A r12.an r12.ac, .slice r12.B r12.bn r12.bc] 26 (0, 0))) := ⟨by rw [hW13, hg13]; exact new_atI rfl⟩
  have HD13 := Aside0.mk (hd12.below_ hb13)
  have HB13 := Aside0.mk (below_then HB12.out HB12.out.size hb13)
  have HR13 := Aside0.mk (below_then HR12.out HR12.out.size hb13)
  have HW13 := Lib.hid hW13
  have HG13 := Lib.hid hg13
  clear hd12 hb12 hb13 hW13 hg13
  unfold RV.val
  have hb713 : Below w7.heap.size w7 W13 := HR13.out
  have HX13a := Aside0.mk (blk_below HX7.out hb713)
  have HD13a := Aside0.mk (HD7.out.below_ hb713)
  clear hb713
  go_upto_region 7 with fail
  rw [← HW13.out, ← HG13.out]
  have x0 : W13.cell? ⟨g6, 0, none⟩ = some (.int .i64 r5.n0) := (blk_cell HX13a.out 0).trans rfl
  have x1 : W13.cell? ⟨g6, 1, none⟩ = some (.int .i64 r5.n1) := (blk_cell HX13a.out 1).trans rfl
  have x2 : W13.cell? ⟨g6, 2, none⟩ = some (.string r5.t) := (blk_cell HX13a.out 2).trans rfl
  have x3 : W13.cell? ⟨g6, 3, none⟩ = some (.slice r5.A r5.an r5.ac) := (blk_cell HX13a.out 3).trans rfl
  have x4 : W13.cell? ⟨g6, 4, none⟩ = some (.slice r5.B r5.bn r5.bc) := (blk_cell HX13a.out 4).trans rfl
  go_wp2_with fail
  refine (law_to HF1.out.isI.1 (w := W13) HD13a.out.parts).mono ?_
  clear x0 x1 x2 x3 x4
  rintro e w14 ⟨⟨u14, rfl, hu14⟩, hb14⟩
  have HB14 := Aside0.mk (below_then HB13.out HB13.out.size hb14)
  have HUN := Lib.hid (impl_Unicity HEU.out rfl (x := eI l) (by rw [← toI_eS]; exact HF1.out.isI.2) rfl (by rw [← toI_eS]; exact hu14) (HTB.out.on_ HB14.out))
  have HX14 := Aside0.mk (blk_below HX13.out hb14)
  have HD14 := Aside0.mk (HD13.out.below_ hb14)
  clear hu14 hb14
  go_wp2_with fail
  refine HUN.out.mono ?_
  rintro e w15 ⟨⟨E3, a3, E4, a4, rfl, hm15⟩, hb15⟩
  obtain ⟨W16, hW16⟩ : ∃ W16 : World, W16 = w15.alloc (Obj.cells #[.int .i64 (eI (uniqL l)).f0, .int .i64 (eI (uniqL l)).f1, .string (eI (uniqL l)).f2, .slice E3 (eI (uniqL l)).f3.length a3, .slice E4 (eI (uniqL l)).f4.length a4] 34) := ⟨_, rfl⟩
  obtain ⟨g16, hg16⟩ : ∃ g16, g16 = w15.heap.size := ⟨_, rfl⟩
  have hb16 : Below w15.heap.size w15 W16 := by rw [hW16]; exact (Below.refl _ _).alloc (Nat.le_refl _) _
  have hx16 : W16.heap[g16]? = some (.cells #[.int .i64 (eI (uniqL l)).f0, .int .i64 (eI (uniqL l)).f1, .string (eI (uniqL l)).f2, .slice E3 (eI (uniqL l)).f3.length a3, .slice E4 (eI (uniqL l)).f4.length a4] 34 (0, 0)) := by rw [hW16, hg16]; exact new_atI rfl
  have HB16 := Aside0.mk (below_then (below_then HB14.out HB14.out.size hb15) (below_then HB14.out HB14.out.size hb15).size hb16)
  have hx13 := blk_below (blk_below HX14.out hb15) hb16
  have HD16 : Aside0 (MadeS (eS (uniqL l)) W16 (.agg #[.int .i64 r12.n0, .int .i64 r12.n1, .string r12.t, .slice r12.A r12.an r12.ac, .slice r12.B r12.bn r12.bc])) := ⟨((HD14.out.below_ hb15).below_ hb16).parts⟩
  have HM16 : Aside0 (MadeI (toI (eS (uniqL l))) W16 (.agg #[.int .i64 (eI (uniqL l)).f0, .int .i64 (eI (uniqL l)).f1, .string (eI (uniqL l)).f2, .slice E3 (eI (uniqL l)).f3.length a3, .slice E4 (eI (uniqL l)).f4.length a4])) := ⟨by rw [toI_eS]; exact hm15 W16 (fun k _ hlt => hb16.block k hlt)⟩
  have HW16 := Lib.hid hW16
  have HG16 := Lib.hid hg16
  have p0 : W16.cell? ⟨g16, 0, none⟩ = some (.int .i64 (eI (uniqL l)).f0) := (blk_cell hx16 0).trans rfl
  have p1 : W16.cell? ⟨g16, 1, none⟩ = some (.int .i64 (eI (uniqL l)).f1) := (blk_cell hx16 1).trans rfl
  have p2 : W16.cell? ⟨g16, 2, none⟩ = some (.string (eI (uniqL l)).f2) := (blk_cell hx16 2).trans rfl
  have p3 : W16.cell? ⟨g16, 3, none⟩ = some (.slice E3 (eI (uniqL l)).f3.length a3) := (blk_cell hx16 3).trans rfl
  have p4 : W16.cell? ⟨g16, 4, none⟩ = some (.slice E4 (eI (uniqL l)).f4.length a4) := (blk_cell hx16 4).trans rfl
  have q0 : W16.cell? ⟨g13, 0, none⟩ = some (.int .i64 r12.n0) := (blk_cell hx13 0).trans rfl
  have q1 : W16.cell? ⟨g13, 1, none⟩ = some (.int .i64 r12.n1) := (blk_cell hx13 1).trans rfl
  have q2 : W16.cell? ⟨g13, 2, none⟩ = some (.string r12.t) := (blk_cell hx13 2).trans rfl
  have q3 : W16.cell? ⟨g13, 3, none⟩ = some (.slice r12.A r12.an r12.ac) := (blk_cell hx13 3).trans rfl
  have q4 : W16.cell? ⟨g13, 4, none⟩ = some (.slice r12.B r12.bn r12.bc) := (blk_cell hx13 4).trans rfl
  clear hm15 hb15 hb16 hW16 hg16 hx16 hx13
  unfold cellsI
  go_upto_region 8 with fail
  rw [← HW16.out, ← HG16.out]
  refine start_ (n := 8) (S := fun w' => w'.cell? ⟨g16, 0, none⟩ = some (.int .i64 (eI (uniqL l)).f0) ∧ w'.cell? ⟨g16, 1, none⟩ = some (.int .i64 (eI (uniqL l)).f1) ∧ w'.cell? ⟨g16, 2, none⟩ = some (.string (eI (uniqL l)).f2) ∧ w'.cell? ⟨g16, 3, none⟩ = some (.slice E3 (eI (uniqL l)).f3.length a3) ∧ w'.cell? ⟨g16, 4, none⟩ = some (.slice E4 (eI (uniqL l)).f4.length a4) ∧ w'.cell? ⟨g13, 0, none⟩ = some (.int .i64 r12.n0) ∧ w'.cell? ⟨g13, 1, none⟩ = some (.int .i64 r12.n1) ∧ w'.cell? ⟨g13, 2, none⟩ = some (.string r12.t) ∧ w'.cell? ⟨g13, 3, none⟩ = some (.slice r12.A r12.an r12.ac) ∧ w'.cell? ⟨g13, 4, none⟩ = some (.slice r12.B r12.bn r12.bc)) (ds := []) #[false, false, false, false, false, false, false, false] (by kernel_rfl) rfl rfl ⟨p0, p1, p2, p3, p4, q0, q1, q2, q3, q4⟩ (fun hHeld => ?_)
  refine pure_ (i := 0) (N := some 34) (v := ?_) (a' := ?_) #[true, false, false, false, false, false, false, false] rfl rfl (by kernel_rfl) (fun _ _ _ h => h) (Or.inl ⟨by rfl, ?_⟩) ?_ ?_
  rotate_left
  · intro w'
    go_simp
    with_reducible rfl
  rotate_left
  · simp only [Act.put, List.setIfInBounds_toArray, List.set_cons_zero, List.set_cons_succ, i64_w, i32_w]
    rfl
  refine pure_ (i := 1) (N := some 35) (v := ?_) (a' := ?_) #[true, true, false, false, false, false, false, false] rfl rfl (by kernel_rfl) (fun _ _ _ h => h) (Or.inl ⟨by rfl, ?_⟩) ?_ ?_
  rotate_left
  · intro w'
    go_simp
    with_reducible rfl
  rotate_left
  · simp only [Act.put, List.setIfInBounds_toArray, List.set_cons_zero, List.set_cons_succ, i64_w, i32_w]
    rfl
  refine take_ (i := 2) (N := some 36) (v := ?_) (a' := ?_) #[true, true, true, false, false, false, false, false] rfl rfl (by kernel_rfl) (fun _ _ _ h => h) (Or.inl ⟨by rfl, ?_⟩) hHeld ?_ ?_
  rotate_left
  · rintro w' ⟨s0, s1, s2, s3, s4, s5, s6, s7, s8, s9⟩
    go_simp
    with_reducible rfl
  rotate_left
  · simp only [Act.put, List.setIfInBounds_toArray, List.set_cons_zero, List.set_cons_succ, i64_w, i32_w]
    rfl
  refine take_ (i := 4) (N := some 38) (v := ?_) (a' := ?_) #[true, true, true, false, true, false, false, false] rfl rfl (by kernel_rfl) (fun _ _ _ h => h) (Or.inl ⟨by rfl, ?_⟩) hHeld ?_ ?_
  rotate_left
  · rintro w' ⟨s0, s1, s2, s3, s4, s5, s6, s7, s8, s9⟩
    go_simp
    with_reducible rfl
  rotate_left
  · simp only [Act.put, List.setIfInBounds_toArray, List.set_cons_zero, List.set_cons_succ, i64_w, i32_w]
    rfl
  refine one_ (i := 3) (N := some 37) #[true, true, true, true, true, false, false, false] rfl rfl (by kernel_rfl) (by decide) (fun K hK => ?_)
  refine goes_ Tryz.func16 (by kernel_rfl) rfl #[.agg #[.int .i64 (eI (uniqL l)).f0, .int .i64 (eI (uniqL l)).f1, .string (eI (uniqL l)).f2, .slice E3 (eI (uniqL l)).f3.length a3, .slice E4 (eI (uniqL l)).f4.length a4]] (by rfl) rfl rfl (by simp only [List.map_toArray, List.map_cons, List.map_nil]; rfl) ?_
  with_reducible refine (law_from HF2.out.isI.1 (w := W16.drew) (HM16.out.below_ (below_drew1 (Below.refl _ _)))).mono ?_
  rintro e w17 ⟨⟨u17, rfl, hu17⟩, hb17⟩
  refine ⟨_, rfl, ?_⟩
  have HU17 := Aside0.mk hu17
  have hc17 : Below W16.heap.size W16 w17 := below_un hb17
  have HC17 := Aside0.mk hc17
  clear hu17 hb17 hc17
  refine hK.out _ _ ⟨(HC17.out.cell (World.block_lt_of_cell? W16 _ p0)).trans p0, (HC17.out.cell (World.block_lt_of_cell? W16 _ p1)).trans p1, (HC17.out.cell (World.block_lt_of_cell? W16 _ p2)).trans p2, (HC17.out.cell (World.block_lt_of_cell? W16 _ p3)).trans p3, (HC17.out.cell (World.block_lt_of_cell? W16 _ p4)).trans p4, (HC17.out.cell (World.block_lt_of_cell? W16 _ q0)).trans q0, (HC17.out.cell (World.block_lt_of_cell? W16 _ q1)).trans q1, (HC17.out.cell (World.block_lt_of_cell? W16 _ q2)).trans q2, (HC17.out.cell (World.block_lt_of_cell? W16 _ q3)).trans q3, (HC17.out.cell (World.block_lt_of_cell? W16 _ q4)).trans q4⟩ (fun hHeld => ?_)
  clear hK K
  refine norm_ (a' := ?_) ?_ ?_
  rotate_left
  · show Act.put _ (some 37) _ = _
    simp only [Act.put, List.setIfInBounds_toArray, List.set_cons_zero, List.set_cons_succ, i64_w, i32_w]
    rfl
  refine one_ (i := 5) (N := some 39) #[true, true, true, true, true, true, false, false] rfl rfl (by kernel_rfl) (by decide) (fun K hK => ?_)
  refine goes_ Tryz.func15 (by kernel_rfl) rfl #[u17, .agg #[.int .i64 r12.n0, .int .i64 r12.n1, .string r12.t, .slice r12.A r12.an r12.ac, .slice r12.B r12.bn r12.bc]] (by rfl) rfl rfl (by simp only [List.map_toArray, List.map_cons, List.map_nil]; rfl) ?_
  with_reducible refine (law_same HF2.out.isI.1.bnd HU17.out (HD16.out.below_ HC17.out)).mono ?_
  rintro e w18 ⟨rfl, hb18⟩
  refine ⟨_, rfl, ?_⟩
  have HC18 := Aside0.mk (below_then HC17.out HC17.out.size hb18)
  clear hb18
  refine hK.out _ _ ⟨(HC18.out.cell (World.block_lt_of_cell? W16 _ p0)).trans p0, (HC18.out.cell (World.block_lt_of_cell? W16 _ p1)).trans p1, (HC18.out.cell (World.block_lt_of_cell? W16 _ p2)).trans p2, (HC18.out.cell (World.block_lt_of_cell? W16 _ p3)).trans p3, (HC18.out.cell (World.block_lt_of_cell? W16 _ p4)).trans p4, (HC18.out.cell (World.block_lt_of_cell? W16 _ q0)).trans q0, (HC18.out.cell (World.block_lt_of_cell? W16 _ q1)).trans q1, (HC18.out.cell (World.block_lt_of_cell? W16 _ q2)).trans q2, (HC18.out.cell (World.block_lt_of_cell? W16 _ q3)).trans q3, (HC18.out.cell (World.block_lt_of_cell? W16 _ q4)).trans q4⟩ (fun hHeld => ?_)
  clear hK K
  refine norm_ (a' := ?_) ?_ ?_
  rotate_left
  · show Act.put _ (some 39) _ = _
    simp only [Act.put, List.setIfInBounds_toArray, List.set_cons_zero, List.set_cons_succ, i64_w, i32_w]
    rfl
  refine pure_ (i := 6) (N := some 40) (v := ?_) (a' := ?_) #[true, true, true, true, true, true, true, false] rfl rfl (by kernel_rfl) (fun _ _ _ h => h) (Or.inl ⟨by rfl, ?_⟩) ?_ ?_
  rotate_left
  · intro w'
    go_simp
    with_reducible rfl
  rotate_left
  · simp only [Act.put, List.setIfInBounds_toArray, List.set_cons_zero, List.set_cons_succ, i64_w, i32_w]
    rfl
  refine pure_ (i := 7) (N := some 2) (v := ?_) (a' := ?_) #[true, true, true, true, true, true, true, true] rfl rfl (by kernel_rfl) (fun _ _ _ h => h) (Or.inl ⟨by rfl, ?_⟩) ?_ ?_
  rotate_left
  · intro w'
    go_simp
    with_reducible rfl
  rotate_left
  · simp only [Act.put, List.setIfInBounds_toArray, List.set_cons_zero, List.set_cons_succ, i64_w, i32_w]
    rfl
  refine done_ (by kernel_rfl) ?_
  
  go_wp2
  go_ret
  exact ⟨rfl, HB16.out.trans (HC18.out.mono HB16.out.size)⟩
end Go.Proofs.YtiamiagjkfioiaaGreatDoor.A
