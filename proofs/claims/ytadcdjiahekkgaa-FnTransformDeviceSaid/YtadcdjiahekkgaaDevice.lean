/- The law on the transform of a device. -/
import Derived.Test.YtadcdjiahekkgaaDevA
namespace Go.Proofs.Ytadcdjiahekkgaa.A
set_option linter.unusedVariables false
set_option linter.unusedSimpArgs false
set_option linter.unusedSectionVars false
open Go.RowKit Go.Proofs.YtadcdjiahekkgaaW.PrintWords Go.Proofs.YtadcdjiahekkgaaW.PrintLast Go.Proofs.YtadcdjiahekkgaaW.PrintMore Go.Proofs.Ytadcdjiahekkgaa.PT Go.Proofs.Ytadcdjiahekkgaa.L Go.Proofs.Ytadcdjiahekkgaa.SM

theorem sp_cons (d : UInt8) : ∀ (l : List UInt8), d ∉ l → ∀ r, sp d (l ++ d :: r) = l :: sp d r
  | [], _, r => by simp [sp]
  | c :: l, h, r => by
    have hc : ¬ c = d := fun e => h (by simp [e])
    rw [List.cons_append, sp, if_neg hc, sp_cons d l (fun e => h (List.mem_cons_of_mem _ e)) r]
theorem sp_last (d : UInt8) : ∀ (l : List UInt8), d ∉ l → sp d l = [l]
  | [], _ => rfl
  | c :: l, h => by
    have hc : ¬ c = d := fun e => h (by simp [e])
    rw [sp, if_neg hc, sp_last d l (fun e => h (List.mem_cons_of_mem _ e))]
theorem enters_device : ∀ args w, (callFunc 24 args).run Try.prog w = .ok (.enter 24 args) w := Go.Proofs.enters_of Try.func24 (by kernel_rfl) rfl
theorem wordB_ne {s : ByteArray} (h : wordB s = true) : ¬ s.toList = [] := by
  unfold wordB at h
  intro e
  rw [Lib.toList_data] at e
  simp only [Bool.and_eq_true, decide_eq_true_eq] at h
  have h2 := h.2
  rw [Lib.size_eq, e] at h2
  exact absurd h2 (by simp)
theorem twin_dev (p s t : ByteArray) : Twin (mS devK [p, s, t]) (mI devK [p, s, t]) := twin_map devK [p, s, t] (by simp) (by simp)
theorem split2 {a b : ByteArray} (ha : wordB a = true) (hb : wordB b = true) : (sp 58 (a ++ (⟨#[58]⟩ : ByteArray) ++ b).data.toList).map mk = [a, b] := by
  have e : (a ++ (⟨#[58]⟩ : ByteArray) ++ b).data.toList = a.data.toList ++ 58 :: b.data.toList := by
    rw [ByteArray.data_append, ByteArray.data_append]
    simp
  rw [e, sp_cons 58 _ (wordB_no 58 byteOk_colon a ha), sp_last 58 _ (wordB_no 58 byteOk_colon b hb), List.map_cons, List.map_cons, List.map_nil, mk_of, mk_of]
theorem split3 {c d p : ByteArray} (hc : wordB c = true) (hd : wordB d = true) (hp : wordB p = true) : (sp 58 (c ++ (⟨#[58]⟩ : ByteArray) ++ d ++ (⟨#[58]⟩ : ByteArray) ++ p).data.toList).map mk = [c, d, p] := by
  have e : (c ++ (⟨#[58]⟩ : ByteArray) ++ d ++ (⟨#[58]⟩ : ByteArray) ++ p).data.toList = c.data.toList ++ 58 :: (d.data.toList ++ 58 :: p.data.toList) := by
    rw [ByteArray.data_append, ByteArray.data_append, ByteArray.data_append, ByteArray.data_append]
    simp
  rw [e, sp_cons 58 _ (wordB_no 58 byteOk_colon c hc), sp_cons 58 _ (wordB_no 58 byteOk_colon d hd), sp_last 58 _ (wordB_no 58 byteOk_colon p hp), List.map_cons, List.map_cons, List.map_cons, List.map_nil, mk_of, mk_of, mk_of]
theorem dev_made (p s t : ByteArray) (A : Option Addr) (c : Nat) (A' : Option Addr) (c' : Nat) (w : World) (h3 : devK.length ≤ c) (g3 : Kd.C Kd.string w A devK.length devK) (h4 : [tR p, tR s, tR t].length ≤ c') (g4 : Kd.C kR w A' [tR p, tR s, tR t].length [tR p, tR s, tR t]) : MadeS (mS devK [p, s, t]) w (.agg #[.int .i64 5, .int .i64 0, .string ⟨#[]⟩, .slice A 3 c, .slice A' 3 c']) :=
  ⟨A, c, A', c', rfl, h3, g3, h4, kS_texts (ss := [p, s, t]) g4⟩
theorem dev_with (p s t : ByteArray) (A : Option Addr) (c : Nat) (A' : Option Addr) (c' : Nat) (w : World) (g3 : Kd.C Kd.string w A devK.length devK) (g4 : Kd.C kR w A' [tR p, tR s, tR t].length [tR p, tR s, tR t]) :
    Calls Try.prog 25 #[.agg #[.int .i64 5, .int .i64 0, .string ⟨#[]⟩, .slice A 3 c, .slice A' 3 c'], .string kPerm, valT kRwm] w fun e w' => (∃ u, e = .returned u ∧ MadeS (mS devK [kRwm, s, t]) w' u) ∧ Below w.heap.size w w' := by
  refine (spec_WithR 5 0 ⟨#[]⟩ kPerm devK [tR p, tR s, tR t] (tR kRwm) A c A' c' w g3 g4 (by simp) rfl).mono ?_
  rw [withK_dev, withV_dev]
  rintro e w' ⟨B, d, B', d', rfl, h3, k3, h4, k4, _, _, hb⟩
  exact ⟨⟨_, rfl, B, d, B', d', rfl, h3, k3, h4, kS_texts (ss := [kRwm, s, t]) k4⟩, hb⟩
set_option maxHeartbeats 8000000 in
set_option maxRecDepth 100000 in
theorem law_TransformDevice (a b p : ByteArray) (g : Bool) (w : World) :
    Calls Try.prog 7 #[.string a, .string b, .string p, .bool g] w fun e w' => e = .returned (.bool true) ∧ Below w.heap.size w w' := by
  by_cases ha : a.size ≤ 2147483647
  case neg =>
    have ga : 2147483647 < (a.size : Int) := by omega
    go_enter Try.func7, Try.ntmps7
    go_wp2_with fail
    go_ret
    exact ⟨rfl, Below.refl _ _⟩
  have ga : ¬ 2147483647 < (a.size : Int) := by omega
  by_cases hb : b.size ≤ 2147483647
  case neg =>
    have gb : 2147483647 < (b.size : Int) := by omega
    go_enter Try.func7, Try.ntmps7
    go_wp2_with fail
    go_ret
    exact ⟨rfl, Below.refl _ _⟩
  have gb : ¬ 2147483647 < (b.size : Int) := by omega
  by_cases hp : p.size ≤ 2147483647
  case neg =>
    have gp : 2147483647 < (p.size : Int) := by omega
    go_enter Try.func7, Try.ntmps7
    go_wp2_with fail
    go_ret
    exact ⟨rfl, Below.refl _ _⟩
  have gp : ¬ 2147483647 < (p.size : Int) := by omega
  go_enter Try.func7, Try.ntmps7
  go_wp2_with fail
  refine (spec_PartWord a _ ha).mono ?_
  rintro e w0 ⟨rfl, hb0⟩
  have hc0 := hb0
  rcases hwa : wordB a with _ | _
  · clear hwa
    go_wp2_with fail
    go_ret
    exact ⟨rfl, hc0⟩
  have HWa := Lib.hid hwa
  clear hwa
  go_wp2_with fail
  refine (spec_PartWord b _ hb).mono ?_
  rintro e w1 ⟨rfl, hb1⟩
  have hc1 := hc0.trans (hb1.mono hc0.size)
  rcases hwb : wordB b with _ | _
  · clear hwb
    go_wp2_with fail
    go_ret
    exact ⟨rfl, hc1⟩
  have HWb := Lib.hid hwb
  clear hwb
  go_wp2_with fail
  refine (spec_PartWord p _ hp).mono ?_
  rintro e w4 ⟨rfl, hb4⟩
  have hc4 := hc1.trans (hb4.mono hc1.size)
  rcases hwp : wordB p with _ | _
  · clear hwp
    go_wp2_with fail
    go_ret
    exact ⟨rfl, hc4⟩
  have HWp := Lib.hid hwp
  clear hwp
  have H4 := Aside0.mk hc4
  have hn1 : (a ++ (⟨#[58]⟩ : ByteArray) ++ b).size ≤ 4398046511104 := by
    rw [ByteArray.size_append, ByteArray.size_append, show (⟨#[58]⟩ : ByteArray).size = 1 from rfl]
    omega
  have hn2 : (a ++ (⟨#[58]⟩ : ByteArray) ++ b ++ (⟨#[58]⟩ : ByteArray) ++ p).size ≤ 4398046511104 := by
    rw [ByteArray.size_append, ByteArray.size_append, ByteArray.size_append, ByteArray.size_append, show (⟨#[58]⟩ : ByteArray).size = 1 from rfl]
    omega
  have T3 : Hid (Turns 24 g (tI (a ++ (⟨#[58]⟩ : ByteArray) ++ b ++ (⟨#[58]⟩ : ByteArray) ++ p)) (mI devK [p, a, b])) := Lib.hid (impl_TransformDevice_text3 _ a b p g hn2 (split3 HWa.out HWb.out HWp.out) (wordB_ne HWb.out))
  have T2 : Hid (Turns 24 g (tI (a ++ (⟨#[58]⟩ : ByteArray) ++ b)) (mI devK [kRwm, a, b])) := Lib.hid (impl_TransformDevice_text2 _ a b g hn1 (split2 HWa.out HWb.out) (wordB_ne HWb.out))
  clear hb0 hb1 hb4 hc0 hc1 hc4 hn1 hn2
  have hs1 : ¬ 9223372036854775807 < a.size + 1 := by omega
  have hs2 : ¬ 9223372036854775807 < a.size + 1 + b.size := by omega
  have hs3 : ¬ 9223372036854775807 < a.size + 1 + b.size + 1 := by omega
  have hs4 : ¬ 9223372036854775807 < a.size + 1 + b.size + 1 + p.size := by omega
  go_wp2_with fail
  refine (L.spec_T a _).mono ?_
  rintro e w5 ⟨rfl, hb5⟩
  have H5 := Aside0.mk (below_then H4.out H4.out.size hb5)
  clear hb5 H4
  go_wp2_with fail
  refine (L.spec_T b _).mono ?_
  rintro e w6 ⟨rfl, hb6⟩
  have H6 := Aside0.mk (below_then H5.out H5.out.size hb6)
  clear hb6 H5
  go_wp2_with fail
  refine (L.spec_T p _).mono ?_
  rintro e w7 ⟨rfl, hb7⟩
  have H7 := Aside0.mk (below_then H6.out H6.out.size hb7)
  clear hb7 H6
  go_wp2_with fail
  refine (spec_M [(kSource, tR a), (kTarget, tR b), (kPerm, tR p)] ⟨w7.heap.size, 0, none⟩ 6 _ ?_ rfl (by simp)).mono ?_
  · intro j hj
    have hj' : j < 3 := hj
    rcases j with _ | _ | _ | j
    · exact ⟨(blk_cell (new_atI rfl) 0).trans rfl, (blk_cell (new_atI rfl) 1).trans rfl⟩
    · exact ⟨(blk_cell (new_atI rfl) 2).trans rfl, (blk_cell (new_atI rfl) 3).trans rfl⟩
    · exact ⟨(blk_cell (new_atI rfl) 4).trans rfl, (blk_cell (new_atI rfl) 5).trans rfl⟩
    · omega
  rw [MMq_dev]
  rintro e w8 ⟨A, c, A', c', rfl, h3, g3, h4, g4, _, _, hb8⟩
  obtain ⟨W9, hW9⟩ : ∃ W9 : World, W9 = w8.alloc (Obj.cells #[.int .i64 5, .int .i64 0, .string ⟨#[]⟩, .slice A 3 c, .slice A' 3 c'] 32) := ⟨_, rfl⟩
  have hb9 : Below w8.heap.size w8 W9 := by rw [hW9]; exact (Below.refl _ _).alloc (Nat.le_refl _) _
  have hz9 : W9.heap[w8.heap.size]? = some (.cells #[.int .i64 5, .int .i64 0, .string ⟨#[]⟩, .slice A 3 c, .slice A' 3 c'] 32 (0, 0)) := by rw [hW9]; exact new_atI rfl
  have h8 : Below w.heap.size w w8 := (H7.out.alloc H7.out.size _).trans (hb8.mono (Nat.le_trans H7.out.size (by simp)))
  have HBW := Aside0.mk (below_then h8 h8.size hb9)
  have G3 := Aside0.mk (Kd.C_below g3 hb9)
  have G4 := Aside0.mk (Kd.C_below g4 hb9)
  have L3 := Lib.hid (show devK.length ≤ c from h3)
  have L4 := Lib.hid (show [tR p, tR a, tR b].length ≤ c' from h4)
  obtain ⟨b9, hb9'⟩ : ∃ b9, b9 = w8.heap.size := ⟨_, rfl⟩
  have HB9 := Lib.hid hb9'
  have HW9 := Lib.hid hW9
  rw [← hb9'] at hz9
  have n0 : W9.cell? ⟨b9, 0, none⟩ = some (.int .i64 5) := (blk_cell hz9 0).trans rfl
  have n1 : W9.cell? ⟨b9, 1, none⟩ = some (.int .i64 0) := (blk_cell hz9 1).trans rfl
  have n2 : W9.cell? ⟨b9, 2, none⟩ = some (.string ⟨#[]⟩) := (blk_cell hz9 2).trans rfl
  have n3 : W9.cell? ⟨b9, 3, none⟩ = some (.slice A 3 c) := (blk_cell hz9 3).trans rfl
  have n4 : W9.cell? ⟨b9, 4, none⟩ = some (.slice A' 3 c') := (blk_cell hz9 4).trans rfl
  clear hb8 hb9 hz9 h8 g3 g4 h3 h4 hW9 hb9' H7
  simp only [List.length_cons, List.length_nil, Nat.reduceAdd]
  go_upto_region 6 with fail
  rw [← HW9.out, ← HB9.out]
  refine start_ (n := 24) (S := fun w' => w'.cell? ⟨b9, 0, none⟩ = some (.int .i64 5) ∧ w'.cell? ⟨b9, 1, none⟩ = some (.int .i64 0) ∧ w'.cell? ⟨b9, 2, none⟩ = some (.string ⟨#[]⟩) ∧ w'.cell? ⟨b9, 3, none⟩ = some (.slice A 3 c) ∧ w'.cell? ⟨b9, 4, none⟩ = some (.slice A' 3 c')) (ds := []) #[false, false, false, false, false, false, false, false, false, false, false, false, false, false, false, false, false, false, false, false, false, false, false, false] (by kernel_rfl) rfl rfl ⟨n0, n1, n2, n3, n4⟩ (fun hHeld => ?_)
  refine pure_ (i := 0) (N := some 50) (v := ?_) (a' := ?_) #[true, false, false, false, false, false, false, false, false, false, false, false, false, false, false, false, false, false, false, false, false, false, false, false] rfl rfl (by kernel_rfl) (fun _ _ _ h => h) (Or.inl ⟨by rfl, ?_⟩) ?_ ?_
  rotate_left
  · intro w'
    go_simp
    with_reducible rfl
  rotate_left
  · simp only [Act.put, List.setIfInBounds_toArray, List.set_cons_zero, List.set_cons_succ, i64_w, i32_w]
    rfl
  refine pure_ (i := 1) (N := some 51) (v := ?_) (a' := ?_) #[true, true, false, false, false, false, false, false, false, false, false, false, false, false, false, false, false, false, false, false, false, false, false, false] rfl rfl (by kernel_rfl) (fun _ _ _ h => h) (Or.inl ⟨by rfl, ?_⟩) ?_ ?_
  rotate_left
  · intro w'
    go_simp
    with_reducible rfl
  rotate_left
  · simp only [Act.put, List.setIfInBounds_toArray, List.set_cons_zero, List.set_cons_succ, i64_w, i32_w]
    rfl
  refine pure_ (i := 2) (N := some 52) (v := ?_) (a' := ?_) #[true, true, true, false, false, false, false, false, false, false, false, false, false, false, false, false, false, false, false, false, false, false, false, false] rfl rfl (by kernel_rfl) (fun _ _ _ h => h) (Or.inl ⟨by rfl, ?_⟩) ?_ ?_
  rotate_left
  · intro w'
    go_simp
    with_reducible rfl
  rotate_left
  · simp only [Act.put, List.setIfInBounds_toArray, List.set_cons_zero, List.set_cons_succ, i64_w, i32_w]
    rfl
  refine pure_ (i := 3) (N := some 53) (v := ?_) (a' := ?_) #[true, true, true, true, false, false, false, false, false, false, false, false, false, false, false, false, false, false, false, false, false, false, false, false] rfl rfl (by kernel_rfl) (fun _ _ _ h => h) (Or.inl ⟨by rfl, ?_⟩) ?_ ?_
  rotate_left
  · intro w'
    go_simp
    with_reducible rfl
  rotate_left
  · simp only [Act.put, List.setIfInBounds_toArray, List.set_cons_zero, List.set_cons_succ, i64_w, i32_w]
    rfl
  refine pure_ (i := 4) (N := some 54) (v := ?_) (a' := ?_) #[true, true, true, true, true, false, false, false, false, false, false, false, false, false, false, false, false, false, false, false, false, false, false, false] rfl rfl (by kernel_rfl) (fun _ _ _ h => h) (Or.inl ⟨by rfl, ?_⟩) ?_ ?_
  rotate_left
  · intro w'
    go_simp
    with_reducible rfl
  rotate_left
  · simp only [Act.put, List.setIfInBounds_toArray, List.set_cons_zero, List.set_cons_succ, i64_w, i32_w]
    rfl
  refine pure_ (i := 5) (N := some 55) (v := ?_) (a' := ?_) #[true, true, true, true, true, true, false, false, false, false, false, false, false, false, false, false, false, false, false, false, false, false, false, false] rfl rfl (by kernel_rfl) (fun _ _ _ h => h) (Or.inl ⟨by rfl, ?_⟩) ?_ ?_
  rotate_left
  · intro w'
    go_simp
    with_reducible rfl
  rotate_left
  · simp only [Act.put, List.setIfInBounds_toArray, List.set_cons_zero, List.set_cons_succ, i64_w, i32_w]
    rfl
  refine pure_ (i := 6) (N := some 56) (v := ?_) (a' := ?_) #[true, true, true, true, true, true, true, false, false, false, false, false, false, false, false, false, false, false, false, false, false, false, false, false] rfl rfl (by kernel_rfl) (fun _ _ _ h => h) (Or.inl ⟨by rfl, ?_⟩) ?_ ?_
  rotate_left
  · intro w'
    go_simp
    with_reducible rfl
  rotate_left
  · simp only [Act.put, List.setIfInBounds_toArray, List.set_cons_zero, List.set_cons_succ, i64_w, i32_w]
    rfl
  refine pure_ (i := 9) (N := some 59) (v := ?_) (a' := ?_) #[true, true, true, true, true, true, true, false, false, true, false, false, false, false, false, false, false, false, false, false, false, false, false, false] rfl rfl (by kernel_rfl) (fun _ _ _ h => h) (Or.inl ⟨by rfl, ?_⟩) ?_ ?_
  rotate_left
  · intro w'
    go_simp
    with_reducible rfl
  rotate_left
  · simp only [Act.put, List.setIfInBounds_toArray, List.set_cons_zero, List.set_cons_succ, i64_w, i32_w]
    rfl
  refine take_ (i := 8) (N := some 58) (v := ?_) (a' := ?_) #[true, true, true, true, true, true, true, false, true, true, false, false, false, false, false, false, false, false, false, false, false, false, false, false] rfl rfl (by kernel_rfl) (fun _ _ _ h => h) (Or.inl ⟨by rfl, ?_⟩) hHeld ?_ ?_
  rotate_left
  · rintro w' ⟨s0, s1, s2, s3, s4⟩
    go_simp
    with_reducible rfl
  rotate_left
  · simp only [Act.put, List.setIfInBounds_toArray, List.set_cons_zero, List.set_cons_succ, i64_w, i32_w]
    rfl
  refine one_ (i := 7) (N := some 57) #[true, true, true, true, true, true, true, true, true, true, false, false, false, false, false, false, false, false, false, false, false, false, false, false] rfl rfl (by kernel_rfl) (by decide) (fun K hK => ?_)
  refine goes_ Try.func11 (by kernel_rfl) rfl #[.string (a ++ (⟨#[58]⟩ : ByteArray) ++ b ++ (⟨#[58]⟩ : ByteArray) ++ p)] (by rfl) rfl rfl (by simp only [List.map_toArray, List.map_cons, List.map_nil]; rfl) ?_
  with_reducible refine (L.spec_T (a ++ (⟨#[58]⟩ : ByteArray) ++ b ++ (⟨#[58]⟩ : ByteArray) ++ p) (World.drew W9)).mono ?_
  rintro e w10 ⟨rfl, hb10⟩
  refine ⟨_, rfl, ?_⟩
  have hc10 : Below W9.heap.size W9 w10 := below_un hb10
  have HC10 := Aside0.mk hc10
  have HG10 := Aside0.mk (Kd.C_below G3.out hc10)
  have HK10 := Aside0.mk (Kd.C_below G4.out hc10)
  clear hb10 hc10
  refine hK.out _ _ ⟨(HC10.out.cell (World.block_lt_of_cell? W9 _ n0)).trans n0, (HC10.out.cell (World.block_lt_of_cell? W9 _ n1)).trans n1, (HC10.out.cell (World.block_lt_of_cell? W9 _ n2)).trans n2, (HC10.out.cell (World.block_lt_of_cell? W9 _ n3)).trans n3, (HC10.out.cell (World.block_lt_of_cell? W9 _ n4)).trans n4⟩ (fun hHeld => ?_)
  clear hK K
  refine norm_ (a' := ?_) ?_ ?_
  rotate_left
  · show Act.put _ (some 57) _ = _
    simp only [Act.put, List.setIfInBounds_toArray, List.set_cons_zero, List.set_cons_succ, i64_w, i32_w]
    rfl
  refine one_ (i := 10) (N := some 60) #[true, true, true, true, true, true, true, true, true, true, true, false, false, false, false, false, false, false, false, false, false, false, false, false] rfl rfl (by kernel_rfl) (by decide) (fun K hK => ?_)
  refine goes_ Try.func18 (by kernel_rfl) rfl #[.func (.func 24) #[] #[], valT (a ++ (⟨#[58]⟩ : ByteArray) ++ b ++ (⟨#[58]⟩ : ByteArray) ++ p), .agg #[.int .i64 5, .int .i64 0, .string ⟨#[]⟩, .slice A 3 c, .slice A' 3 c'], .bool g] (by rfl) rfl rfl (by simp only [List.map_toArray, List.map_cons, List.map_nil]; rfl) ?_
  with_reducible refine (laws_partIs 24 enters_device g (tS (a ++ (⟨#[58]⟩ : ByteArray) ++ b ++ (⟨#[58]⟩ : ByteArray) ++ p)) (mS devK [p, a, b]) (tI (a ++ (⟨#[58]⟩ : ByteArray) ++ b ++ (⟨#[58]⟩ : ByteArray) ++ p)) (mI devK [p, a, b]) (twin_text _) (twin_dev p a b) T3.out (impl_TransformDevice_map a b p g) w10 (v := valT (a ++ (⟨#[58]⟩ : ByteArray) ++ b ++ (⟨#[58]⟩ : ByteArray) ++ p)) (u := .agg #[.int .i64 5, .int .i64 0, .string ⟨#[]⟩, .slice A 3 c, .slice A' 3 c']) (made_text _ w10) (dev_made p a b A c A' c' w10 L3.out HG10.out L4.out HK10.out)).mono ?_
  rintro e w11 ⟨rfl, hb11⟩
  refine ⟨_, rfl, ?_⟩
  have HC11 := Aside0.mk (below_then HC10.out HC10.out.size hb11)
  clear hb11
  refine hK.out _ _ ⟨(HC11.out.cell (World.block_lt_of_cell? W9 _ n0)).trans n0, (HC11.out.cell (World.block_lt_of_cell? W9 _ n1)).trans n1, (HC11.out.cell (World.block_lt_of_cell? W9 _ n2)).trans n2, (HC11.out.cell (World.block_lt_of_cell? W9 _ n3)).trans n3, (HC11.out.cell (World.block_lt_of_cell? W9 _ n4)).trans n4⟩ (fun hHeld => ?_)
  clear hK K
  refine norm_ (a' := ?_) ?_ ?_
  rotate_left
  · show Act.put _ (some 60) _ = _
    simp only [Act.put, List.setIfInBounds_toArray, List.set_cons_zero, List.set_cons_succ, i64_w, i32_w]
    rfl
  refine pure_ (i := 11) (N := some 61) (v := ?_) (a' := ?_) #[true, true, true, true, true, true, true, true, true, true, true, true, false, false, false, false, false, false, false, false, false, false, false, false] rfl rfl (by kernel_rfl) (fun _ _ _ h => h) (Or.inl ⟨by rfl, ?_⟩) ?_ ?_
  rotate_left
  · intro w'
    go_simp
    with_reducible rfl
  rotate_left
  · simp only [Act.put, List.setIfInBounds_toArray, List.set_cons_zero, List.set_cons_succ, i64_w, i32_w]
    rfl
  refine pure_ (i := 12) (N := some 62) (v := ?_) (a' := ?_) #[true, true, true, true, true, true, true, true, true, true, true, true, true, false, false, false, false, false, false, false, false, false, false, false] rfl rfl (by kernel_rfl) (fun _ _ _ h => h) (Or.inl ⟨by rfl, ?_⟩) ?_ ?_
  rotate_left
  · intro w'
    go_simp
    with_reducible rfl
  rotate_left
  · simp only [Act.put, List.setIfInBounds_toArray, List.set_cons_zero, List.set_cons_succ, i64_w, i32_w]
    rfl
  refine pure_ (i := 13) (N := some 63) (v := ?_) (a' := ?_) #[true, true, true, true, true, true, true, true, true, true, true, true, true, true, false, false, false, false, false, false, false, false, false, false] rfl rfl (by kernel_rfl) (fun _ _ _ h => h) (Or.inl ⟨by rfl, ?_⟩) ?_ ?_
  rotate_left
  · intro w'
    go_simp
    with_reducible rfl
  rotate_left
  · simp only [Act.put, List.setIfInBounds_toArray, List.set_cons_zero, List.set_cons_succ, i64_w, i32_w]
    rfl
  refine pure_ (i := 14) (N := some 64) (v := ?_) (a' := ?_) #[true, true, true, true, true, true, true, true, true, true, true, true, true, true, true, false, false, false, false, false, false, false, false, false] rfl rfl (by kernel_rfl) (fun _ _ _ h => h) (Or.inl ⟨by rfl, ?_⟩) ?_ ?_
  rotate_left
  · intro w'
    go_simp
    with_reducible rfl
  rotate_left
  · simp only [Act.put, List.setIfInBounds_toArray, List.set_cons_zero, List.set_cons_succ, i64_w, i32_w]
    rfl
  refine pure_ (i := 15) (N := some 65) (v := ?_) (a' := ?_) #[true, true, true, true, true, true, true, true, true, true, true, true, true, true, true, true, false, false, false, false, false, false, false, false] rfl rfl (by kernel_rfl) (fun _ _ _ h => h) (Or.inl ⟨by rfl, ?_⟩) ?_ ?_
  rotate_left
  · intro w'
    go_simp
    with_reducible rfl
  rotate_left
  · simp only [Act.put, List.setIfInBounds_toArray, List.set_cons_zero, List.set_cons_succ, i64_w, i32_w]
    rfl
  refine pure_ (i := 20) (N := some 70) (v := ?_) (a' := ?_) #[true, true, true, true, true, true, true, true, true, true, true, true, true, true, true, true, false, false, false, false, true, false, false, false] rfl rfl (by kernel_rfl) (fun _ _ _ h => h) (Or.inl ⟨by rfl, ?_⟩) ?_ ?_
  rotate_left
  · intro w'
    go_simp
    with_reducible rfl
  rotate_left
  · simp only [Act.put, List.setIfInBounds_toArray, List.set_cons_zero, List.set_cons_succ, i64_w, i32_w]
    rfl
  refine take_ (i := 17) (N := some 67) (v := ?_) (a' := ?_) #[true, true, true, true, true, true, true, true, true, true, true, true, true, true, true, true, false, true, false, false, true, false, false, false] rfl rfl (by kernel_rfl) (fun _ _ _ h => h) (Or.inl ⟨by rfl, ?_⟩) hHeld ?_ ?_
  rotate_left
  · rintro w' ⟨s0, s1, s2, s3, s4⟩
    go_simp
    with_reducible rfl
  rotate_left
  · simp only [Act.put, List.setIfInBounds_toArray, List.set_cons_zero, List.set_cons_succ, i64_w, i32_w]
    rfl
  refine one_ (i := 16) (N := some 66) #[true, true, true, true, true, true, true, true, true, true, true, true, true, true, true, true, true, true, false, false, true, false, false, false] rfl rfl (by kernel_rfl) (by decide) (fun K hK => ?_)
  refine goes_ Try.func11 (by kernel_rfl) rfl #[.string (a ++ (⟨#[58]⟩ : ByteArray) ++ b)] (by rfl) rfl rfl (by simp only [List.map_toArray, List.map_cons, List.map_nil]; rfl) ?_
  with_reducible refine (L.spec_T (a ++ (⟨#[58]⟩ : ByteArray) ++ b) w11).mono ?_
  rintro e w12 ⟨rfl, hb12⟩
  refine ⟨_, rfl, ?_⟩
  have HC12 := Aside0.mk (below_then HC11.out HC11.out.size hb12)
  clear hb12
  refine hK.out _ _ ⟨(HC12.out.cell (World.block_lt_of_cell? W9 _ n0)).trans n0, (HC12.out.cell (World.block_lt_of_cell? W9 _ n1)).trans n1, (HC12.out.cell (World.block_lt_of_cell? W9 _ n2)).trans n2, (HC12.out.cell (World.block_lt_of_cell? W9 _ n3)).trans n3, (HC12.out.cell (World.block_lt_of_cell? W9 _ n4)).trans n4⟩ (fun hHeld => ?_)
  clear hK K
  refine norm_ (a' := ?_) ?_ ?_
  rotate_left
  · show Act.put _ (some 66) _ = _
    simp only [Act.put, List.setIfInBounds_toArray, List.set_cons_zero, List.set_cons_succ, i64_w, i32_w]
    rfl
  refine one_ (i := 18) (N := some 68) #[true, true, true, true, true, true, true, true, true, true, true, true, true, true, true, true, true, true, true, false, true, false, false, false] rfl rfl (by kernel_rfl) (by decide) (fun K hK => ?_)
  refine goes_ Try.func11 (by kernel_rfl) rfl #[.string kRwm] (by rfl) rfl rfl (by simp only [List.map_toArray, List.map_cons, List.map_nil]; rfl) ?_
  with_reducible refine (L.spec_T kRwm w12).mono ?_
  rintro e w13 ⟨rfl, hb13⟩
  refine ⟨_, rfl, ?_⟩
  have hc13 := below_then HC12.out HC12.out.size hb13
  have HC13 := Aside0.mk hc13
  have HG13 := Aside0.mk (Kd.C_below G3.out hc13)
  have HK13 := Aside0.mk (Kd.C_below G4.out hc13)
  clear hb13 hc13
  refine hK.out _ _ ⟨(HC13.out.cell (World.block_lt_of_cell? W9 _ n0)).trans n0, (HC13.out.cell (World.block_lt_of_cell? W9 _ n1)).trans n1, (HC13.out.cell (World.block_lt_of_cell? W9 _ n2)).trans n2, (HC13.out.cell (World.block_lt_of_cell? W9 _ n3)).trans n3, (HC13.out.cell (World.block_lt_of_cell? W9 _ n4)).trans n4⟩ (fun hHeld => ?_)
  clear hK K
  refine norm_ (a' := ?_) ?_ ?_
  rotate_left
  · show Act.put _ (some 68) _ = _
    simp only [Act.put, List.setIfInBounds_toArray, List.set_cons_zero, List.set_cons_succ, i64_w, i32_w]
    rfl
  refine one_ (i := 19) (N := some 69) #[true, true, true, true, true, true, true, true, true, true, true, true, true, true, true, true, true, true, true, true, true, false, false, false] rfl rfl (by kernel_rfl) (by decide) (fun K hK => ?_)
  refine goes_ Try.func25 (by kernel_rfl) rfl #[.agg #[.int .i64 5, .int .i64 0, .string ⟨#[]⟩, .slice A 3 c, .slice A' 3 c'], .string kPerm, valT kRwm] (by rfl) rfl rfl (by simp only [List.map_toArray, List.map_cons, List.map_nil]; rfl) ?_
  with_reducible refine (dev_with p a b A c A' c' w13 HG13.out HK13.out).mono ?_
  rintro e w14 ⟨⟨u14, rfl, hu14⟩, hb14⟩
  refine ⟨_, rfl, ?_⟩
  have HU14 := Aside0.mk hu14
  have HC14 := Aside0.mk (below_then HC13.out HC13.out.size hb14)
  clear hb14 hu14
  refine hK.out _ _ ⟨(HC14.out.cell (World.block_lt_of_cell? W9 _ n0)).trans n0, (HC14.out.cell (World.block_lt_of_cell? W9 _ n1)).trans n1, (HC14.out.cell (World.block_lt_of_cell? W9 _ n2)).trans n2, (HC14.out.cell (World.block_lt_of_cell? W9 _ n3)).trans n3, (HC14.out.cell (World.block_lt_of_cell? W9 _ n4)).trans n4⟩ (fun hHeld => ?_)
  clear hK K
  refine norm_ (a' := ?_) ?_ ?_
  rotate_left
  · show Act.put _ (some 69) _ = _
    simp only [Act.put, List.setIfInBounds_toArray, List.set_cons_zero, List.set_cons_succ, i64_w, i32_w]
    rfl
  refine one_ (i := 21) (N := some 71) #[true, true, true, true, true, true, true, true, true, true, true, true, true, true, true, true, true, true, true, true, true, true, false, false] rfl rfl (by kernel_rfl) (by decide) (fun K hK => ?_)
  refine goes_ Try.func18 (by kernel_rfl) rfl #[.func (.func 24) #[] #[], valT (a ++ (⟨#[58]⟩ : ByteArray) ++ b), u14, .bool g] (by rfl) rfl rfl (by simp only [List.map_toArray, List.map_cons, List.map_nil]; rfl) ?_
  with_reducible refine (laws_partIs 24 enters_device g (tS (a ++ (⟨#[58]⟩ : ByteArray) ++ b)) (mS devK [kRwm, a, b]) (tI (a ++ (⟨#[58]⟩ : ByteArray) ++ b)) (mI devK [kRwm, a, b]) (twin_text _) (twin_dev kRwm a b) T2.out (impl_TransformDevice_map a b kRwm g) w14 (v := valT (a ++ (⟨#[58]⟩ : ByteArray) ++ b)) (u := u14) (made_text _ w14) HU14.out).mono ?_
  rintro e w15 ⟨rfl, hb15⟩
  refine ⟨_, rfl, ?_⟩
  have HC15 := Aside0.mk (below_then HC14.out HC14.out.size hb15)
  clear hb15
  refine hK.out _ _ ⟨(HC15.out.cell (World.block_lt_of_cell? W9 _ n0)).trans n0, (HC15.out.cell (World.block_lt_of_cell? W9 _ n1)).trans n1, (HC15.out.cell (World.block_lt_of_cell? W9 _ n2)).trans n2, (HC15.out.cell (World.block_lt_of_cell? W9 _ n3)).trans n3, (HC15.out.cell (World.block_lt_of_cell? W9 _ n4)).trans n4⟩ (fun hHeld => ?_)
  clear hK K
  refine norm_ (a' := ?_) ?_ ?_
  rotate_left
  · show Act.put _ (some 71) _ = _
    simp only [Act.put, List.setIfInBounds_toArray, List.set_cons_zero, List.set_cons_succ, i64_w, i32_w]
    rfl
  refine pure_ (i := 22) (N := some 72) (v := ?_) (a' := ?_) #[true, true, true, true, true, true, true, true, true, true, true, true, true, true, true, true, true, true, true, true, true, true, true, false] rfl rfl (by kernel_rfl) (fun _ _ _ h => h) (Or.inl ⟨by rfl, ?_⟩) ?_ ?_
  rotate_left
  · intro w'
    go_simp
    with_reducible rfl
  rotate_left
  · simp only [Act.put, List.setIfInBounds_toArray, List.set_cons_zero, List.set_cons_succ, i64_w, i32_w]
    rfl
  refine pure_ (i := 23) (N := some 8) (v := ?_) (a' := ?_) #[true, true, true, true, true, true, true, true, true, true, true, true, true, true, true, true, true, true, true, true, true, true, true, true] rfl rfl (by kernel_rfl) (fun _ _ _ h => h) (Or.inl ⟨by rfl, ?_⟩) ?_ ?_
  rotate_left
  · intro w'
    go_simp
    with_reducible rfl
  rotate_left
  · simp only [Act.put, List.setIfInBounds_toArray, List.set_cons_zero, List.set_cons_succ, i64_w, i32_w]
    rfl
  refine done_ (by kernel_rfl) ?_
  
  go_wp2
  go_ret
  exact ⟨rfl, HBW.out.trans (HC15.out.mono HBW.out.size)⟩
end Go.Proofs.Ytadcdjiahekkgaa.A
