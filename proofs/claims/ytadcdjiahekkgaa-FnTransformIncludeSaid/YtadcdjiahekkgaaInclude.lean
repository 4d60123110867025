/- spec.Has of a map of texts; the law on the transform of includes. -/
import Derived.Test.YtadcdjiahekkgaaPartIs
namespace Go.Proofs.Ytadcdjiahekkgaa.A
set_option linter.unusedVariables false
set_option linter.unusedSimpArgs false
set_option linter.unusedSectionVars false
open Go.RowKit Go.Proofs.YtadcdjiahekkgaaW.PrintWords Go.Proofs.YtadcdjiahekkgaaW.PrintLast Go.Proofs.YtadcdjiahekkgaaW.PrintMore Go.Proofs.Ytadcdjiahekkgaa.PT Go.Proofs.Ytadcdjiahekkgaa.L Go.Proofs.Ytadcdjiahekkgaa.SM

set_option maxHeartbeats 4000000 in
set_option maxRecDepth 100000 in
theorem spec_Get (x : SV) (h5 : x.f0 = 5) (key : ByteArray) (hl : x.f4.length = x.f3.length) (hb : x.f3.length ≤ 1099511627776) (w : World) {v : Value} (hv : MadeS x w v) :
    Calls Try.prog 34 #[v, .string key] w fun e w' => (∃ u, e = .returned (.tuple #[u, .bool (placeB key x.f3)]) ∧ ∃ y : SV, MadeS y w' u ∧ (placeB key x.f3 = true → ∃ h : placeN key x.f3 < x.f4.length, y = x.f4[placeN key x.f3]'h)) ∧ Below w.heap.size w w' := by
  obtain ⟨A3, c3, A4, c4, rfl, p3, g3, p4, g4⟩ := hv
  unfold cellsS
  rw [h5]
  obtain ⟨W0, hW0⟩ : ∃ W0 : World, W0 = (w.alloc (Obj.cells #[.int .i64 5, .int .i64 x.f1, .string x.f2, .slice A3 x.f3.length c3, .slice A4 x.f4.length c4] 32)).alloc (Obj.cells zV 32) := ⟨_, rfl⟩
  have hb0 : Below w.heap.size w W0 := by rw [hW0]; exact ((Below.refl _ _).alloc (Nat.le_refl _) _).alloc (by simp) _
  have hbx : W0.heap[w.heap.size]? = some (.cells #[.int .i64 5, .int .i64 x.f1, .string x.f2, .slice A3 x.f3.length c3, .slice A4 x.f4.length c4] 32 (0, 0)) := by rw [hW0]; exact heap_oldI (new_atI rfl)
  have hre : W0.heap[w.heap.size + 1]? = some (.cells zV 32 (0, 0)) := by rw [hW0]; exact new_atI (by simp)
  have HS0 : Hid (W0.heap.size = w.heap.size + 2) := Lib.hid (by rw [hW0]; simp)
  have HB0 := Aside0.mk hb0
  have HBX := Aside0.mk hbx
  have HRE := Aside0.mk hre
  have G3 := Aside0.mk (Kd.C_below g3 hb0)
  have G4 := Aside0.mk g4
  have P4 := Lib.hid p4
  have HL := Lib.hid hl
  have HW0 := Lib.hid hW0
  have m0 : W0.cell? ⟨w.heap.size, 0, none⟩ = some (.int .i64 5) := (blk_cell hbx 0).trans rfl
  have m1 : W0.cell? ⟨w.heap.size, 1, none⟩ = some (.int .i64 x.f1) := (blk_cell hbx 1).trans rfl
  have m2 : W0.cell? ⟨w.heap.size, 2, none⟩ = some (.string x.f2) := (blk_cell hbx 2).trans rfl
  have m3 : W0.cell? ⟨w.heap.size, 3, none⟩ = some (.slice A3 x.f3.length c3) := (blk_cell hbx 3).trans rfl
  have m4 : W0.cell? ⟨w.heap.size, 4, none⟩ = some (.slice A4 x.f4.length c4) := (blk_cell hbx 4).trans rfl
  clear hb0 hbx hre hW0 g3 g4 p4 hl p3
  go_enter Try.func34, Try.ntmps34
  go_upto_region 1 with fail
  rw [← HW0.out]
  go_wp2_with fail
  refine (spec_place x.f3 key x.f2 5 x.f1 A3 c3 (.slice A4 x.f4.length c4) W0 G3.out hb).mono ?_
  unfold placeOut
  clear m0 m1 m2 m3 m4
  rintro e w1 ⟨rfl, hb1⟩
  have HB1 := Aside0.mk hb1
  have hbx := blk_below HBX.out hb1
  have hre := blk_below HRE.out hb1
  have b4 : w1.cell? ⟨w.heap.size, 4, none⟩ = some (.slice A4 x.f4.length c4) := (blk_cell hbx 4).trans rfl
  have n0 : w1.cell? ⟨w.heap.size + 1, 0, none⟩ = some (.int .i64 0) := (blk_cell hre 0).trans rfl
  have n1 : w1.cell? ⟨w.heap.size + 1, 1, none⟩ = some (.int .i64 0) := (blk_cell hre 1).trans rfl
  have n2 : w1.cell? ⟨w.heap.size + 1, 2, none⟩ = some (.string ⟨#[]⟩) := (blk_cell hre 2).trans rfl
  have n3 : w1.cell? ⟨w.heap.size + 1, 3, none⟩ = some (.slice none 0 0) := (blk_cell hre 3).trans rfl
  have n4 : w1.cell? ⟨w.heap.size + 1, 4, none⟩ = some (.slice none 0 0) := (blk_cell hre 4).trans rfl
  have f0 := blk_frozen hre 0
  have f1 := blk_frozen hre 1
  have f2 := blk_frozen hre 2
  have f3 := blk_frozen hre 3
  have f4 := blk_frozen hre 4
  clear hbx hre hb1
  have hbw : Below w.heap.size w w1 := HB0.out.trans (HB1.out.mono HB0.out.size)
  have HBW := Aside0.mk hbw
  clear hbw
  cases hB : placeB key x.f3 with
  | false =>
    go_wp2
    refine bodyPost_ret (v := .tuple #[.agg zV, .bool false]) (by simp [results, Try.results34, go_sem, *]) rfl ?_
    refine ⟨⟨_, by rw [hB]; rfl, ⟨0, 0, be, [], []⟩, ⟨none, 0, none, 0, rfl, Nat.le_refl _, C_nil _ _ _, Nat.le_refl _, C_nil _ _ _⟩, fun h => by rw [hB] at h; cases h⟩, ?_⟩
    first | exact HBW.out | exact below5 HBW.out _ (Nat.le_succ _) _ _ _ _ _
  | true =>
    have hlt := placeB_lt key x.f3 hB
    have hlt4 : placeN key x.f3 < x.f4.length := by rw [HL.out]; exact hlt
    obtain ⟨i, hi⟩ : ∃ i, i = placeN key x.f3 := ⟨_, rfl⟩
    rw [← hi] at hlt4
    have HI := Lib.hid hi
    rw [← hi]
    have i0 : (0 : Int) ≤ (i : Int) := Int.natCast_nonneg _
    have i1 : (i : Int) < (x.f4.length : Int) := Int.ofNat_lt.2 hlt4
    obtain ⟨ade, E3, d3, E4, d4, eA, he0, he1, he2, he3, he4, q3, r3, q4, r4⟩ := at_T32 G4.out (i : Int) i0 i1
    obtain ⟨y, hy⟩ : ∃ y, y = rd_T32 x.f4 (i : Int) := ⟨_, rfl⟩
    rw [← hy] at he0 he1 he2 he3 he4 q3 r3 q4 r4
    have hyi : y = x.f4[i]'hlt4 := hy.trans (rdSV hlt4)
    have tr : ∀ {q : Addr} {u : Value}, w.cell? q = some u → w1.cell? q = some u := fun h => (HBW.out.cell (World.block_lt_of_cell? w _ h)).trans h
    replace he0 := tr he0
    replace he1 := tr he1
    replace he2 := tr he2
    replace he3 := tr he3
    replace he4 := tr he4
    simp only [Int.toNat_natCast] at he0 he1 he2 he3 he4
    have HY : Hid (∀ h : i < x.f4.length, y = x.f4[i]'h) := Lib.hid (fun _ => hyi)
    have Q3 := Aside0.mk (And.intro q3 r3)
    have Q4 := Aside0.mk (And.intro q4 r4)
    have HLT := Lib.hid hlt4
    have HBT := Lib.hid hB
    subst eA
    clear hi hlt hlt4 hy hyi tr q3 r3 q4 r4 hB
    go_wp2
    refine bodyPost_ret (v := .tuple #[cellsS y E3 d3 E4 d4, .bool true]) (by unfold cellsS; simp [results, Try.results34, go_sem, *]) rfl ?_
    have hbf := below5 HBW.out (w.heap.size + 1) (Nat.le_succ _) (.int .i64 y.f0) (.int .i64 y.f1) (.string y.f2) (.slice E3 y.f3.length d3) (.slice E4 y.f4.length d4)
    exact ⟨⟨_, by rw [HBT.out], y, ⟨E3, d3, E4, d4, rfl, Q3.out.1, Kd.C_below Q3.out.2 hbf, Q4.out.1, Kd.C_below Q4.out.2 hbf⟩, fun _ => ⟨HI.out ▸ HLT.out, by
      have := HY.out HLT.out
      simpa [← HI.out] using this⟩⟩, hbf⟩
set_option maxRecDepth 100000 in
theorem spec_Has (x : SV) (h5 : x.f0 = 5) (key : ByteArray) (hl : x.f4.length = x.f3.length) (hb : x.f3.length ≤ 1099511627776) (w : World) {v : Value} (hv : MadeS x w v) :
    Calls Try.prog 17 #[v, .string key] w fun e w' => e = .returned (.bool (placeB key x.f3)) ∧ Below w.heap.size w w' := by
  obtain ⟨A3, c3, A4, c4, rfl, p3, g3, p4, g4⟩ := hv
  obtain ⟨W0, hW0⟩ : ∃ W0 : World, W0 = w.alloc (Obj.cells #[.int .i64 x.f0, .int .i64 x.f1, .string x.f2, .slice A3 x.f3.length c3, .slice A4 x.f4.length c4] 32) := ⟨_, rfl⟩
  have hb0 : Below w.heap.size w W0 := by rw [hW0]; exact (Below.refl _ _).alloc (Nat.le_refl _) _
  have hc := spec_Get x h5 key hl hb W0 (v := cellsS x A3 c3 A4 c4) ⟨A3, c3, A4, c4, rfl, p3, Kd.C_below g3 hb0, p4, Kd.C_below g4 hb0⟩
  obtain ⟨pb, hpb⟩ : ∃ pb, pb = placeB key x.f3 := ⟨_, rfl⟩
  rw [← hpb] at hc
  rw [← hpb]
  have HC := Lib.hid hc
  have HB0 := Aside0.mk hb0
  have HW0 := Lib.hid hW0
  clear hpb hc hb0 hW0 p3 g3 p4 g4 h5 hl hb
  unfold cellsS
  go_enter Try.func17, Try.ntmps17
  go_wp2_with fail
  rw [← HW0.out]
  refine HC.out.mono ?_
  rintro e w1 ⟨⟨u, rfl, y, ⟨E3, d3, E4, d4, rfl, _⟩, _⟩, hb1⟩
  have HB1 := Aside0.mk (below_then HB0.out HB0.out.size hb1)
  clear hb1
  unfold cellsS
  go_wp2
  go_ret
  exact ⟨rfl, HB1.out.alloc HB1.out.size _⟩
theorem place_self (k : ByteArray) : placeB k [k] = true := by
  unfold placeB
  rw [if_neg (by rw [Ord.less_irrefl]; decide)]
  simp
set_option maxHeartbeats 8000000 in
set_option maxRecDepth 100000 in
theorem law_TransformInclude (s : ByteArray) (g : Bool) (w : World) :
    Calls Try.prog 4 #[.string s, .bool g] w fun e w' => e = .returned (.bool true) ∧ Below w.heap.size w w' := by
  by_cases ha : s.size ≤ 2147483647
  case neg =>
    have ga : 2147483647 < (s.size : Int) := by omega
    go_enter Try.func4, Try.ntmps4
    go_wp2_with fail
    go_ret
    exact ⟨rfl, Below.refl _ _⟩
  have ga : ¬ 2147483647 < (s.size : Int) := by omega
  cases hw : wordB s with
  | false =>
    have HW := Lib.hid hw
    clear hw
    go_enter Try.func4, Try.ntmps4
    go_wp2_with fail
    refine (spec_PartWord s _ ha).mono ?_
    rw [HW.out]
    rintro e w1 ⟨rfl, hb⟩
    go_wp2
    go_ret
    exact ⟨rfl, hb⟩
  | true =>
    have HW := Lib.hid hw
    clear hw
    obtain ⟨z, hz⟩ : ∃ z, z = mI [kPath] [s] := ⟨_, rfl⟩
    have HT : Hid (Twin (mS [kPath] [s]) z) := Lib.hid (by rw [hz]; exact twin_map [kPath] [s] (by simp) (by simp))
    have HI1 : Hid (∀ W v, MadeI (tI s) W v → Calls Try.prog 14 #[v, .bool g] W fun e w' => (∃ u, e = .returned (.tuple #[u, .bool true]) ∧ MadeI z w' u) ∧ Below W.heap.size W w') := Lib.hid (by rw [hz]; exact fun W v hv => impl_TransformInclude_text s g W hv)
    have HI2 : Hid (∀ W v, MadeI z W v → Calls Try.prog 14 #[v, .bool g] W fun e w' => (∃ u, e = .returned (.tuple #[u, .bool true]) ∧ MadeI z w' u) ∧ Below W.heap.size W w') := Lib.hid (by rw [hz]; exact fun W v hv => impl_TransformInclude_map s g W hv)
    have HHas : Hid (∀ W v, MadeS (mS [kPath] [s]) W v → Calls Try.prog 17 #[v, .string kPath] W fun e w' => e = .returned (.bool true) ∧ Below W.heap.size W w') := Lib.hid (fun W v hv => by
      have h := spec_Has (mS [kPath] [s]) rfl kPath rfl (by simp [mS]) W hv
      have e : placeB kPath (mS [kPath] [s]).f3 = true := place_self kPath
      rw [e] at h
      exact h)
    obtain ⟨want, hwant⟩ : ∃ want, want = mS [kPath] [s] := ⟨_, rfl⟩
    rw [← hwant] at HT HHas
    have HWN := Lib.hid hwant
    clear hz hwant
    go_enter Try.func4, Try.ntmps4
    go_wp2_with fail
    refine (spec_PartWord s _ ha).mono ?_
    rw [HW.out]
    rintro e w1 ⟨rfl, hb1⟩
    have H1 := Aside0.mk hb1
    clear hb1
    go_wp2_with fail
    refine (L.spec_T s _).mono ?_
    rintro e w2 ⟨rfl, hb2⟩
    have H2 := Aside0.mk (below_then H1.out H1.out.size hb2)
    clear hb2 H1
    go_wp2_with fail
    refine (law_to (twin_text s) (made_text s w2)).mono ?_
    rintro e w3 ⟨⟨u3, rfl, hu3⟩, hb3⟩
    have HU3 := Aside0.mk hu3
    have H3 := Aside0.mk (below_then H2.out H2.out.size hb3)
    clear hb3 H2 hu3
    go_wp2_with fail
    refine (HI1.out w3 u3 HU3.out).mono ?_
    rintro e w4 ⟨⟨u4, rfl, hu4⟩, hb4⟩
    obtain ⟨E3, a3, E4, a4, rfl, q3, r3, q4, r4⟩ := hu4
    obtain ⟨W4, hW4⟩ : ∃ W4 : World, W4 = w4.alloc (Obj.cells #[.int .i64 z.f0, .int .i64 z.f1, .string z.f2, .slice E3 z.f3.length a3, .slice E4 z.f4.length a4] 28) := ⟨_, rfl⟩
    have h4 : Below w.heap.size w W4 := by rw [hW4]; exact (below_then H3.out H3.out.size hb4).alloc (Nat.le_trans H3.out.size hb4.size) _
    have hu4 : MadeI z W4 (cellsI z E3 a3 E4 a4) := MadeI.below_ ⟨E3, a3, E4, a4, rfl, q3, r3, q4, r4⟩ (by rw [hW4]; exact (Below.refl _ _).alloc (Nat.le_refl _) _)
    have hz4 : W4.heap[w4.heap.size]? = some (.cells #[.int .i64 z.f0, .int .i64 z.f1, .string z.f2, .slice E3 z.f3.length a3, .slice E4 z.f4.length a4] 28 (0, 0)) := by rw [hW4]; exact new_atI rfl
    obtain ⟨b5, hb5⟩ : ∃ b5, b5 = w4.heap.size := ⟨_, rfl⟩
    have HB5 := Lib.hid hb5
    have HW4 := Lib.hid hW4
    rw [← hb5] at hz4
    have H4 := Aside0.mk h4
    have HU4 := Aside0.mk hu4
    have HZ4 := Aside0.mk hz4
    clear hb4 q3 r3 q4 r4 hW4 h4 hu4 hz4 hb5 H3 HU3
    unfold cellsI
    go_upto_region 6 with fail
    rw [← HW4.out, ← HB5.out]
    go_wp2_with fail
    refine (L.spec_T s _).mono ?_
    rintro e w5 ⟨rfl, hb5⟩
    have H5 := Aside0.mk hb5
    clear hb5
    go_wp2_with fail
    refine (M_one kPath s w5.heap.size _ ?_ ?_).mono ?_
    · simp
    · simp
    rintro e w6 ⟨⟨v6, rfl, hv6⟩, hb6⟩
    rw [← HWN.out] at hv6
    have HV6 := Aside0.mk hv6
    have H6 : Aside0 (Below W4.heap.size W4 w6) := ⟨(H5.out.alloc H5.out.size _).trans (hb6.mono (by have := H5.out.size; simp; omega))⟩
    clear hv6 hb6 H5
    go_wp2_with fail
    refine (law_to HT.out HV6.out).mono ?_
    rintro e w7 ⟨⟨u7, rfl, hu7⟩, hb7⟩
    have HU7 := Aside0.mk hu7
    have H7 := Aside0.mk (below_then H6.out H6.out.size hb7)
    clear hb7 H6 hu7 HV6
    go_wp2_with fail
    refine (HI2.out w7 u7 HU7.out).mono ?_
    rintro e w8 ⟨⟨u8, rfl, hu8⟩, hb8⟩
    obtain ⟨F3, s3, F4, s4, rfl, q3, r3, q4, r4⟩ := hu8
    obtain ⟨W5, hW5⟩ : ∃ W5 : World, W5 = w8.alloc (Obj.cells #[.int .i64 z.f0, .int .i64 z.f1, .string z.f2, .slice F3 z.f3.length s3, .slice F4 z.f4.length s4] 28) := ⟨_, rfl⟩
    have hb35 : Below W4.heap.size W4 W5 := by rw [hW5]; exact (below_then H7.out H7.out.size hb8).alloc (Nat.le_trans H7.out.size hb8.size) _
    have hu5 : MadeI z W5 (cellsI z F3 s3 F4 s4) := MadeI.below_ ⟨F3, s3, F4, s4, rfl, q3, r3, q4, r4⟩ (by rw [hW5]; exact (Below.refl _ _).alloc (Nat.le_refl _) _)
    have hz5 : W5.heap[w8.heap.size]? = some (.cells #[.int .i64 z.f0, .int .i64 z.f1, .string z.f2, .slice F3 z.f3.length s3, .slice F4 z.f4.length s4] 28 (0, 0)) := by rw [hW5]; exact new_atI rfl
    obtain ⟨b7, hb7⟩ : ∃ b7, b7 = w8.heap.size := ⟨_, rfl⟩
    have HB7 := Lib.hid hb7
    have HW5 := Lib.hid hW5
    rw [← hb7] at hz5
    have HBW := Aside0.mk (H4.out.trans (hb35.mono H4.out.size))
    have HU5 := Aside0.mk hu5
    have HV5 := Aside0.mk (HU4.out.below_ hb35)
    have n0 : W5.cell? ⟨b5, 0, none⟩ = some (.int .i64 z.f0) := (blk_cell (blk_below HZ4.out hb35) 0).trans rfl
    have n1 : W5.cell? ⟨b5, 1, none⟩ = some (.int .i64 z.f1) := (blk_cell (blk_below HZ4.out hb35) 1).trans rfl
    have n2 : W5.cell? ⟨b5, 2, none⟩ = some (.string z.f2) := (blk_cell (blk_below HZ4.out hb35) 2).trans rfl
    have n3 : W5.cell? ⟨b5, 3, none⟩ = some (.slice E3 z.f3.length a3) := (blk_cell (blk_below HZ4.out hb35) 3).trans rfl
    have n4 : W5.cell? ⟨b5, 4, none⟩ = some (.slice E4 z.f4.length a4) := (blk_cell (blk_below HZ4.out hb35) 4).trans rfl
    have o0 : W5.cell? ⟨b7, 0, none⟩ = some (.int .i64 z.f0) := (blk_cell hz5 0).trans rfl
    have o1 : W5.cell? ⟨b7, 1, none⟩ = some (.int .i64 z.f1) := (blk_cell hz5 1).trans rfl
    have o2 : W5.cell? ⟨b7, 2, none⟩ = some (.string z.f2) := (blk_cell hz5 2).trans rfl
    have o3 : W5.cell? ⟨b7, 3, none⟩ = some (.slice F3 z.f3.length s3) := (blk_cell hz5 3).trans rfl
    have o4 : W5.cell? ⟨b7, 4, none⟩ = some (.slice F4 z.f4.length s4) := (blk_cell hz5 4).trans rfl
    clear hb8 q3 r3 q4 r4 hW5 hb35 hu5 hz5 hb7 H7 HU7
    unfold cellsI
    go_upto_region 7 with fail
    rw [← HW5.out, ← HB7.out]
    refine start_ (n := 17) (S := fun w' => w'.cell? ⟨b5, 0, none⟩ = some (.int .i64 z.f0) ∧ w'.cell? ⟨b5, 1, none⟩ = some (.int .i64 z.f1) ∧ w'.cell? ⟨b5, 2, none⟩ = some (.string z.f2) ∧ w'.cell? ⟨b5, 3, none⟩ = some (.slice E3 z.f3.length a3) ∧ w'.cell? ⟨b5, 4, none⟩ = some (.slice E4 z.f4.length a4) ∧ w'.cell? ⟨b7, 0, none⟩ = some (.int .i64 z.f0) ∧ w'.cell? ⟨b7, 1, none⟩ = some (.int .i64 z.f1) ∧ w'.cell? ⟨b7, 2, none⟩ = some (.string z.f2) ∧ w'.cell? ⟨b7, 3, none⟩ = some (.slice F3 z.f3.length s3) ∧ w'.cell? ⟨b7, 4, none⟩ = some (.slice F4 z.f4.length s4)) (ds := []) #[false, false, false, false, false, false, false, false, false, false, false, false, false, false, false, false, false] (by kernel_rfl) rfl rfl ⟨n0, n1, n2, n3, n4, o0, o1, o2, o3, o4⟩ (fun hHeld => ?_)
    refine pure_ (i := 0) (N := some 35) (v := ?_) (a' := ?_) #[true, false, false, false, false, false, false, false, false, false, false, false, false, false, false, false, false] rfl rfl (by kernel_rfl) (fun _ _ _ h => h) (Or.inl ⟨by rfl, ?_⟩) ?_ ?_
    rotate_left
    · intro w'
      go_simp
      with_reducible rfl
    rotate_left
    · simp only [Act.put, List.setIfInBounds_toArray, List.set_cons_zero, List.set_cons_succ, i64_w, i32_w]
      rfl
    refine pure_ (i := 1) (N := some 36) (v := ?_) (a' := ?_) #[true, true, false, false, false, false, false, false, false, false, false, false, false, false, false, false, false] rfl rfl (by kernel_rfl) (fun _ _ _ h => h) (Or.inl ⟨by rfl, ?_⟩) ?_ ?_
    rotate_left
    · intro w'
      go_simp
      with_reducible rfl
    rotate_left
    · simp only [Act.put, List.setIfInBounds_toArray, List.set_cons_zero, List.set_cons_succ, i64_w, i32_w]
      rfl
    refine pure_ (i := 2) (N := some 37) (v := ?_) (a' := ?_) #[true, true, true, false, false, false, false, false, false, false, false, false, false, false, false, false, false] rfl rfl (by kernel_rfl) (fun _ _ _ h => h) (Or.inl ⟨by rfl, ?_⟩) ?_ ?_
    rotate_left
    · intro w'
      go_simp
      with_reducible rfl
    rotate_left
    · simp only [Act.put, List.setIfInBounds_toArray, List.set_cons_zero, List.set_cons_succ, i64_w, i32_w]
      rfl
    refine pure_ (i := 3) (N := some 38) (v := ?_) (a' := ?_) #[true, true, true, true, false, false, false, false, false, false, false, false, false, false, false, false, false] rfl rfl (by kernel_rfl) (fun _ _ _ h => h) (Or.inl ⟨by rfl, ?_⟩) ?_ ?_
    rotate_left
    · intro w'
      go_simp
      with_reducible rfl
    rotate_left
    · simp only [Act.put, List.setIfInBounds_toArray, List.set_cons_zero, List.set_cons_succ, i64_w, i32_w]
      rfl
    refine pure_ (i := 4) (N := some 39) (v := ?_) (a' := ?_) #[true, true, true, true, true, false, false, false, false, false, false, false, false, false, false, false, false] rfl rfl (by kernel_rfl) (fun _ _ _ h => h) (Or.inl ⟨by rfl, ?_⟩) ?_ ?_
    rotate_left
    · intro w'
      go_simp
      with_reducible rfl
    rotate_left
    · simp only [Act.put, List.setIfInBounds_toArray, List.set_cons_zero, List.set_cons_succ, i64_w, i32_w]
      rfl
    refine take_ (i := 5) (N := some 40) (v := ?_) (a' := ?_) #[true, true, true, true, true, true, false, false, false, false, false, false, false, false, false, false, false] rfl rfl (by kernel_rfl) (fun _ _ _ h => h) (Or.inl ⟨by rfl, ?_⟩) hHeld ?_ ?_
    rotate_left
    · rintro w' ⟨s0, s1, s2, s3, s4, s5, s6, s7, s8, s9⟩
      go_simp
      with_reducible rfl
    rotate_left
    · simp only [Act.put, List.setIfInBounds_toArray, List.set_cons_zero, List.set_cons_succ, i64_w, i32_w]
      rfl
    refine take_ (i := 7) (N := some 42) (v := ?_) (a' := ?_) #[true, true, true, true, true, true, false, true, false, false, false, false, false, false, false, false, false] rfl rfl (by kernel_rfl) (fun _ _ _ h => h) (Or.inl ⟨by rfl, ?_⟩) hHeld ?_ ?_
    rotate_left
    · rintro w' ⟨s0, s1, s2, s3, s4, s5, s6, s7, s8, s9⟩
      go_simp
      with_reducible rfl
    rotate_left
    · simp only [Act.put, List.setIfInBounds_toArray, List.set_cons_zero, List.set_cons_succ, i64_w, i32_w]
      rfl
    refine one_ (i := 6) (N := some 41) #[true, true, true, true, true, true, true, true, false, false, false, false, false, false, false, false, false] rfl rfl (by kernel_rfl) (by decide) (fun K hK => ?_)
    refine goes_ Try.func16 (by kernel_rfl) rfl #[cellsI z E3 a3 E4 a4] (by rfl) rfl rfl (by simp only [List.map_toArray, List.map_cons, List.map_nil]; rfl) ?_
    with_reducible refine (law_from HT.out (v := cellsI z E3 a3 E4 a4) (w := W5.drew) (HV5.out.below_ (below_drew1 (Below.refl _ _)))).mono ?_
    rintro e w6 ⟨⟨u6, rfl, hu6⟩, hb6⟩
    refine ⟨_, rfl, ?_⟩
    obtain ⟨J3, j3, J4, j4, rfl, i3, x3, i4, x4⟩ := hu6
    have hc6 : Below W5.heap.size W5 w6 := below_un hb6
    have HC6 := Aside0.mk hc6
    have HQ6 : Aside0 (MadeS want w6 (cellsS want J3 j3 J4 j4)) := ⟨J3, j3, J4, j4, rfl, i3, x3, i4, x4⟩
    clear hb6 hc6 i3 x3 i4 x4
    refine hK.out _ _ ⟨(HC6.out.cell (World.block_lt_of_cell? W5 _ n0)).trans n0, (HC6.out.cell (World.block_lt_of_cell? W5 _ n1)).trans n1, (HC6.out.cell (World.block_lt_of_cell? W5 _ n2)).trans n2, (HC6.out.cell (World.block_lt_of_cell? W5 _ n3)).trans n3, (HC6.out.cell (World.block_lt_of_cell? W5 _ n4)).trans n4, (HC6.out.cell (World.block_lt_of_cell? W5 _ o0)).trans o0, (HC6.out.cell (World.block_lt_of_cell? W5 _ o1)).trans o1, (HC6.out.cell (World.block_lt_of_cell? W5 _ o2)).trans o2, (HC6.out.cell (World.block_lt_of_cell? W5 _ o3)).trans o3, (HC6.out.cell (World.block_lt_of_cell? W5 _ o4)).trans o4⟩ (fun hHeld => ?_)
    clear hK K
    refine norm_ (a' := ?_) ?_ ?_
    rotate_left
    · show Act.put _ (some 41) _ = _
      simp only [Act.put, List.setIfInBounds_toArray, List.set_cons_zero, List.set_cons_succ, i64_w, i32_w]
      rfl
    refine one_ (i := 8) (N := some 43) #[true, true, true, true, true, true, true, true, true, false, false, false, false, false, false, false, false] rfl rfl (by kernel_rfl) (by decide) (fun K hK => ?_)
    refine goes_ Try.func16 (by kernel_rfl) rfl #[cellsI z F3 s3 F4 s4] (by rfl) rfl rfl (by simp only [List.map_toArray, List.map_cons, List.map_nil]; rfl) ?_
    with_reducible refine (law_from HT.out (v := cellsI z F3 s3 F4 s4) (w := w6) (HU5.out.below_ HC6.out)).mono ?_
    rintro e w7 ⟨⟨u7, rfl, hu7⟩, hb7⟩
    refine ⟨_, rfl, ?_⟩
    obtain ⟨M3, j5, M4, j6, rfl, i3, x3, i4, x4⟩ := hu7
    have HC7 := Aside0.mk (below_then HC6.out HC6.out.size hb7)
    have HQ7 : Aside0 (MadeS want w7 (cellsS want M3 j5 M4 j6)) := ⟨M3, j5, M4, j6, rfl, i3, x3, i4, x4⟩
    have HR7 := Aside0.mk (HQ6.out.below_ hb7)
    clear hb7 i3 x3 i4 x4
    refine hK.out _ _ ⟨(HC7.out.cell (World.block_lt_of_cell? W5 _ n0)).trans n0, (HC7.out.cell (World.block_lt_of_cell? W5 _ n1)).trans n1, (HC7.out.cell (World.block_lt_of_cell? W5 _ n2)).trans n2, (HC7.out.cell (World.block_lt_of_cell? W5 _ n3)).trans n3, (HC7.out.cell (World.block_lt_of_cell? W5 _ n4)).trans n4, (HC7.out.cell (World.block_lt_of_cell? W5 _ o0)).trans o0, (HC7.out.cell (World.block_lt_of_cell? W5 _ o1)).trans o1, (HC7.out.cell (World.block_lt_of_cell? W5 _ o2)).trans o2, (HC7.out.cell (World.block_lt_of_cell? W5 _ o3)).trans o3, (HC7.out.cell (World.block_lt_of_cell? W5 _ o4)).trans o4⟩ (fun hHeld => ?_)
    clear hK K
    refine norm_ (a' := ?_) ?_ ?_
    rotate_left
    · show Act.put _ (some 43) _ = _
      simp only [Act.put, List.setIfInBounds_toArray, List.set_cons_zero, List.set_cons_succ, i64_w, i32_w]
      rfl
    refine one_ (i := 9) (N := some 44) #[true, true, true, true, true, true, true, true, true, true, false, false, false, false, false, false, false] rfl rfl (by kernel_rfl) (by decide) (fun K hK => ?_)
    refine goes_ Try.func15 (by kernel_rfl) rfl #[cellsS want J3 j3 J4 j4, cellsS want M3 j5 M4 j6] (by rfl) rfl rfl (by simp only [List.map_toArray, List.map_cons, List.map_nil]; rfl) ?_
    with_reducible refine (law_same HT.out.bnd (v := cellsS want J3 j3 J4 j4) (u := cellsS want M3 j5 M4 j6) (w := w7) HR7.out HQ7.out).mono ?_
    rintro e w9 ⟨rfl, hb9⟩
    refine ⟨_, rfl, ?_⟩
    have HC9 := Aside0.mk (below_then HC7.out HC7.out.size hb9)
    clear hb9
    refine hK.out _ _ ⟨(HC9.out.cell (World.block_lt_of_cell? W5 _ n0)).trans n0, (HC9.out.cell (World.block_lt_of_cell? W5 _ n1)).trans n1, (HC9.out.cell (World.block_lt_of_cell? W5 _ n2)).trans n2, (HC9.out.cell (World.block_lt_of_cell? W5 _ n3)).trans n3, (HC9.out.cell (World.block_lt_of_cell? W5 _ n4)).trans n4, (HC9.out.cell (World.block_lt_of_cell? W5 _ o0)).trans o0, (HC9.out.cell (World.block_lt_of_cell? W5 _ o1)).trans o1, (HC9.out.cell (World.block_lt_of_cell? W5 _ o2)).trans o2, (HC9.out.cell (World.block_lt_of_cell? W5 _ o3)).trans o3, (HC9.out.cell (World.block_lt_of_cell? W5 _ o4)).trans o4⟩ (fun hHeld => ?_)
    clear hK K
    refine norm_ (a' := ?_) ?_ ?_
    rotate_left
    · show Act.put _ (some 44) _ = _
      simp only [Act.put, List.setIfInBounds_toArray, List.set_cons_zero, List.set_cons_succ, i64_w, i32_w]
      rfl
    refine pure_ (i := 10) (N := some 45) (v := ?_) (a' := ?_) #[true, true, true, true, true, true, true, true, true, true, true, false, false, false, false, false, false] rfl rfl (by kernel_rfl) (fun _ _ _ h => h) (Or.inl ⟨by rfl, ?_⟩) ?_ ?_
    rotate_left
    · intro w'
      go_simp
      with_reducible rfl
    rotate_left
    · simp only [Act.put, List.setIfInBounds_toArray, List.set_cons_zero, List.set_cons_succ, i64_w, i32_w]
      rfl
    refine pure_ (i := 11) (N := some 46) (v := ?_) (a' := ?_) #[true, true, true, true, true, true, true, true, true, true, true, true, false, false, false, false, false] rfl rfl (by kernel_rfl) (fun _ _ _ h => h) (Or.inl ⟨by rfl, ?_⟩) ?_ ?_
    rotate_left
    · intro w'
      go_simp
      with_reducible rfl
    rotate_left
    · simp only [Act.put, List.setIfInBounds_toArray, List.set_cons_zero, List.set_cons_succ, i64_w, i32_w]
      rfl
    refine take_ (i := 12) (N := some 47) (v := ?_) (a' := ?_) #[true, true, true, true, true, true, true, true, true, true, true, true, true, false, false, false, false] rfl rfl (by kernel_rfl) (fun _ _ _ h => h) (Or.inl ⟨by rfl, ?_⟩) hHeld ?_ ?_
    rotate_left
    · rintro w' ⟨s0, s1, s2, s3, s4, s5, s6, s7, s8, s9⟩
      go_simp
      with_reducible rfl
    rotate_left
    · simp only [Act.put, List.setIfInBounds_toArray, List.set_cons_zero, List.set_cons_succ, i64_w, i32_w]
      rfl
    refine one_ (i := 13) (N := some 48) #[true, true, true, true, true, true, true, true, true, true, true, true, true, true, false, false, false] rfl rfl (by kernel_rfl) (by decide) (fun K hK => ?_)
    refine goes_ Try.func16 (by kernel_rfl) rfl #[cellsI z E3 a3 E4 a4] (by rfl) rfl rfl (by simp only [List.map_toArray, List.map_cons, List.map_nil]; rfl) ?_
    with_reducible refine (law_from HT.out (v := cellsI z E3 a3 E4 a4) (w := w9) (HV5.out.below_ HC9.out)).mono ?_
    rintro e w10 ⟨⟨u8, rfl, hu8⟩, hb8⟩
    refine ⟨_, rfl, ?_⟩
    obtain ⟨N3, k5, N4, k6, rfl, i3, x3, i4, x4⟩ := hu8
    have HC10 := Aside0.mk (below_then HC9.out HC9.out.size hb8)
    have HQ10 : Aside0 (MadeS want w10 (cellsS want N3 k5 N4 k6)) := ⟨N3, k5, N4, k6, rfl, i3, x3, i4, x4⟩
    clear hb8 i3 x3 i4 x4
    refine hK.out _ _ ⟨(HC10.out.cell (World.block_lt_of_cell? W5 _ n0)).trans n0, (HC10.out.cell (World.block_lt_of_cell? W5 _ n1)).trans n1, (HC10.out.cell (World.block_lt_of_cell? W5 _ n2)).trans n2, (HC10.out.cell (World.block_lt_of_cell? W5 _ n3)).trans n3, (HC10.out.cell (World.block_lt_of_cell? W5 _ n4)).trans n4, (HC10.out.cell (World.block_lt_of_cell? W5 _ o0)).trans o0, (HC10.out.cell (World.block_lt_of_cell? W5 _ o1)).trans o1, (HC10.out.cell (World.block_lt_of_cell? W5 _ o2)).trans o2, (HC10.out.cell (World.block_lt_of_cell? W5 _ o3)).trans o3, (HC10.out.cell (World.block_lt_of_cell? W5 _ o4)).trans o4⟩ (fun hHeld => ?_)
    clear hK K
    refine norm_ (a' := ?_) ?_ ?_
    rotate_left
    · show Act.put _ (some 48) _ = _
      simp only [Act.put, List.setIfInBounds_toArray, List.set_cons_zero, List.set_cons_succ, i64_w, i32_w]
      rfl
    refine one_ (i := 14) (N := some 49) #[true, true, true, true, true, true, true, true, true, true, true, true, true, true, true, false, false] rfl rfl (by kernel_rfl) (by decide) (fun K hK => ?_)
    refine goes_ Try.func17 (by kernel_rfl) rfl #[cellsS want N3 k5 N4 k6, .string kPath] (by rfl) rfl rfl (by simp only [List.map_toArray, List.map_cons, List.map_nil]; rfl) ?_
    with_reducible refine (HHas.out w10 (cellsS want N3 k5 N4 k6) HQ10.out).mono ?_
    rintro e w11 ⟨rfl, hb9⟩
    refine ⟨_, rfl, ?_⟩
    have HC11 := Aside0.mk (below_then HC10.out HC10.out.size hb9)
    clear hb9
    refine hK.out _ _ ⟨(HC11.out.cell (World.block_lt_of_cell? W5 _ n0)).trans n0, (HC11.out.cell (World.block_lt_of_cell? W5 _ n1)).trans n1, (HC11.out.cell (World.block_lt_of_cell? W5 _ n2)).trans n2, (HC11.out.cell (World.block_lt_of_cell? W5 _ n3)).trans n3, (HC11.out.cell (World.block_lt_of_cell? W5 _ n4)).trans n4, (HC11.out.cell (World.block_lt_of_cell? W5 _ o0)).trans o0, (HC11.out.cell (World.block_lt_of_cell? W5 _ o1)).trans o1, (HC11.out.cell (World.block_lt_of_cell? W5 _ o2)).trans o2, (HC11.out.cell (World.block_lt_of_cell? W5 _ o3)).trans o3, (HC11.out.cell (World.block_lt_of_cell? W5 _ o4)).trans o4⟩ (fun hHeld => ?_)
    clear hK K
    refine norm_ (a' := ?_) ?_ ?_
    rotate_left
    · show Act.put _ (some 49) _ = _
      simp only [Act.put, List.setIfInBounds_toArray, List.set_cons_zero, List.set_cons_succ, i64_w, i32_w]
      rfl
    refine pure_ (i := 15) (N := some 50) (v := ?_) (a' := ?_) #[true, true, true, true, true, true, true, true, true, true, true, true, true, true, true, true, false] rfl rfl (by kernel_rfl) (fun _ _ _ h => h) (Or.inl ⟨by rfl, ?_⟩) ?_ ?_
    rotate_left
    · intro w'
      go_simp
      with_reducible rfl
    rotate_left
    · simp only [Act.put, List.setIfInBounds_toArray, List.set_cons_zero, List.set_cons_succ, i64_w, i32_w]
      rfl
    refine pure_ (i := 16) (N := some 4) (v := ?_) (a' := ?_) #[true, true, true, true, true, true, true, true, true, true, true, true, true, true, true, true, true] rfl rfl (by kernel_rfl) (fun _ _ _ h => h) (Or.inl ⟨by rfl, ?_⟩) ?_ ?_
    rotate_left
    · intro w'
      go_simp
      with_reducible rfl
    rotate_left
    · simp only [Act.put, List.setIfInBounds_toArray, List.set_cons_zero, List.set_cons_succ, i64_w, i32_w]
      rfl
    refine done_ (by kernel_rfl) ?_
    
    go_wp2
    go_ret
    exact ⟨rfl, HBW.out.trans (HC11.out.mono HBW.out.size)⟩
end Go.Proofs.Ytadcdjiahekkgaa.A
