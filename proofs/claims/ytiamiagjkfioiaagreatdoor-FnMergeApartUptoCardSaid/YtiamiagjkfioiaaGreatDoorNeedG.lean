/- Walks and facts on values with their cells: spec.Get, spec.With of any key, laws.zzFits1, spec.Fit (printed by gen_need.py). -/
import Derived.Test.YtiamiagjkfioiaaGreatDoorDeepM
import Derived.Test.YtiamiagjkfioiaaGreatDoorFitM
import Derived.Test.YtiamiagjkfioiaaGreatDoorPTx4
namespace Go.Proofs.YtiamiagjkfioiaaGreatDoor.A
set_option linter.unusedVariables false
set_option linter.unusedSimpArgs false
set_option linter.unusedSectionVars false
open Go.RowKit Go.Proofs.YtiamiagjkfioiaaGreatDoorW.PrintWords Go.Proofs.YtiamiagjkfioiaaGreatDoorW.PrintLast Go.Proofs.YtiamiagjkfioiaaGreatDoorW.PrintMore Go.Proofs.YtiamiagjkfioiaaGreatDoor.PT Go.Proofs.YtiamiagjkfioiaaGreatDoor.L Go.Proofs.YtiamiagjkfioiaaGreatDoor.SM

theorem wrapT1 (i : Nat) (h : i < 4611686018427387904) : wrap64 ((i : Int) + 1) = ((i + 1 : Nat) : Int) := by unfold wrap64; omega
theorem fits2_loop (l : List ByteArray) (hb : l.length ≤ 2147483647) : ∀ d j, j + d = l.length → ∃ r, laws_zzFits2.l0 (d + 1) l (l.length : Int) (j : Int) = some r
  | 0, j, hj => ⟨true, by simp only [laws_zzFits2.l0]; rw [if_neg (by omega)]⟩
  | d + 1, j, hj => by
    obtain ⟨r, hr⟩ := fits2_loop l hb d (j + 1) (by omega)
    rw [laws_zzFits2.l0, if_pos (by omega), if_pos (by omega), if_pos (by omega)]
    split
    · exact ⟨_, rfl⟩
    · exact ⟨r, by rw [wrapT1 _ (by omega)]; exact hr⟩
theorem fits1_total (a b : Int) (s : ByteArray) (l : List ByteArray) (vs : List SV) : ∃ k r, laws_zzFits1.f k a b s l vs = some r := by
  have h2 : ∃ r, laws_zzFits2.f (l.length + 1) l = some r := by
    unfold laws_zzFits2.f
    by_cases h : (l.length : Int) > 2147483647
    · exact ⟨_, if_pos h⟩
    · rw [if_neg h]
      exact fits2_loop l (by omega) l.length 0 (by omega)
  obtain ⟨r, hr⟩ := h2
  refine ⟨l.length + 1, ?_⟩
  unfold laws_zzFits1.f
  rw [hr]
  simp only [Option.bind_some]
  split
  · exact ⟨_, rfl⟩
  · split
    · split
      · exact ⟨_, rfl⟩
      · exact ⟨_, rfl⟩
    · exact ⟨_, rfl⟩
theorem law_fits1 {x : SV} {v : Value} {w : World} (hv : MadeS x w v) : Calls Tryz.prog 17 #[v] w fun e w' => (∃ r, e = .returned (.bool r)) ∧ Below w.heap.size w w' := by
  obtain ⟨A3, c3, A4, c4, rfl, h3, g3, h4, g4⟩ := hv
  obtain ⟨k, r, hk⟩ := fits1_total x.f0 x.f1 x.f2 x.f3 x.f4
  refine (laws_zzFits1.calls k x.f0 x.f1 x.f2 A3 c3 x.f3 A4 c4 x.f4 r w g3 h3 g4 h4 hk).mono ?_
  rintro e w' ⟨rfl, hb⟩
  exact ⟨⟨r, rfl⟩, hb⟩
/-- where a key stands among rising keys -/
theorem place_at {ks : List ByteArray} (ha : Ord.Asc id ks) {i : Nat} (hi : i < ks.length) : placeN (ks[i]'hi) ks = i ∧ placeB (ks[i]'hi) ks = true := by
  induction ks generalizing i with
  | nil => cases hi
  | cons y l ih =>
    have h1 := (List.pairwise_cons.1 ha).1
    have h2 := (List.pairwise_cons.1 ha).2
    rcases i with _ | i
    · have e : Op.bytesLess y.toList y.toList = false := Ord.lt_irrefl y
      show placeN y (y :: l) = 0 ∧ placeB y (y :: l) = true
      simp [placeN, placeB, e]
    · have hi' : i < l.length := by simpa using hi
      have e : Op.bytesLess y.toList (l[i]'hi').toList = true := h1 _ (List.getElem_mem hi')
      obtain ⟨h3, h4⟩ := ih h2 hi'
      show placeN (l[i]'hi') (y :: l) = i + 1 ∧ placeB (l[i]'hi') (y :: l) = true
      simp [placeN, placeB, e, h3, h4]
theorem place_in {key : ByteArray} : ∀ {ks : List ByteArray}, placeB key ks = true → ∃ h : placeN key ks < ks.length, ks[placeN key ks]'h = key
  | [], h => by cases h
  | y :: l, h => by
    unfold placeB at h
    split at h
    · rename_i c
      obtain ⟨h1, h2⟩ := place_in (ks := l) h
      have e : placeN key (y :: l) = placeN key l + 1 := by simp [placeN, c]
      exact ⟨by rw [e]; simpa using h1, by simp only [e]; simpa using h2⟩
    · rename_i c
      have e : placeN key (y :: l) = 0 := by simp [placeN, c]
      exact ⟨by rw [e]; simp, by simp only [e]; exact Ord.toList_inj (by simpa using h)⟩
theorem place_not {key : ByteArray} {ks : List ByteArray} (ha : Ord.Asc id ks) (h : placeB key ks = false) : key ∉ ks := fun hk => by
  obtain ⟨i, hi, rfl⟩ := List.mem_iff_getElem.1 hk
  rw [(place_at ha hi).2] at h
  cases h
theorem at_R {w : World} {B : Option Addr} {n : Nat} {rs : List RV} (h : Kd.C kR w B n rs) (i : Nat) (hi : i < n) (hr : i < rs.length) : ∃ ad, B = some ad ∧ w.cell? (ad.add (i * 5)) = some (.int .i64 (rs[i]'hr).n0) ∧ w.cell? ⟨(ad.add (i * 5)).block, (ad.add (i * 5)).off + 1, none⟩ = some (.int .i64 (rs[i]'hr).n1) ∧ w.cell? ⟨(ad.add (i * 5)).block, (ad.add (i * 5)).off + 2, none⟩ = some (.string (rs[i]'hr).t) ∧ w.cell? ⟨(ad.add (i * 5)).block, (ad.add (i * 5)).off + 3, none⟩ = some (.slice (rs[i]'hr).A (rs[i]'hr).an (rs[i]'hr).ac) ∧ w.cell? ⟨(ad.add (i * 5)).block, (ad.add (i * 5)).off + 4, none⟩ = some (.slice (rs[i]'hr).B (rs[i]'hr).bn (rs[i]'hr).bc) := by
  obtain ⟨ad, c, e, _, hK, hc0⟩ := Kd.C_get h RV.zero (i : Int) (by omega) (by omega)
  have hc : ∀ j u, c[j]? = some u → w.cell? (ad.add (i * 5 + j)) = some u := fun j u h => by
    have h2 := hc0 j u h
    simp only [Int.toNat_natCast] at h2
    exact h2
  have hq : (rs.getD i RV.zero) = rs[i]'hr := by simp [List.getD_eq_getElem?_getD, List.getElem?_eq_getElem hr]
  have hK' : c = (rs[i]'hr).cs := by
    have h2 : c = (rs.getD ((i : Int)).toNat RV.zero).cs := hK
    rw [Int.toNat_natCast, hq] at h2
    exact h2
  subst hK'
  exact ⟨ad, e, hc 0 _ rfl, by rw [← add_field _ _ 1 (by omega)]; exact hc 1 _ rfl, by rw [← add_field _ _ 2 (by omega)]; exact hc 2 _ rfl, by rw [← add_field _ _ 3 (by omega)]; exact hc 3 _ rfl, by rw [← add_field _ _ 4 (by omega)]; exact hc 4 _ rfl⟩
def getR (b : Bool) (n : Nat) (rs : List RV) : RV := if b then rs.getD n RV.zero else RV.zero
set_option maxHeartbeats 4000000 in
set_option maxRecDepth 100000 in
theorem spec_GetR (r : RV) (h5 : r.n0 = 5) (key : ByteArray) (ks : List ByteArray) (rs : List RV) (hl : rs.length = ks.length) (hb : ks.length ≤ 1099511627776) (han : r.an = ks.length) (hbn : r.bn = rs.length) (w : World) (hk : Kd.C Kd.string w r.A ks.length ks) (hr : Kd.C kR w r.B rs.length rs) :
    Calls Tryz.prog 24 #[r.val, .string key] w fun e w' => e = .returned (.tuple #[(getR (placeB key ks) (placeN key ks) rs).val, .bool (placeB key ks)]) ∧ Below w.heap.size w w' := by
  obtain ⟨g, hg⟩ : ∃ g, g = (getR (placeB key ks) (placeN key ks) rs).val := ⟨_, rfl⟩
  rw [← hg]
  have HGV := Lib.hid hg
  clear hg
  unfold RV.val
  rw [h5, han, hbn]
  obtain ⟨W0, hW0⟩ : ∃ W0 : World, W0 = (w.alloc (Obj.cells #[.int .i64 5, .int .i64 r.n1, .string r.t, .slice r.A ks.length r.ac, .slice r.B rs.length r.bc] 26)).alloc (Obj.cells zV 26) := ⟨_, rfl⟩
  have hb0 : Below w.heap.size w W0 := by rw [hW0]; exact ((Below.refl _ _).alloc (Nat.le_refl _) _).alloc (by simp) _
  have hbx : W0.heap[w.heap.size]? = some (.cells #[.int .i64 5, .int .i64 r.n1, .string r.t, .slice r.A ks.length r.ac, .slice r.B rs.length r.bc] 26 (0, 0)) := by rw [hW0]; exact heap_oldI (new_atI rfl)
  have hre : W0.heap[w.heap.size + 1]? = some (.cells zV 26 (0, 0)) := by rw [hW0]; exact new_atI (by simp)
  have HB0 := Aside0.mk hb0
  have HBX := Aside0.mk hbx
  have HRE := Aside0.mk hre
  have G3 := Aside0.mk (Kd.C_below hk hb0)
  have G4 := Aside0.mk hr
  have HL := Lib.hid hl
  have HW0 := Lib.hid hW0
  have m0 : W0.cell? ⟨w.heap.size, 0, none⟩ = some (.int .i64 5) := (blk_cell hbx 0).trans rfl
  have m1 : W0.cell? ⟨w.heap.size, 1, none⟩ = some (.int .i64 r.n1) := (blk_cell hbx 1).trans rfl
  have m2 : W0.cell? ⟨w.heap.size, 2, none⟩ = some (.string r.t) := (blk_cell hbx 2).trans rfl
  have m3 : W0.cell? ⟨w.heap.size, 3, none⟩ = some (.slice r.A ks.length r.ac) := (blk_cell hbx 3).trans rfl
  have m4 : W0.cell? ⟨w.heap.size, 4, none⟩ = some (.slice r.B rs.length r.bc) := (blk_cell hbx 4).trans rfl
  clear hb0 hbx hre hW0 hk hr hl h5 han hbn
  go_enter Tryz.func24, Tryz.ntmps24
  go_upto_region 1 with fail
  rw [← HW0.out]
  go_wp2_with fail
  refine (spec_place ks key r.t 5 r.n1 r.A r.ac (.slice r.B rs.length r.bc) W0 G3.out hb).mono ?_
  unfold placeOut
  clear m0 m1 m2 m3 m4
  rintro e w1 ⟨rfl, hb1⟩
  have HB1 := Aside0.mk hb1
  have hbx := blk_below HBX.out hb1
  have hre := blk_below HRE.out hb1
  have b4 : w1.cell? ⟨w.heap.size, 4, none⟩ = some (.slice r.B rs.length r.bc) := (blk_cell hbx 4).trans rfl
  have n0 : w1.cell? ⟨w.heap.size + 1, 0, none⟩ = some (.int .i64 0) := (blk_cell hre 0).trans rfl
  have n1 : w1.cell? ⟨w.heap.size + 1, 1, none⟩ = some (.int .i64 0) := (blk_cell hre 1).trans rfl
  have n2 : w1.cell? ⟨w.heap.size + 1, 2, none⟩ = some (.string ⟨#[]⟩) := (blk_cell hre 2).trans rfl
  have n3 : w1.cell? ⟨w.heap.size + 1, 3, none⟩ = some (.slice none 0 0) := (blk_cell hre 3).trans rfl
  have n4 : w1.cell? ⟨w.heap.size + 1, 4, none⟩ = some (.slice none 0 0) := (blk_cell hre 4).trans rfl
  have f0 := blk_frozen hre 0
  have f1 := blk_frozen hre 1
  have f2 := blk_frozen hre 2
  have f3 := blk_frozen hre 3
  have f4 := blk_frozen hre 4
  clear hbx hre hb1
  have hbw : Below w.heap.size w w1 := HB0.out.trans (HB1.out.mono HB0.out.size)
  have HBW := Aside0.mk hbw
  clear hbw
  cases hB : placeB key ks with
  | false =>
    go_wp2
    refine bodyPost_ret (v := .tuple #[.agg zV, .bool false]) (by simp [results, Tryz.results24, go_sem, *]) rfl ?_
    refine ⟨by rw [HGV.out, hB]; rfl, ?_⟩
    first | exact HBW.out | exact below5 HBW.out _ (Nat.le_succ _) _ _ _ _ _
  | true =>
    have hlt := placeB_lt key ks hB
    have HBT := Lib.hid hB
    obtain ⟨i, hi⟩ : ∃ i, i = placeN key ks := ⟨_, rfl⟩
    rw [← hi] at hlt
    rw [← hi]
    have hlr : i < rs.length := by rw [HL.out]; exact hlt
    have i0 : (0 : Int) ≤ (i : Int) := Int.natCast_nonneg _
    have i1 : (i : Int) < (rs.length : Int) := Int.ofNat_lt.2 hlr
    obtain ⟨ade, eA, he0, he1, he2, he3, he4⟩ := at_R G4.out i hlr hlr
    obtain ⟨y, hy⟩ : ∃ y, y = rs[i]'hlr := ⟨_, rfl⟩
    have hgy : getR true i rs = y := by rw [hy]; simp [getR, List.getD_eq_getElem?_getD, List.getElem?_eq_getElem hlr]
    have HGY : Hid (g = y.val) := Lib.hid (by rw [HGV.out, hB, ← hi, hgy])
    rw [← hy] at he0 he1 he2 he3 he4
    have tr : ∀ {q : Addr} {u : Value}, w.cell? q = some u → w1.cell? q = some u := fun h => (HBW.out.cell (World.block_lt_of_cell? w _ h)).trans h
    replace he0 := tr he0
    replace he1 := tr he1
    replace he2 := tr he2
    replace he3 := tr he3
    replace he4 := tr he4
    rw [eA] at b4
    clear hi hlt hlr hy hgy tr hB HGV G3 G4 HW0 HBX HRE
    generalize r.B = rB at *
    subst eA
    go_wp2
    refine bodyPost_ret (v := .tuple #[y.val, .bool true]) (by unfold RV.val; simp [results, Tryz.results24, go_sem, *]) rfl ?_
    exact ⟨by rw [HGY.out, HBT.out], below5 HBW.out (w.heap.size + 1) (Nat.le_succ _) _ _ _ _ _⟩
set_option maxRecDepth 100000 in
theorem spec_GetN (r : RV) (h5 : ¬ r.n0 = 5) (key : ByteArray) (w : World) : Calls Tryz.prog 24 #[r.val, .string key] w fun e w' => e = .returned (.tuple #[.agg zV, .bool false]) ∧ Below w.heap.size w w' := by
  unfold RV.val
  have e5 : (r.n0 != 5) = true := by simpa using h5
  have e6 : (r.n0 == 5) = false := by simpa using h5
  obtain ⟨W0, hW0⟩ : ∃ W0 : World, W0 = (w.alloc (Obj.cells #[.int .i64 r.n0, .int .i64 r.n1, .string r.t, .slice r.A r.an r.ac, .slice r.B r.bn r.bc] 26)).alloc (Obj.cells zV 26) := ⟨_, rfl⟩
  have hb0 : Below w.heap.size w W0 := by rw [hW0]; exact ((Below.refl _ _).alloc (Nat.le_refl _) _).alloc (by simp) _
  have hbx : W0.heap[w.heap.size]? = some (.cells #[.int .i64 r.n0, .int .i64 r.n1, .string r.t, .slice r.A r.an r.ac, .slice r.B r.bn r.bc] 26 (0, 0)) := by rw [hW0]; exact heap_oldI (new_atI rfl)
  have hre : W0.heap[w.heap.size + 1]? = some (.cells zV 26 (0, 0)) := by rw [hW0]; exact new_atI (by simp)
  have HB0 := Aside0.mk hb0
  have HW0 := Lib.hid hW0
  have m0 : W0.cell? ⟨w.heap.size, 0, none⟩ = some (.int .i64 r.n0) := (blk_cell hbx 0).trans rfl
  have n0 : W0.cell? ⟨w.heap.size + 1, 0, none⟩ = some (.int .i64 0) := (blk_cell hre 0).trans rfl
  have n1 : W0.cell? ⟨w.heap.size + 1, 1, none⟩ = some (.int .i64 0) := (blk_cell hre 1).trans rfl
  have n2 : W0.cell? ⟨w.heap.size + 1, 2, none⟩ = some (.string ⟨#[]⟩) := (blk_cell hre 2).trans rfl
  have n3 : W0.cell? ⟨w.heap.size + 1, 3, none⟩ = some (.slice none 0 0) := (blk_cell hre 3).trans rfl
  have n4 : W0.cell? ⟨w.heap.size + 1, 4, none⟩ = some (.slice none 0 0) := (blk_cell hre 4).trans rfl
  have f0 := blk_frozen hre 0
  have f1 := blk_frozen hre 1
  have f2 := blk_frozen hre 2
  have f3 := blk_frozen hre 3
  have f4 := blk_frozen hre 4
  clear hb0 hW0 hbx hre h5
  go_enter Tryz.func24, Tryz.ntmps24
  go_upto_region 1 with fail
  rw [← HW0.out]
  go_wp2
  refine bodyPost_ret (v := .tuple #[.agg zV, .bool false]) (by simp [results, Tryz.results24, go_sem, *]) rfl ?_
  refine ⟨rfl, ?_⟩
  first | exact HB0.out | exact below5 HB0.out _ (Nat.le_succ _) _ _ _ _ _
theorem fineS_map {x : SV} (h : FineS x) (h5 : x.f0 = 5) : x = ⟨5, 0, be, x.f3, x.f4⟩ ∧ Ord.Asc id x.f3 ∧ x.f4.length = x.f3.length ∧ x.f4.length ≤ 1099511627776 ∧ ∀ (i : Nat) (hi : i < x.f4.length), FineS (x.f4[i]'hi) := by
  cases h with
  | map ha hl hb he => exact ⟨rfl, ha, hl, hb, he⟩
  | nil => cases h5
  | bool _ => cases h5
  | int _ => cases h5
  | text _ => cases h5
  | list _ _ => cases h5
theorem fineS_bnd {x : SV} (h : FineS x) : x.f3.length ≤ 1099511627776 ∧ x.f4.length ≤ 1099511627776 := by
  cases h with
  | @map ks ys ha hl hb he => exact ⟨by show ks.length ≤ _; omega, hb⟩
  | list hb _ => exact ⟨Nat.zero_le _, hb⟩
  | nil => exact ⟨Nat.zero_le _, Nat.zero_le _⟩
  | bool _ => exact ⟨Nat.zero_le _, Nat.zero_le _⟩
  | int _ => exact ⟨Nat.zero_le _, Nat.zero_le _⟩
  | text _ => exact ⟨Nat.zero_le _, Nat.zero_le _⟩
theorem All2.set {α β : Type} {R : α → β → Prop} {xs : List α} {ys : List β} (h : All2 R xs ys) (j : Nat) {x : α} {y : β} (hx : R x y) : All2 R (xs.set j x) (ys.set j y) := by
  refine ⟨by simp [h.1], fun i h1 h2 => ?_⟩
  rw [List.length_set] at h1 h2
  by_cases e : j = i
  · subst e; simpa using hx
  · rw [List.getElem_set_ne e, List.getElem_set_ne e]; exact h.2 i h1 h2
/-- what spec.Get answers of a value with its cells -/
theorem get_ex {P : Nat → Prop} {w : World} {x : SV} {r : RV} (hd : DeepP P w x r) (hf : FineS x) (key : ByteArray) : ∃ (g : RV) (b : Bool), (∀ W, Below w.heap.size w W → Calls Tryz.prog 24 #[r.val, .string key] W fun e w' => e = .returned (.tuple #[g.val, .bool b]) ∧ Below W.heap.size W w') ∧
    (b = true → x.f0 = 5 ∧ ∃ (i : Nat) (h3 : i < x.f3.length) (h4 : i < x.f4.length), x.f3[i]'h3 = key ∧ DeepP P w (x.f4[i]'h4) g) ∧ (b = false → x.f0 = 5 → key ∉ x.f3) := by
  obtain ⟨rs, h0, h1, h2, han, hac, hk, hbn, hbc, hr, ha⟩ := hd.rows
  by_cases h5 : x.f0 = 5
  · obtain ⟨hx, hasc, hl, hb, _⟩ := fineS_map hf h5
    have hrl : rs.length = x.f3.length := by rw [← hl]; exact ha.1.symm
    refine ⟨getR (placeB key x.f3) (placeN key x.f3) rs, placeB key x.f3, fun W hW => spec_GetR r (h0.trans h5) key x.f3 rs hrl (fineS_bnd hf).1 han (by rw [hbn]; exact ha.1) W (Kd.C_below hk hW) (Kd.C_below hr hW), fun hb' => ⟨h5, ?_⟩, fun hb' _ => place_not hasc hb'⟩
    obtain ⟨i3, e3⟩ := place_in hb'
    have i4 : placeN key x.f3 < x.f4.length := by rw [hl]; exact i3
    have ir : placeN key x.f3 < rs.length := by rw [hrl]; exact i3
    refine ⟨_, i3, i4, e3, ?_⟩
    have e : getR (placeB key x.f3) (placeN key x.f3) rs = rs[placeN key x.f3]'ir := by rw [hb']; simp [getR, List.getD_eq_getElem?_getD, List.getElem?_eq_getElem ir]
    rw [e]
    exact ha.2 _ i4 ir
  · refine ⟨RV.zero, false, fun W _ => spec_GetN r (by rw [h0]; exact h5) key W, fun h => Bool.noConfusion h, fun _ h => absurd h h5⟩
theorem withL_len {α : Type} (key : ByteArray) (ks : List ByteArray) (vs : List α) (x : α) (h : vs.length = ks.length) : (withL key ks vs x).length = (withKs key ks).length := by
  have := placeN_le key ks
  unfold withKs withL
  split
  · rw [List.length_set, h]
  · simp only [List.length_append, List.length_take, List.length_cons, List.length_drop]
    omega
/-- spec.With of any key -/
theorem law_WithN {P : Nat → Prop} {w : World} {x : SV} {r : RV} (hd : DeepP P w x r) (hl : x.f4.length = x.f3.length) (hb : x.f3.length ≤ 1099511627776) (key : ByteArray) {y : SV} {q : RV} (hq : DeepP P w y q) (hP : ∀ k, w.heap.size ≤ k → P k) :
    Calls Tryz.prog 22 #[r.val, .string key, q.val] w fun e w' => (∃ r' : RV, e = .returned r'.val ∧ DeepP P w' ⟨5, 0, be, withKs key x.f3, withL key x.f3 x.f4 y⟩ r') ∧ Below w.heap.size w w' := by
  obtain ⟨rs, h0, h1, h2, han, hac, hk, hbn, hbc, hr, ha⟩ := hd.rows
  have hrl : rs.length = x.f3.length := by rw [← hl]; exact ha.1.symm
  have e : r.val = .agg #[.int .i64 r.n0, .int .i64 r.n1, .string r.t, .slice r.A x.f3.length r.ac, .slice r.B rs.length r.bc] := by
    unfold RV.val
    rw [han, hbn, show x.f4.length = rs.length from ha.1]
  rw [e]
  refine (spec_WithR r.n0 r.n1 r.t key x.f3 rs q r.A r.ac r.B r.bc w hk hr hb hrl).mono ?_
  rintro e w' ⟨A, c, A', c', rfl, hc, hkC, hc', hvC, hA, hA', hbl⟩
  rw [withL_RV] at hc' hvC ⊢
  refine ⟨⟨⟨5, 0, be, A, (withKs key x.f3).length, c, A', (withL key x.f3 rs q).length, c'⟩, rfl, ?_⟩, hbl⟩
  have hall : All2 (DeepP P w') (withL key x.f3 x.f4 y) (withL key x.f3 rs q) := (All2.withL key x.f3 ha hq).imp (fun _ _ h => h.below_ hbl)
  exact .mk (rs := withL key x.f3 rs q) rfl rfl rfl rfl hc hkC (fun _ ad e => hP _ (hA ad e)) hall.1.symm hc' hall.1.symm hvC (fun _ ad e => hP _ (hA' ad e)) hall.2
end Go.Proofs.YtiamiagjkfioiaaGreatDoor.A
