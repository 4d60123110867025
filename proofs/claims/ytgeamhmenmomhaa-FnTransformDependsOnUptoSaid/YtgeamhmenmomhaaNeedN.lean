/- Joined texts. -/
import Derived.Test.YtgeamhmenmomhaaDeepM
import Derived.Test.YtgeamhmenmomhaaFitM
import Derived.Test.YtgeamhmenmomhaaPTx4
import Derived.Test.YtgeamhmenmomhaaTwin
import Derived.Test.YtgeamhmenmomhaaPTx5
import Derived.Test.YtgeamhmenmomhaaPTx6
/- Walks and facts on values with their cells: spec.Get, spec.With of any key, laws.zzFits1, spec.Fit (printed by gen_need.py). -/
namespace Go.Proofs.Ytgeamhmenmomhaa.A
set_option linter.unusedVariables false
set_option linter.unusedSimpArgs false
set_option linter.unusedSectionVars false
open Go.RowKit Go.Proofs.YtgeamhmenmomhaaW.PrintWords Go.Proofs.YtgeamhmenmomhaaW.PrintLast Go.Proofs.YtgeamhmenmomhaaW.PrintMore Go.Proofs.Ytgeamhmenmomhaa.PT Go.Proofs.Ytgeamhmenmomhaa.L Go.Proofs.Ytgeamhmenmomhaa.SM

theorem wrapT1 (i : Nat) (h : i < 4611686018427387904) : wrap64 ((i : Int) + 1) = ((i + 1 : Nat) : Int) := by unfold wrap64; omega
theorem fits2_loop (l : List ByteArray) (hb : l.length ≤ 2147483647) : ∀ d j, j + d = l.length → ∃ r, laws_zzFits2.l0 (d + 1) l (l.length : Int) (j : Int) = some r
  | 0, j, hj => ⟨true, by simp only [laws_zzFits2.l0]; rw [if_neg (by omega)]⟩
  | d + 1, j, hj => by
    obtain ⟨r, hr⟩ := fits2_loop l hb d (j + 1) (by omega)
    rw [laws_zzFits2.l0, if_pos (by omega), if_pos (by omega), if_pos (by omega)]
    split
    · exact ⟨_, rfl⟩
    · exact ⟨r, by rw [wrapT1 _ (by omega)]; exact hr⟩
theorem fits1_total (a b : Int) (s : ByteArray) (l : List ByteArray) (vs : List SV) : ∃ k r, laws_zzFits1.f k a b s l vs = some r := by
  have h2 : ∃ r, laws_zzFits2.f (l.length + 1) l = some r := by
    unfold laws_zzFits2.f
    by_cases h : (l.length : Int) > 2147483647
    · exact ⟨_, if_pos h⟩
    · rw [if_neg h]
      exact fits2_loop l (by omega) l.length 0 (by omega)
  obtain ⟨r, hr⟩ := h2
  refine ⟨l.length + 1, ?_⟩
  unfold laws_zzFits1.f
  rw [hr]
  simp only [Option.bind_some]
  split
  · exact ⟨_, rfl⟩
  · split
    · split
      · exact ⟨_, rfl⟩
      · exact ⟨_, rfl⟩
    · exact ⟨_, rfl⟩
theorem law_fits1 {x : SV} {v : Value} {w : World} (hv : MadeS x w v) : Calls Try.prog 4 #[v] w fun e w' => (∃ r, e = .returned (.bool r)) ∧ Below w.heap.size w w' := by
  obtain ⟨A3, c3, A4, c4, rfl, h3, g3, h4, g4⟩ := hv
  obtain ⟨k, r, hk⟩ := fits1_total x.f0 x.f1 x.f2 x.f3 x.f4
  refine (laws_zzFits1.calls k x.f0 x.f1 x.f2 A3 c3 x.f3 A4 c4 x.f4 r w g3 h3 g4 h4 hk).mono ?_
  rintro e w' ⟨rfl, hb⟩
  exact ⟨⟨r, rfl⟩, hb⟩
theorem law_fit {x : SV} (hx : Bnd x) {v : Value} {w : World} (hv : MadeS x w v) : Calls Try.prog 5 #[v] w fun e w' => ∃ (y : SV) (u : Value), e = .returned u ∧ FineS y ∧ wt y ≤ wt x ∧ MadeS y w' u ∧ (∀ W', (∀ k, w.heap.size ≤ k → k < w'.heap.size → W'.heap[k]? = w'.heap[k]?) → MadeS y W' u) ∧ Below w.heap.size w w' := by
  refine (spec_Fit hx w v hv).mono ?_
  rintro e w' ⟨y, r, rfl, h1, h2, h3, h4⟩
  exact ⟨y, r.val, rfl, h1, h2, h3.parts, fun W' hW => (h3.kept hW).parts, h4⟩
theorem box5 {w : World} {g : Nat} {t : TypeId} {c0 c1 c2 c3 c4 : Value} (h : w.heap[g]? = some (.cells #[c0, c1, c2, c3, c4] t (0, 0))) (u0 u1 u2 u3 u4 : Value) :
    (((((w.setCell ⟨g, 0, none⟩ u0).setCell ⟨g, 1, none⟩ u1).setCell ⟨g, 2, none⟩ u2).setCell ⟨g, 3, none⟩ u3).setCell ⟨g, 4, none⟩ u4).heap[g]? = some (.cells #[u0, u1, u2, u3, u4] t (0, 0)) :=
  blk_put (blk_put (blk_put (blk_put (blk_put h 0 _ rfl) 1 _ rfl) 2 _ rfl) 3 _ rfl) 4 _ rfl
theorem far5 {w : World} {g k : Nat} (hk : k ≠ g) (u0 u1 u2 u3 u4 : Value) :
    (((((w.setCell ⟨g, 0, none⟩ u0).setCell ⟨g, 1, none⟩ u1).setCell ⟨g, 2, none⟩ u2).setCell ⟨g, 3, none⟩ u3).setCell ⟨g, 4, none⟩ u4).heap[k]? = w.heap[k]? := by
  rw [Below.heap_setCell _ _ _ _ (by show k ≠ g; exact hk), Below.heap_setCell _ _ _ _ (by show k ≠ g; exact hk), Below.heap_setCell _ _ _ _ (by show k ≠ g; exact hk), Below.heap_setCell _ _ _ _ (by show k ≠ g; exact hk), Below.heap_setCell _ _ _ _ (by show k ≠ g; exact hk)]
/-- where a key stands among rising keys -/
theorem place_at {ks : List ByteArray} (ha : Ord.Asc id ks) {i : Nat} (hi : i < ks.length) : placeN (ks[i]'hi) ks = i ∧ placeB (ks[i]'hi) ks = true := by
  induction ks generalizing i with
  | nil => cases hi
  | cons y l ih =>
    have h1 := (List.pairwise_cons.1 ha).1
    have h2 := (List.pairwise_cons.1 ha).2
    rcases i with _ | i
    · have e : Op.bytesLess y.toList y.toList = false := Ord.lt_irrefl y
      show placeN y (y :: l) = 0 ∧ placeB y (y :: l) = true
      simp [placeN, placeB, e]
    · have hi' : i < l.length := by simpa using hi
      have e : Op.bytesLess y.toList (l[i]'hi').toList = true := h1 _ (List.getElem_mem hi')
      obtain ⟨h3, h4⟩ := ih h2 hi'
      show placeN (l[i]'hi') (y :: l) = i + 1 ∧ placeB (l[i]'hi') (y :: l) = true
      simp [placeN, placeB, e, h3, h4]
theorem place_in {key : ByteArray} : ∀ {ks : List ByteArray}, placeB key ks = true → ∃ h : placeN key ks < ks.length, ks[placeN key ks]'h = key
  | [], h => by cases h
  | y :: l, h => by
    unfold placeB at h
    split at h
    · rename_i c
      obtain ⟨h1, h2⟩ := place_in (ks := l) h
      have e : placeN key (y :: l) = placeN key l + 1 := by simp [placeN, c]
      exact ⟨by rw [e]; simpa using h1, by simp only [e]; simpa using h2⟩
    · rename_i c
      have e : placeN key (y :: l) = 0 := by simp [placeN, c]
      exact ⟨by rw [e]; simp, by simp only [e]; exact Ord.toList_inj (by simpa using h)⟩
theorem place_not {key : ByteArray} {ks : List ByteArray} (ha : Ord.Asc id ks) (h : placeB key ks = false) : key ∉ ks := fun hk => by
  obtain ⟨i, hi, rfl⟩ := List.mem_iff_getElem.1 hk
  rw [(place_at ha hi).2] at h
  cases h
theorem with_at {ks : List ByteArray} (ha : Ord.Asc id ks) {i : Nat} (hi : i < ks.length) (rs : List RV) (r : RV) : withKs (ks[i]'hi) ks = ks ∧ withVs (ks[i]'hi) ks rs r = rs.set i r := by
  obtain ⟨h1, h2⟩ := place_at ha hi
  unfold withKs withVs
  rw [h2, h1]
  exact ⟨rfl, rfl⟩
theorem at_R {w : World} {B : Option Addr} {n : Nat} {rs : List RV} (h : Kd.C kR w B n rs) (i : Nat) (hi : i < n) (hr : i < rs.length) : ∃ ad, B = some ad ∧ w.cell? (ad.add (i * 5)) = some (.int .i64 (rs[i]'hr).n0) ∧ w.cell? ⟨(ad.add (i * 5)).block, (ad.add (i * 5)).off + 1, none⟩ = some (.int .i64 (rs[i]'hr).n1) ∧ w.cell? ⟨(ad.add (i * 5)).block, (ad.add (i * 5)).off + 2, none⟩ = some (.string (rs[i]'hr).t) ∧ w.cell? ⟨(ad.add (i * 5)).block, (ad.add (i * 5)).off + 3, none⟩ = some (.slice (rs[i]'hr).A (rs[i]'hr).an (rs[i]'hr).ac) ∧ w.cell? ⟨(ad.add (i * 5)).block, (ad.add (i * 5)).off + 4, none⟩ = some (.slice (rs[i]'hr).B (rs[i]'hr).bn (rs[i]'hr).bc) := by
  obtain ⟨ad, c, e, _, hK, hc0⟩ := Kd.C_get h RV.zero (i : Int) (by omega) (by omega)
  have hc : ∀ j u, c[j]? = some u → w.cell? (ad.add (i * 5 + j)) = some u := fun j u h => by
    have h2 := hc0 j u h
    simp only [Int.toNat_natCast] at h2
    exact h2
  have hq : (rs.getD i RV.zero) = rs[i]'hr := by simp [List.getD_eq_getElem?_getD, List.getElem?_eq_getElem hr]
  have hK' : c = (rs[i]'hr).cs := by
    have h2 : c = (rs.getD ((i : Int)).toNat RV.zero).cs := hK
    rw [Int.toNat_natCast, hq] at h2
    exact h2
  subst hK'
  exact ⟨ad, e, hc 0 _ rfl, by rw [← add_field _ _ 1 (by omega)]; exact hc 1 _ rfl, by rw [← add_field _ _ 2 (by omega)]; exact hc 2 _ rfl, by rw [← add_field _ _ 3 (by omega)]; exact hc 3 _ rfl, by rw [← add_field _ _ 4 (by omega)]; exact hc 4 _ rfl⟩
def getR (b : Bool) (n : Nat) (rs : List RV) : RV := if b then rs.getD n RV.zero else RV.zero
set_option maxHeartbeats 4000000 in
set_option maxRecDepth 100000 in
theorem spec_GetR (r : RV) (h5 : r.n0 = 5) (key : ByteArray) (ks : List ByteArray) (rs : List RV) (hl : rs.length = ks.length) (hb : ks.length ≤ 1099511627776) (han : r.an = ks.length) (hbn : r.bn = rs.length) (w : World) (hk : Kd.C Kd.string w r.A ks.length ks) (hr : Kd.C kR w r.B rs.length rs) :
    Calls Try.prog 26 #[r.val, .string key] w fun e w' => e = .returned (.tuple #[(getR (placeB key ks) (placeN key ks) rs).val, .bool (placeB key ks)]) ∧ Below w.heap.size w w' := by
  obtain ⟨g, hg⟩ : ∃ g, g = (getR (placeB key ks) (placeN key ks) rs).val := ⟨_, rfl⟩
  rw [← hg]
  have HGV := Lib.hid hg
  clear hg
  unfold RV.val
  rw [h5, han, hbn]
  obtain ⟨W0, hW0⟩ : ∃ W0 : World, W0 = (w.alloc (Obj.cells #[.int .i64 5, .int .i64 r.n1, .string r.t, .slice r.A ks.length r.ac, .slice r.B rs.length r.bc] 25)).alloc (Obj.cells zV 25) := ⟨_, rfl⟩
  have hb0 : Below w.heap.size w W0 := by rw [hW0]; exact ((Below.refl _ _).alloc (Nat.le_refl _) _).alloc (by simp) _
  have hbx : W0.heap[w.heap.size]? = some (.cells #[.int .i64 5, .int .i64 r.n1, .string r.t, .slice r.A ks.length r.ac, .slice r.B rs.length r.bc] 25 (0, 0)) := by rw [hW0]; exact heap_oldI (new_atI rfl)
  have hre : W0.heap[w.heap.size + 1]? = some (.cells zV 25 (0, 0)) := by rw [hW0]; exact new_atI (by simp)
  have HB0 := Aside0.mk hb0
  have HBX := Aside0.mk hbx
  have HRE := Aside0.mk hre
  have G3 := Aside0.mk (Kd.C_below hk hb0)
  have G4 := Aside0.mk hr
  have HL := Lib.hid hl
  have HW0 := Lib.hid hW0
  have m0 : W0.cell? ⟨w.heap.size, 0, none⟩ = some (.int .i64 5) := (blk_cell hbx 0).trans rfl
  have m1 : W0.cell? ⟨w.heap.size, 1, none⟩ = some (.int .i64 r.n1) := (blk_cell hbx 1).trans rfl
  have m2 : W0.cell? ⟨w.heap.size, 2, none⟩ = some (.string r.t) := (blk_cell hbx 2).trans rfl
  have m3 : W0.cell? ⟨w.heap.size, 3, none⟩ = some (.slice r.A ks.length r.ac) := (blk_cell hbx 3).trans rfl
  have m4 : W0.cell? ⟨w.heap.size, 4, none⟩ = some (.slice r.B rs.length r.bc) := (blk_cell hbx 4).trans rfl
  clear hb0 hbx hre hW0 hk hr hl h5 han hbn
  go_enter Try.func26, Try.ntmps26
  go_upto_region 1 with fail
  rw [← HW0.out]
  go_wp2_with fail
  refine (spec_place ks key r.t 5 r.n1 r.A r.ac (.slice r.B rs.length r.bc) W0 G3.out hb).mono ?_
  unfold placeOut
  clear m0 m1 m2 m3 m4
  rintro e w1 ⟨rfl, hb1⟩
  have HB1 := Aside0.mk hb1
  have hbx := blk_below HBX.out hb1
  have hre := blk_below HRE.out hb1
  have b4 : w1.cell? ⟨w.heap.size, 4, none⟩ = some (.slice r.B rs.length r.bc) := (blk_cell hbx 4).trans rfl
  have n0 : w1.cell? ⟨w.heap.size + 1, 0, none⟩ = some (.int .i64 0) := (blk_cell hre 0).trans rfl
  have n1 : w1.cell? ⟨w.heap.size + 1, 1, none⟩ = some (.int .i64 0) := (blk_cell hre 1).trans rfl
  have n2 : w1.cell? ⟨w.heap.size + 1, 2, none⟩ = some (.string ⟨#[]⟩) := (blk_cell hre 2).trans rfl
  have n3 : w1.cell? ⟨w.heap.size + 1, 3, none⟩ = some (.slice none 0 0) := (blk_cell hre 3).trans rfl
  have n4 : w1.cell? ⟨w.heap.size + 1, 4, none⟩ = some (.slice none 0 0) := (blk_cell hre 4).trans rfl
  have f0 := blk_frozen hre 0
  have f1 := blk_frozen hre 1
  have f2 := blk_frozen hre 2
  have f3 := blk_frozen hre 3
  have f4 := blk_frozen hre 4
  clear hbx hre hb1
  have hbw : Below w.heap.size w w1 := HB0.out.trans (HB1.out.mono HB0.out.size)
  have HBW := Aside0.mk hbw
  clear hbw
  cases hB : placeB key ks with
  | false =>
    go_wp2
    refine bodyPost_ret (v := .tuple #[.agg zV, .bool false]) (by simp [results, Try.results26, go_sem, *]) rfl ?_
    refine ⟨by rw [HGV.out, hB]; rfl, ?_⟩
    first | exact HBW.out | exact below5 HBW.out _ (Nat.le_succ _) _ _ _ _ _
  | true =>
    have hlt := placeB_lt key ks hB
    have HBT := Lib.hid hB
    obtain ⟨i, hi⟩ : ∃ i, i = placeN key ks := ⟨_, rfl⟩
    rw [← hi] at hlt
    rw [← hi]
    have hlr : i < rs.length := by rw [HL.out]; exact hlt
    have i0 : (0 : Int) ≤ (i : Int) := Int.natCast_nonneg _
    have i1 : (i : Int) < (rs.length : Int) := Int.ofNat_lt.2 hlr
    obtain ⟨ade, eA, he0, he1, he2, he3, he4⟩ := at_R G4.out i hlr hlr
    obtain ⟨y, hy⟩ : ∃ y, y = rs[i]'hlr := ⟨_, rfl⟩
    have hgy : getR true i rs = y := by rw [hy]; simp [getR, List.getD_eq_getElem?_getD, List.getElem?_eq_getElem hlr]
    have HGY : Hid (g = y.val) := Lib.hid (by rw [HGV.out, hB, ← hi, hgy])
    rw [← hy] at he0 he1 he2 he3 he4
    have tr : ∀ {q : Addr} {u : Value}, w.cell? q = some u → w1.cell? q = some u := fun h => (HBW.out.cell (World.block_lt_of_cell? w _ h)).trans h
    replace he0 := tr he0
    replace he1 := tr he1
    replace he2 := tr he2
    replace he3 := tr he3
    replace he4 := tr he4
    rw [eA] at b4
    clear hi hlt hlr hy hgy tr hB HGV G3 G4 HW0 HBX HRE
    generalize r.B = rB at *
    subst eA
    go_wp2
    refine bodyPost_ret (v := .tuple #[y.val, .bool true]) (by unfold RV.val; simp [results, Try.results26, go_sem, *]) rfl ?_
    exact ⟨by rw [HGY.out, HBT.out], below5 HBW.out (w.heap.size + 1) (Nat.le_succ _) _ _ _ _ _⟩
set_option maxRecDepth 100000 in
theorem spec_GetN (r : RV) (h5 : ¬ r.n0 = 5) (key : ByteArray) (w : World) : Calls Try.prog 26 #[r.val, .string key] w fun e w' => e = .returned (.tuple #[.agg zV, .bool false]) ∧ Below w.heap.size w w' := by
  unfold RV.val
  have e5 : (r.n0 != 5) = true := by simpa using h5
  have e6 : (r.n0 == 5) = false := by simpa using h5
  obtain ⟨W0, hW0⟩ : ∃ W0 : World, W0 = (w.alloc (Obj.cells #[.int .i64 r.n0, .int .i64 r.n1, .string r.t, .slice r.A r.an r.ac, .slice r.B r.bn r.bc] 25)).alloc (Obj.cells zV 25) := ⟨_, rfl⟩
  have hb0 : Below w.heap.size w W0 := by rw [hW0]; exact ((Below.refl _ _).alloc (Nat.le_refl _) _).alloc (by simp) _
  have hbx : W0.heap[w.heap.size]? = some (.cells #[.int .i64 r.n0, .int .i64 r.n1, .string r.t, .slice r.A r.an r.ac, .slice r.B r.bn r.bc] 25 (0, 0)) := by rw [hW0]; exact heap_oldI (new_atI rfl)
  have hre : W0.heap[w.heap.size + 1]? = some (.cells zV 25 (0, 0)) := by rw [hW0]; exact new_atI (by simp)
  have HB0 := Aside0.mk hb0
  have HW0 := Lib.hid hW0
  have m0 : W0.cell? ⟨w.heap.size, 0, none⟩ = some (.int .i64 r.n0) := (blk_cell hbx 0).trans rfl
  have n0 : W0.cell? ⟨w.heap.size + 1, 0, none⟩ = some (.int .i64 0) := (blk_cell hre 0).trans rfl
  have n1 : W0.cell? ⟨w.heap.size + 1, 1, none⟩ = some (.int .i64 0) := (blk_cell hre 1).trans rfl
  have n2 : W0.cell? ⟨w.heap.size + 1, 2, none⟩ = some (.string ⟨#[]⟩) := (blk_cell hre 2).trans rfl
  have n3 : W0.cell? ⟨w.heap.size + 1, 3, none⟩ = some (.slice none 0 0) := (blk_cell hre 3).trans rfl
  have n4 : W0.cell? ⟨w.heap.size + 1, 4, none⟩ = some (.slice none 0 0) := (blk_cell hre 4).trans rfl
  have f0 := blk_frozen hre 0
  have f1 := blk_frozen hre 1
  have f2 := blk_frozen hre 2
  have f3 := blk_frozen hre 3
  have f4 := blk_frozen hre 4
  clear hb0 hW0 hbx hre h5
  go_enter Try.func26, Try.ntmps26
  go_upto_region 1 with fail
  rw [← HW0.out]
  go_wp2
  refine bodyPost_ret (v := .tuple #[.agg zV, .bool false]) (by simp [results, Try.results26, go_sem, *]) rfl ?_
  refine ⟨rfl, ?_⟩
  first | exact HB0.out | exact below5 HB0.out _ (Nat.le_succ _) _ _ _ _ _
theorem fineS_map {x : SV} (h : FineS x) (h5 : x.f0 = 5) : x = ⟨5, 0, be, x.f3, x.f4⟩ ∧ Ord.Asc id x.f3 ∧ x.f4.length = x.f3.length ∧ x.f4.length ≤ 1099511627776 ∧ ∀ (i : Nat) (hi : i < x.f4.length), FineS (x.f4[i]'hi) := by
  cases h with
  | map ha hl hb he => exact ⟨rfl, ha, hl, hb, he⟩
  | nil => cases h5
  | bool _ => cases h5
  | int _ => cases h5
  | text _ => cases h5
  | list _ _ => cases h5
theorem fineS_bnd {x : SV} (h : FineS x) : x.f3.length ≤ 1099511627776 ∧ x.f4.length ≤ 1099511627776 := by
  cases h with
  | @map ks ys ha hl hb he => exact ⟨by show ks.length ≤ _; omega, hb⟩
  | list hb _ => exact ⟨Nat.zero_le _, hb⟩
  | nil => exact ⟨Nat.zero_le _, Nat.zero_le _⟩
  | bool _ => exact ⟨Nat.zero_le _, Nat.zero_le _⟩
  | int _ => exact ⟨Nat.zero_le _, Nat.zero_le _⟩
  | text _ => exact ⟨Nat.zero_le _, Nat.zero_le _⟩
theorem All2.set {α β : Type} {R : α → β → Prop} {xs : List α} {ys : List β} (h : All2 R xs ys) (j : Nat) {x : α} {y : β} (hx : R x y) : All2 R (xs.set j x) (ys.set j y) := by
  refine ⟨by simp [h.1], fun i h1 h2 => ?_⟩
  rw [List.length_set] at h1 h2
  by_cases e : j = i
  · subst e; simpa using hx
  · rw [List.getElem_set_ne e, List.getElem_set_ne e]; exact h.2 i h1 h2
/-- what spec.Get answers of a value with its cells -/
theorem get_ex {P : Nat → Prop} {w : World} {x : SV} {r : RV} (hd : DeepP P w x r) (hf : FineS x) (key : ByteArray) : ∃ (g : RV) (b : Bool), (∀ W, Below w.heap.size w W → Calls Try.prog 26 #[r.val, .string key] W fun e w' => e = .returned (.tuple #[g.val, .bool b]) ∧ Below W.heap.size W w') ∧
    (b = true → x.f0 = 5 ∧ ∃ (i : Nat) (h3 : i < x.f3.length) (h4 : i < x.f4.length), x.f3[i]'h3 = key ∧ DeepP P w (x.f4[i]'h4) g) ∧ (b = false → x.f0 = 5 → key ∉ x.f3) := by
  obtain ⟨rs, h0, h1, h2, han, hac, hk, hbn, hbc, hr, ha⟩ := hd.rows
  by_cases h5 : x.f0 = 5
  · obtain ⟨hx, hasc, hl, hb, _⟩ := fineS_map hf h5
    have hrl : rs.length = x.f3.length := by rw [← hl]; exact ha.1.symm
    refine ⟨getR (placeB key x.f3) (placeN key x.f3) rs, placeB key x.f3, fun W hW => spec_GetR r (h0.trans h5) key x.f3 rs hrl (fineS_bnd hf).1 han (by rw [hbn]; exact ha.1) W (Kd.C_below hk hW) (Kd.C_below hr hW), fun hb' => ⟨h5, ?_⟩, fun hb' _ => place_not hasc hb'⟩
    obtain ⟨i3, e3⟩ := place_in hb'
    have i4 : placeN key x.f3 < x.f4.length := by rw [hl]; exact i3
    have ir : placeN key x.f3 < rs.length := by rw [hrl]; exact i3
    refine ⟨_, i3, i4, e3, ?_⟩
    have e : getR (placeB key x.f3) (placeN key x.f3) rs = rs[placeN key x.f3]'ir := by rw [hb']; simp [getR, List.getD_eq_getElem?_getD, List.getElem?_eq_getElem ir]
    rw [e]
    exact ha.2 _ i4 ir
  · refine ⟨RV.zero, false, fun W _ => spec_GetN r (by rw [h0]; exact h5) key W, fun h => Bool.noConfusion h, fun _ h => absurd h h5⟩
/-- spec.With of a key that is there -/
theorem law_WithD {P : Nat → Prop} {w : World} {x : SV} {r : RV} (hd : DeepP P w x r) (ha3 : Ord.Asc id x.f3) (hl : x.f4.length = x.f3.length) (hb : x.f3.length ≤ 1099511627776) {i : Nat} (hi : i < x.f3.length) {key : ByteArray} (hkey : x.f3[i]'hi = key) {y : SV} {q : RV} (hq : DeepP P w y q) (hP : ∀ k, w.heap.size ≤ k → P k) :
    Calls Try.prog 14 #[r.val, .string key, q.val] w fun e w' => (∃ r' : RV, e = .returned r'.val ∧ DeepP P w' ⟨5, 0, be, x.f3, x.f4.set i y⟩ r') ∧ Below w.heap.size w w' := by
  obtain ⟨rs, h0, h1, h2, han, hac, hk, hbn, hbc, hr, ha⟩ := hd.rows
  have hrl : rs.length = x.f3.length := by rw [← hl]; exact ha.1.symm
  have e : r.val = .agg #[.int .i64 r.n0, .int .i64 r.n1, .string r.t, .slice r.A x.f3.length r.ac, .slice r.B rs.length r.bc] := by
    unfold RV.val
    rw [han, hbn, show x.f4.length = rs.length from ha.1]
  rw [e]
  refine (spec_WithR r.n0 r.n1 r.t key x.f3 rs q r.A r.ac r.B r.bc w hk hr hb hrl).mono ?_
  obtain ⟨e1, e2⟩ := with_at ha3 hi rs q
  rw [hkey] at e1 e2
  rw [e1, e2]
  rintro e w' ⟨A, c, A', c', rfl, hc, hkC, hc', hvC, hA, hA', hbl⟩
  refine ⟨⟨⟨5, 0, be, A, x.f3.length, c, A', (rs.set i q).length, c'⟩, rfl, ?_⟩, hbl⟩
  have hall : All2 (DeepP P w') (x.f4.set i y) (rs.set i q) := (ha.set i hq).imp (fun _ _ h => h.below_ hbl)
  exact .mk (rs := rs.set i q) rfl rfl rfl rfl hc hkC (fun _ ad e => hP _ (hA ad e)) hall.1.symm hc' hall.1.symm hvC (fun _ ad e => hP _ (hA' ad e)) hall.2
theorem withL_len {α : Type} (key : ByteArray) (ks : List ByteArray) (vs : List α) (x : α) (h : vs.length = ks.length) : (withL key ks vs x).length = (withKs key ks).length := by
  have := placeN_le key ks
  unfold withKs withL
  split
  · rw [List.length_set, h]
  · simp only [List.length_append, List.length_take, List.length_cons, List.length_drop]
    omega
/-- spec.With of any key -/
theorem law_WithN {P : Nat → Prop} {w : World} {x : SV} {r : RV} (hd : DeepP P w x r) (hl : x.f4.length = x.f3.length) (hb : x.f3.length ≤ 1099511627776) (key : ByteArray) {y : SV} {q : RV} (hq : DeepP P w y q) (hP : ∀ k, w.heap.size ≤ k → P k) :
    Calls Try.prog 14 #[r.val, .string key, q.val] w fun e w' => (∃ r' : RV, e = .returned r'.val ∧ DeepP P w' ⟨5, 0, be, withKs key x.f3, withL key x.f3 x.f4 y⟩ r') ∧ Below w.heap.size w w' := by
  obtain ⟨rs, h0, h1, h2, han, hac, hk, hbn, hbc, hr, ha⟩ := hd.rows
  have hrl : rs.length = x.f3.length := by rw [← hl]; exact ha.1.symm
  have e : r.val = .agg #[.int .i64 r.n0, .int .i64 r.n1, .string r.t, .slice r.A x.f3.length r.ac, .slice r.B rs.length r.bc] := by
    unfold RV.val
    rw [han, hbn, show x.f4.length = rs.length from ha.1]
  rw [e]
  refine (spec_WithR r.n0 r.n1 r.t key x.f3 rs q r.A r.ac r.B r.bc w hk hr hb hrl).mono ?_
  rintro e w' ⟨A, c, A', c', rfl, hc, hkC, hc', hvC, hA, hA', hbl⟩
  rw [withL_RV] at hc' hvC ⊢
  refine ⟨⟨⟨5, 0, be, A, (withKs key x.f3).length, c, A', (withL key x.f3 rs q).length, c'⟩, rfl, ?_⟩, hbl⟩
  have hall : All2 (DeepP P w') (withL key x.f3 x.f4 y) (withL key x.f3 rs q) := (All2.withL key x.f3 ha hq).imp (fun _ _ h => h.below_ hbl)
  exact .mk (rs := withL key x.f3 rs q) rfl rfl rfl rfl hc hkC (fun _ ad e => hP _ (hA ad e)) hall.1.symm hc' hall.1.symm hvC (fun _ ad e => hP _ (hA' ad e)) hall.2
end Go.Proofs.Ytgeamhmenmomhaa.A
/- Plain: the printed functions that spec.sayNeeds calls answer, in all large rounds. -/
namespace Go.Proofs.Ytgeamhmenmomhaa.A
set_option linter.unusedVariables false
set_option linter.unusedSimpArgs false
set_option linter.unusedSectionVars false
open Go.RowKit Go.Proofs.YtgeamhmenmomhaaW.PrintWords Go.Proofs.YtgeamhmenmomhaaW.PrintLast Go.Proofs.YtgeamhmenmomhaaW.PrintMore Go.Proofs.Ytgeamhmenmomhaa.PT Go.Proofs.Ytgeamhmenmomhaa.L Go.Proofs.Ytgeamhmenmomhaa.SM

def Evn (P : Nat → Prop) : Prop := ∃ N, ∀ K, N ≤ K → P K
theorem Evn.imp {P Q : Nat → Prop} (h : Evn P) (hi : ∀ K, P K → Q K) : Evn Q := by
  obtain ⟨N, h⟩ := h
  exact ⟨N, fun K hK => hi K (h K hK)⟩
theorem Evn.and {P Q : Nat → Prop} (h : Evn P) (k : Evn Q) : Evn (fun K => P K ∧ Q K) := by
  obtain ⟨N, h⟩ := h
  obtain ⟨M, k⟩ := k
  exact ⟨N + M, fun K hK => ⟨h K (by omega), k K (by omega)⟩⟩
theorem Evn.up {P Q : Nat → Prop} (h : Evn P) (hi : ∀ K, P K → Q (K + 1)) : Evn Q := by
  obtain ⟨N, h⟩ := h
  refine ⟨N + 1, fun K hK => ?_⟩
  obtain ⟨K, rfl⟩ : ∃ k, K = k + 1 := ⟨K - 1, by omega⟩
  exact hi K (h K (by omega))
theorem Evn.tt : Evn (fun _ => True) := ⟨0, fun _ _ => trivial⟩
theorem inE (s : ByteArray) (l : List ByteArray) (hl : l.length ≤ 1099511627776) : ∀ n i, n = l.length - i → i ≤ l.length → Evn fun K => ∃ r, spec_sayIn.l0 K s l (i : Int) = some r
  | 0, i, h, hi => Evn.tt.up fun K _ => by
    rw [spec_sayIn.l0, if_neg (by omega)]
    exact ⟨_, rfl⟩
  | n + 1, i, h, hi => (inE s l hl n (i + 1) (by omega) (by omega)).up fun K ⟨r, hr⟩ => by
    rw [spec_sayIn.l0, if_pos (by omega), if_pos (by omega), wrapT1 i (by omega)]
    split
    · exact ⟨_, rfl⟩
    · exact ⟨r, hr⟩
theorem inF (s : ByteArray) (l : List ByteArray) (hl : l.length ≤ 1099511627776) : Evn fun K => ∃ r, spec_sayIn.f K s l = some r := inE s l hl l.length 0 (by omega) (by omega)
theorem nameE (s : ByteArray) (hs : s.size ≤ 1099511627776) : ∀ n i, n = s.size - i → i ≤ s.size → Evn fun K => ∃ r, spec_sayName.l0 K s (i : Int) = some r
  | 0, i, h, hi => Evn.tt.up fun K _ => by
    rw [spec_sayName.l0, if_neg (by omega)]
    exact ⟨_, rfl⟩
  | n + 1, i, h, hi => (nameE s hs n (i + 1) (by omega) (by omega)).up fun K ⟨r, hr⟩ => by
    rw [spec_sayName.l0, if_pos (by omega), if_pos (by omega), wrapT1 i (by omega), hr]
    repeat' split
    all_goals first | exact ⟨r, rfl⟩ | exact ⟨false, rfl⟩
theorem nameF (s : ByteArray) (hs : s.size ≤ 1099511627776) : Evn fun K => ∃ r, spec_sayName.f K s = some r := nameE s hs s.size 0 (by omega) (by omega)
theorem wordE (s : ByteArray) (hs : s.size ≤ 1099511627776) : ∀ n i, n = s.size - i → i ≤ s.size → Evn fun K => ∃ r, spec_sayWord.l0 K s (i : Int) = some r
  | 0, i, h, hi => Evn.tt.up fun K _ => by
    rw [spec_sayWord.l0, if_neg (by omega)]
    exact ⟨_, rfl⟩
  | n + 1, i, h, hi => ((wordE s hs n (i + 1) (by omega) (by omega)).and (inF (strOfNums [bt s (i : Int)]) [(⟨#[61]⟩ : ByteArray), (⟨#[36]⟩ : ByteArray), (⟨#[58]⟩ : ByteArray), (⟨#[34]⟩ : ByteArray), (⟨#[39]⟩ : ByteArray), (⟨#[92]⟩ : ByteArray), (⟨#[126]⟩ : ByteArray)] (by simp))).up fun K ⟨⟨r, hr⟩, ⟨q, hq⟩⟩ => by
    rw [spec_sayWord.l0, if_pos (by omega), if_pos (by omega), wrapT1 i (by omega), hr, hq, Option.bind_some]
    repeat' split
    all_goals first | exact ⟨r, rfl⟩ | exact ⟨false, rfl⟩
theorem textF (x : SV) (hs : x.f2.size ≤ 1099511627776) : Evn fun K => ∃ r, spec_sayText.f K x.f0 x.f1 x.f2 x.f3 x.f4 = some r := (wordE x.f2 hs x.f2.size 0 (by omega) (by omega)).imp fun K ⟨r, hr⟩ => by
  unfold spec_sayText.f
  split
  · rw [show spec_sayWord.f K x.f2 = some r from hr, Option.bind_some]; exact ⟨_, rfl⟩
  · exact ⟨_, rfl⟩
theorem knownE (x : SV) (l1 l2 : List ByteArray) (h1 : l1.length ≤ 1099511627776) (h2 : l2.length ≤ 1099511627776) (hl : x.f3.length ≤ x.f4.length) (hb : x.f4.length ≤ 1099511627776) (hs : ∀ y ∈ x.f4, y.f2.size ≤ 1099511627776) :
    ∀ n i, n = x.f3.length - i → i ≤ x.f3.length → Evn fun K => ∃ r, spec_sayKnown.l0 K l1 l2 (i : Int) x.f0 x.f1 x.f2 x.f3 x.f4 = some r ∧ (r = true → x.f0 = 5)
  | 0, i, h, hi => Evn.tt.up fun K _ => by
    rw [spec_sayKnown.l0, if_neg (by omega)]
    split
    · rename_i e; exact ⟨_, rfl, fun _ => e⟩
    · exact ⟨_, rfl, fun h => by cases h⟩
  | n + 1, i, h, hi => (((knownE x l1 l2 h1 h2 hl hb hs n (i + 1) (by omega) (by omega)).and (inF (rdOf ByteArray.empty x.f3 (i : Int)) l1 h1)).and ((inF (rdOf ByteArray.empty x.f3 (i : Int)) l2 h2).and (textF (rd_T25 x.f4 (i : Int)) (by rw [rdSV (show i < x.f4.length by omega)]; exact hs _ (List.getElem_mem _))))).up fun K ⟨⟨⟨r, hr, h5⟩, ⟨q, hq⟩⟩, ⟨q2, hq2⟩, ⟨q3, hq3⟩⟩ => by
    rw [spec_sayKnown.l0, if_pos (by omega), if_pos (by omega), wrapT1 i (by omega), hr, hq, hq2, hq3]
    simp only [Option.bind_some]
    repeat' split
    all_goals first | exact ⟨r, rfl, h5⟩ | exact ⟨false, rfl, fun h => by cases h⟩ | (exfalso; omega)
theorem knownF (x : SV) (l1 l2 : List ByteArray) (h1 : l1.length ≤ 1099511627776) (h2 : l2.length ≤ 1099511627776) (hl : x.f3.length ≤ x.f4.length) (hb : x.f4.length ≤ 1099511627776) (hs : ∀ y ∈ x.f4, y.f2.size ≤ 1099511627776) :
    Evn fun K => ∃ r, spec_sayKnown.f K x.f0 x.f1 x.f2 x.f3 x.f4 l1 l2 = some r ∧ (r = true → x.f0 = 5) := knownE x l1 l2 h1 h2 hl hb hs x.f3.length 0 (by omega) (by omega)
theorem namesE (x : SV) (hb : x.f4.length ≤ 1099511627776) (hs : ∀ y ∈ x.f4, y.f2.size ≤ 1099511627776) :
    ∀ n i, n = x.f4.length - i → i ≤ x.f4.length → Evn fun K => ∃ r, spec_sayNames.l0 K (i : Int) x.f0 x.f1 x.f2 x.f3 x.f4 = some r ∧ (r = true → x.f0 = 4 ∧ ∀ (j : Nat) (hj : j < x.f4.length), i ≤ j → (x.f4[j]'hj).f0 = 3)
  | 0, i, h, hi => Evn.tt.up fun K _ => by
    rw [spec_sayNames.l0, if_neg (by omega)]
    split
    · rename_i e; exact ⟨_, rfl, fun _ => ⟨e, fun j hj hij => by omega⟩⟩
    · exact ⟨_, rfl, fun h => by cases h⟩
  | n + 1, i, h, hi => ((namesE x hb hs n (i + 1) (by omega) (by omega)).and (nameF (rd_T25 x.f4 (i : Int)).f2 (by rw [rdSV (show i < x.f4.length by omega)]; exact hs _ (List.getElem_mem _)))).up fun K ⟨⟨r, hr, h5⟩, ⟨q, hq⟩⟩ => by
    rw [spec_sayNames.l0, if_pos (by omega), if_pos (by omega), wrapT1 i (by omega), hr, hq]
    simp only [Option.bind_some]
    have hlt : i < x.f4.length := by omega
    by_cases e3 : (rd_T25 x.f4 (i : Int)).f0 = 3
    · rw [if_pos e3]
      split
      · refine ⟨r, rfl, fun h => ⟨(h5 h).1, fun j hj hij => ?_⟩⟩
        rcases Nat.lt_or_ge i j with c | c
        · exact (h5 h).2 j hj c
        · obtain rfl : j = i := by omega
          rw [rdSV hj] at e3
          exact e3
      · exact ⟨_, rfl, fun h => by cases h⟩
    · rw [if_neg e3]
      exact ⟨_, rfl, fun h => by cases h⟩
/-! ### sizes -/
theorem sum_memN {l : List Nat} {a : Nat} (h : a ∈ l) : a ≤ l.sum := by
  induction l with
  | nil => cases h
  | cons b l ih =>
    rcases List.mem_cons.1 h with rfl | h
    · simp
    · have := ih h; simp; omega
theorem wt_sub {x y : SV} (h : y ∈ x.f4) : wt y ≤ wt x := by
  have h1 : wt y ≤ (x.f4.map wt).sum := sum_memN (List.mem_map_of_mem h)
  have h2 := wt_eq x
  omega
theorem wt_text (x : SV) : x.f2.size ≤ wt x := by
  have h2 := wt_eq x
  omega
theorem wt_key {x : SV} {k : ByteArray} (h : k ∈ x.f3) : k.size ≤ wt x := by
  have h1 : k.size + 1 ≤ ksum x.f3 := sum_memN (List.mem_map_of_mem (f := fun k : ByteArray => k.size + 1) h)
  have h2 := wt_eq x
  omega
theorem fineS_lens {x : SV} (h : FineS x) : x.f3.length ≤ x.f4.length ∧ (x.f0 = 5 → x.f4.length = x.f3.length) := by
  cases h with
  | map ha hl hb he => exact ⟨by show _ ≤ _; rw [hl]; exact Nat.le_refl _, fun _ => hl⟩
  | nil => exact ⟨Nat.le_refl _, fun h => by cases h⟩
  | bool _ => exact ⟨Nat.le_refl _, fun h => by cases h⟩
  | int _ => exact ⟨Nat.le_refl _, fun h => by cases h⟩
  | text _ => exact ⟨Nat.le_refl _, fun h => by cases h⟩
  | list _ _ => exact ⟨Nat.zero_le _, fun h => by cases h⟩
theorem fineS_kid {x : SV} (h : FineS x) {y : SV} (hy : y ∈ x.f4) : FineS y := by
  obtain ⟨i, hi, rfl⟩ := List.mem_iff_getElem.1 hy
  cases h with
  | map ha hl hb he => exact he i hi
  | list hb he => exact he i hi
  | nil => cases hy
  | bool _ => cases hy
  | int _ => cases hy
  | text _ => cases hy
abbrev kCond : ByteArray := ⟨#[99, 111, 110, 100, 105, 116, 105, 111, 110]⟩
abbrev kReq : ByteArray := ⟨#[114, 101, 113, 117, 105, 114, 101, 100]⟩
/-- what is spoken of: a list of texts, or a map of maps with a condition -/
def NeedsS (x : SV) : Prop := (x.f0 = 4 ∧ ∀ y ∈ x.f4, y.f0 = 3) ∨ (x.f0 = 5 ∧ ∀ y ∈ x.f4, y.f0 = 5 ∧ kCond ∈ y.f3)
end Go.Proofs.Ytgeamhmenmomhaa.A
/- The walk of spec.sayNeeds (printed by gen_needn.py). -/
namespace Go.Proofs.Ytgeamhmenmomhaa.A
set_option linter.unusedVariables false
set_option linter.unusedSimpArgs false
set_option linter.unusedSectionVars false
open Go.RowKit Go.Proofs.YtgeamhmenmomhaaW.PrintWords Go.Proofs.YtgeamhmenmomhaaW.PrintLast Go.Proofs.YtgeamhmenmomhaaW.PrintMore Go.Proofs.Ytgeamhmenmomhaa.PT Go.Proofs.Ytgeamhmenmomhaa.L Go.Proofs.Ytgeamhmenmomhaa.SM

abbrev kRes : ByteArray := ⟨#[114, 101, 115, 116, 97, 114, 116]⟩
abbrev kSt1 : ByteArray := ⟨#[115, 101, 114, 118, 105, 99, 101, 95, 115, 116, 97, 114, 116, 101, 100]⟩
abbrev kSt2 : ByteArray := ⟨#[115, 101, 114, 118, 105, 99, 101, 95, 104, 101, 97, 108, 116, 104, 121]⟩
abbrev kSt3 : ByteArray := ⟨#[115, 101, 114, 118, 105, 99, 101, 95, 99, 111, 109, 112, 108, 101, 116, 101, 100, 95, 115, 117, 99, 99, 101, 115, 115, 102, 117, 108, 108, 121]⟩
def SomeB (w : World) (e : Ending) (w' : World) : Prop := (∃ r, e = .returned (.bool r)) ∧ Below w.heap.size w w'
theorem law_name (s : ByteArray) (hs : s.size ≤ 1099511627776) (w : World) : Calls Try.prog 27 #[.string s] w (SomeB w) := by
  obtain ⟨N, hN⟩ := nameF s hs
  obtain ⟨r, hr⟩ := hN N (Nat.le_refl _)
  refine (spec_sayName.calls N s r w hr).mono ?_
  rintro e w' ⟨rfl, hd⟩
  exact ⟨⟨r, rfl⟩, hd.below⟩
theorem law_in (s : ByteArray) (l : List ByteArray) (hl : l.length ≤ 1099511627776) (A : Option Addr) (c : Nat) (w : World) (hc : l.length ≤ c) (hC : Kd.C Kd.string w A l.length l) : Calls Try.prog 29 #[.string s, .slice A l.length c] w (SomeB w) := by
  obtain ⟨N, hN⟩ := inF s l hl
  obtain ⟨r, hr⟩ := hN N (Nat.le_refl _)
  refine (spec_sayIn.calls N s A c l r w hC hc hr).mono ?_
  rintro e w' ⟨rfl, hd⟩
  exact ⟨⟨r, rfl⟩, hd.below⟩
theorem kids_text {x : SV} (hw : wt x ≤ 1048576) : ∀ z ∈ x.f4, z.f2.size ≤ 1099511627776 := fun z hz => by
  have h1 := wt_text z
  have h2 := wt_sub hz
  omega
theorem law_known {y : SV} (hf : FineS y) (hw : wt y ≤ 1048576) {v : Value} {w : World} (hv : MadeS y w v) (A1 : Option Addr) (c1 : Nat) (A2 : Option Addr) (c2 : Nat) (h1 : 1 ≤ c1) (g1 : Kd.C Kd.string w A1 1 [kCond]) (h2 : 2 ≤ c2) (g2 : Kd.C Kd.string w A2 2 [kReq, kRes]) :
    Calls Try.prog 28 #[v, .slice A1 1 c1, .slice A2 2 c2] w (SomeB w) := by
  obtain ⟨A3, c3, A4, c4, rfl, h3, g3, h4, g4⟩ := hv
  obtain ⟨N, hN⟩ := knownF y [kCond] [kReq, kRes] (by simp) (by simp) (fineS_lens hf).1 (fineS_bnd hf).2 (kids_text hw)
  obtain ⟨r, hr, _⟩ := hN N (Nat.le_refl _)
  refine (spec_sayKnown.calls N y.f0 y.f1 y.f2 A3 c3 y.f3 A4 c4 y.f4 A1 c1 [kCond] A2 c2 [kReq, kRes] r w g3 h3 g4 h4 g1 h1 g2 h2 hr).mono ?_
  rintro e w' ⟨rfl, hb⟩
  exact ⟨⟨r, rfl⟩, hb⟩
def NamesSays (x : SV) (w : World) (e : Ending) (w' : World) : Prop := (∃ r, e = .returned (.bool r) ∧ (r = true → x.f0 = 4 ∧ ∀ y ∈ x.f4, y.f0 = 3)) ∧ Below w.heap.size w w'
theorem law_names {x : SV} (hf : FineS x) (hw : wt x ≤ 1048576) {v : Value} {w : World} (hv : MadeS x w v) : Calls Try.prog 25 #[v] w (NamesSays x w) := by
  obtain ⟨A3, c3, A4, c4, rfl, h3, g3, h4, g4⟩ := hv
  obtain ⟨N, hN⟩ := namesE x (fineS_bnd hf).2 (kids_text hw) x.f4.length 0 (by omega) (by omega)
  obtain ⟨r, hr, hq⟩ := hN N (Nat.le_refl _)
  refine (spec_sayNames.calls N x.f0 x.f1 x.f2 A3 c3 x.f3 A4 c4 x.f4 r w g3 h3 g4 h4 hr).mono ?_
  rintro e w' ⟨rfl, hb⟩
  refine ⟨⟨r, rfl, fun h => ⟨(hq h).1, fun y hy => ?_⟩⟩, hb⟩
  obtain ⟨j, hj, rfl⟩ := List.mem_iff_getElem.1 hy
  exact (hq h).2 j hj (Nat.zero_le _)
def SaySays (x : SV) (w : World) (e : Ending) (w' : World) : Prop := (∃ r, e = .returned (.bool r) ∧ (r = true → NeedsS x)) ∧ Below w.heap.size w w'
def OkKid (y : SV) : Prop := y.f0 = 5 ∧ kCond ∈ y.f3
theorem kid_next {s : List SV} {i : Nat} (hi : i < s.length) (h : ∀ y ∈ s.take i, OkKid y) (hy : OkKid (s[i]'hi)) : ∀ y ∈ s.take (i + 1), OkKid y := by
  rw [List.take_succ_eq_append_getElem hi]
  intro y hy'
  rcases List.mem_append.1 hy' with h' | h'
  · exact h y h'
  · rw [List.mem_singleton.1 h']; exact hy
set_option maxHeartbeats 2000000 in
set_option maxRecDepth 100000 in
theorem law_sayNeeds {x : SV} (hf : FineS x) (hw : wt x ≤ 1048576) {v : Value} {w : World} (hv : MadeS x w v) : Calls Try.prog 15 #[v] w (SaySays x w) := by
  obtain ⟨r0, rfl, hd0⟩ := deep_of_made _ x (Nat.le_refl _) hv
  obtain ⟨rs0, h0, -, -, han0, -, hk0, hbn0, -, hrr0, ha0⟩ := hd0.rows
  obtain ⟨W0, hW0⟩ : ∃ W0 : World, W0 = w.alloc (Obj.cells #[.int .i64 r0.n0, .int .i64 r0.n1, .string r0.t, .slice r0.A r0.an r0.ac, .slice r0.B r0.bn r0.bc] 25) := ⟨_, rfl⟩
  have hb0 : Below w.heap.size w W0 := by rw [hW0]; exact (Below.refl _ _).alloc (Nat.le_refl _) _
  have HBX : Aside0 (W0.heap[w.heap.size]? = some (.cells #[.int .i64 r0.n0, .int .i64 r0.n1, .string r0.t, .slice r0.A r0.an r0.ac, .slice r0.B r0.bn r0.bc] 25 (0, 0))) := ⟨by rw [hW0]; exact new_atI rfl⟩
  have HB0 := Aside0.mk hb0
  have HW0 := Lib.hid hW0
  have hx := HBX.out
  have x0 : W0.cell? ⟨w.heap.size, 0, none⟩ = some (.int .i64 r0.n0) := (blk_cell hx 0).trans rfl
  have x1 : W0.cell? ⟨w.heap.size, 1, none⟩ = some (.int .i64 r0.n1) := (blk_cell hx 1).trans rfl
  have x2 : W0.cell? ⟨w.heap.size, 2, none⟩ = some (.string r0.t) := (blk_cell hx 2).trans rfl
  have x3 : W0.cell? ⟨w.heap.size, 3, none⟩ = some (.slice r0.A r0.an r0.ac) := (blk_cell hx 3).trans rfl
  have x4 : W0.cell? ⟨w.heap.size, 4, none⟩ = some (.slice r0.B r0.bn r0.bc) := (blk_cell hx 4).trans rfl
  clear hx
  by_cases h4 : r0.n0 = 4
  · have HNM := Lib.hid (law_names hf hw (hd0.below_ hb0).parts)
    unfold RV.val at HNM ⊢
    rw [h4] at x0 HNM HW0 ⊢
    clear hf hw hv hd0 h0 han0 hk0 hbn0 hrr0 ha0 hb0 hW0 HBX h4
    go_enter Try.func15, Try.ntmps15
    go_upto_region 1 with fail
    rw [← HW0.out]
    go_wp2_with fail
    refine HNM.out.mono ?_
    clear x0 x1 x2 x3 x4
    rintro e w1 ⟨⟨r, rfl, hr⟩, hb1⟩
    have HR := Lib.hid hr
    have HB1 := Aside0.mk (HB0.out.trans (hb1.mono HB0.out.size))
    clear hr hb1
    go_wp2
    go_ret
    exact ⟨⟨r, rfl, fun h => .inl (HR.out h)⟩, HB1.out⟩
  · have e4 : (r0.n0 == 4) = false := by simpa using h4
    have hx4 : x.f0 ≠ 4 := fun e => h4 (h0.trans e)
    have hlx : x.f4.length = x.f3.length := by
      cases hf with
      | map ha hl hb he => exact hl
      | nil => rfl
      | bool _ => rfl
      | int _ => rfl
      | text _ => rfl
      | list _ _ => exact absurd rfl hx4
    obtain ⟨n, hn⟩ : ∃ n, n = x.f3.length := ⟨_, rfl⟩
    have hrl : rs0.length = n := by rw [hn, ← hlx]; exact ha0.1.symm
    have hbn : r0.bn = n := by rw [hbn0, hlx, hn]
    have han : r0.an = n := by rw [han0, hn]
    have hnb : n ≤ 1099511627776 := by rw [hn]; exact (fineS_bnd hf).1
    rw [han] at x3
    rw [hbn] at x4
    rw [hrl] at hrr0
    unfold RV.val
    rw [han, hbn] at HW0 HBX ⊢
    have HKK := Aside0.mk hk0
    have HRR := Aside0.mk hrr0
    have HD := Aside0.mk hd0
    have HF := Lib.hid hf
    have HWT := Lib.hid hw
    have HLX := Lib.hid hlx
    have HN := Lib.hid hn
    have HRL := Lib.hid hrl
    have HNB := Lib.hid hnb
    have HA := Lib.hid ha0
    have HE4 := Lib.hid h4
    have HN0 := Lib.hid h0
    clear hf hw hv hd0 h0 han0 hk0 hbn0 hrr0 ha0 hb0 hW0 hx4 hlx hn hrl hbn han hnb
    go_enter Try.func15, Try.ntmps15
    go_upto_region 1 with fail
    rw [← HW0.out]
    go_wp2
    clear x0 x1 x2 x3 x4
    go_loopw [3] (fun v3 wr => ∃ i : Nat, i ≤ n ∧ v3 = .int .i64 i ∧ Hid (∀ y ∈ x.f4.take i, OkKid y) ∧ Aside0 (Below W0.heap.size W0 wr)) (fun v3 _ => n - (intOf v3).toNat)
    case atStart => exact ⟨0, Nat.zero_le _, rfl, Lib.hid (fun y hy => by simp at hy), ⟨Below.refl _ _⟩⟩
    case round =>
      obtain ⟨i, hi, rfl, HOK, HB⟩ := hrel
      obtain ⟨wb, hwb⟩ : ∃ wb, wb = wr := ⟨_, rfl⟩
      subst hwb
      have HBW : Aside0 (Below w.heap.size w wb) := ⟨HB0.out.trans (HB.out.mono HB0.out.size)⟩
      have hxb := blk_below HBX.out HB.out
      by_cases hlt : i < n
      · have i0 : (0 : Int) ≤ (i : Int) := Int.natCast_nonneg _
        have i1 : (i : Int) < (n : Int) := Int.ofNat_lt.2 hlt
        have hi3 : i < x.f3.length := by rw [← HN.out]; exact hlt
        have hi4 : i < x.f4.length := by rw [HLX.out]; exact hi3
        have hir : i < rs0.length := by rw [HRL.out]; exact hlt
        obtain ⟨adk, eK, hkc⟩ := Kd.at_string (n := x.f3.length) HKK.out (i : Int) i0 (by rw [← HN.out]; exact i1)
        replace hkc : w.cell? (adk.add i) = some (.string (x.f3[i]'hi3)) := by rw [Int.toNat_natCast] at hkc; rw [hkc]; exact congrArg (fun k => some (Value.string k)) (rdK (ks := x.f3) hi3)
        obtain ⟨ade, eA, he0, he1, he2, he3, he4⟩ := at_R HRR.out i hlt hir
        obtain ⟨rx, hrx⟩ : ∃ rx, rx = rs0[i]'hir := ⟨_, rfl⟩
        obtain ⟨y, hy⟩ : ∃ y, y = x.f4[i]'hi4 := ⟨_, rfl⟩
        obtain ⟨key, hkey⟩ : ∃ key, key = x.f3[i]'hi3 := ⟨_, rfl⟩
        have hdx := (HA.out.2 i hi4 hir)
        rw [← hrx, ← hy] at hdx
        have hym : y ∈ x.f4 := by rw [hy]; exact List.getElem_mem hi4
        have hyf := fineS_kid HF.out hym
        have hyw : wt y ≤ 1048576 := Nat.le_trans (wt_sub hym) HWT.out
        have hks : key.size ≤ 1099511627776 := by
          have h1 := wt_key (x := x) (List.getElem_mem hi3)
          have h2 := HWT.out
          rw [hkey]; omega
        rw [← hrx] at he0 he1 he2 he3 he4
        rw [← hkey] at hkc
        obtain ⟨ge, bh, hgete, hget1, -⟩ := get_ex hdx hyf kCond
        have HGE := Lib.hid hgete
        have HOKN : Hid (bh = true → ∀ z ∈ x.f4.take (i + 1), OkKid z) := Lib.hid (fun h => kid_next hi4 HOK.out (by
          rw [← hy]
          obtain ⟨q5, q, q3, q4, qk, _⟩ := hget1 h
          exact ⟨q5, by rw [← qk]; exact List.getElem_mem q3⟩))
        have HNAME := Lib.hid (fun W => law_name key hks W)
        have HKNOWN : Hid (∀ (W : World) (A1 : Option Addr) (c1 : Nat) (A2 : Option Addr) (c2 : Nat), Below w.heap.size w W → 1 ≤ c1 → Kd.C Kd.string W A1 1 [kCond] → 2 ≤ c2 → Kd.C Kd.string W A2 2 [kReq, kRes] → Calls Try.prog 28 #[rx.val, .slice A1 1 c1, .slice A2 2 c2] W (SomeB W)) := Lib.hid (fun W A1 c1 A2 c2 hW a1 a2 a3 a4 => law_known hyf hyw (hdx.below_ hW).parts A1 c1 A2 c2 a1 a2 a3 a4)
        unfold RV.val at HGE HKNOWN
        have HKC := Aside0.mk hkc
        have HE := Aside0.mk (And.intro he0 (And.intro he1 (And.intro he2 (And.intro he3 he4))))
        have wk := wrF hlt HNB.out
        rw [eK, eA] at hxb
        have HXB := Aside0.mk hxb
        have tr : ∀ {q : Addr} {u : Value}, w.cell? q = some u → wb.cell? q = some u := fun h => (HBW.out.cell (World.block_lt_of_cell? w _ h)).trans h
        replace he0 := tr he0
        replace he1 := tr he1
        replace he2 := tr he2
        replace he3 := tr he3
        replace he4 := tr he4
        have x0 : wb.cell? ⟨w.heap.size, 0, none⟩ = some (.int .i64 r0.n0) := (blk_cell hxb 0).trans rfl
        have x1 : wb.cell? ⟨w.heap.size, 1, none⟩ = some (.int .i64 r0.n1) := (blk_cell hxb 1).trans rfl
        have x2 : wb.cell? ⟨w.heap.size, 2, none⟩ = some (.string r0.t) := (blk_cell hxb 2).trans rfl
        have x3 : wb.cell? ⟨w.heap.size, 3, none⟩ = some (.slice (some adk) n r0.ac) := (blk_cell hxb 3).trans rfl
        have x4 : wb.cell? ⟨w.heap.size, 4, none⟩ = some (.slice (some ade) n r0.bc) := (blk_cell hxb 4).trans rfl
        clear hi3 hi4 hir hrx hy hkey hdx hym hyf hyw hks hgete hget1 hkc hxb tr eK eA
        go_wp2_with fail
        refine (HGE.out wb HBW.out).mono ?_
        clear x0 x1 x2 x3 x4 he0 he1 he2 he3 he4
        rintro e w3 ⟨rfl, hb3⟩
        obtain ⟨gl, hgl⟩ : ∃ gl, gl = w3.heap.size := ⟨_, rfl⟩
        obtain ⟨W4, hW4⟩ : ∃ W4 : World, W4 = w3.alloc (Obj.cells #[.int .i64 ge.n0, .int .i64 ge.n1, .string ge.t, .slice ge.A ge.an ge.ac, .slice ge.B ge.bn ge.bc] 25) := ⟨_, rfl⟩
        have hb4 : Below wb.heap.size wb W4 := by rw [hW4]; exact hb3.alloc hb3.size _
        have hg4 : W4.heap[gl]? = some (.cells #[.int .i64 ge.n0, .int .i64 ge.n1, .string ge.t, .slice ge.A ge.an ge.ac, .slice ge.B ge.bn ge.bc] 25 (0, 0)) := by rw [hW4, hgl]; exact new_atI rfl
        have hx4 := blk_below HXB.out hb4
        have HB4 := Aside0.mk hb4
        have HG4 := Aside0.mk hg4
        have HX4 := Aside0.mk hx4
        have HW4 := Lib.hid hW4
        have HGL := Lib.hid hgl
        have HBW4 : Aside0 (Below w.heap.size w W4) := ⟨HBW.out.trans (hb4.mono HBW.out.size)⟩
        have x0 : W4.cell? ⟨w.heap.size, 0, none⟩ = some (.int .i64 r0.n0) := (blk_cell hx4 0).trans rfl
        have x1 : W4.cell? ⟨w.heap.size, 1, none⟩ = some (.int .i64 r0.n1) := (blk_cell hx4 1).trans rfl
        have x2 : W4.cell? ⟨w.heap.size, 2, none⟩ = some (.string r0.t) := (blk_cell hx4 2).trans rfl
        have x3 : W4.cell? ⟨w.heap.size, 3, none⟩ = some (.slice (some adk) n r0.ac) := (blk_cell hx4 3).trans rfl
        have x4 : W4.cell? ⟨w.heap.size, 4, none⟩ = some (.slice (some ade) n r0.bc) := (blk_cell hx4 4).trans rfl
        have hkc := (HBW4.out.cell (World.block_lt_of_cell? w _ HKC.out)).trans HKC.out
        clear hb3 hgl hW4 hb4 hg4 hx4
        go_upto_region 7 with fail
        rw [← HW4.out, ← HGL.out]
        go_wp2_with fail
        refine (HNAME.out W4).mono ?_
        clear x0 x1 x2 x3 x4 hkc
        rintro e w5 ⟨⟨b1, rfl⟩, hb5⟩
        have hx5 := blk_below HX4.out hb5
        have HX5 := Aside0.mk hx5
        have HG5 := Aside0.mk (blk_below HG4.out hb5)
        have HB5 : Aside0 (Below wb.heap.size wb w5) := ⟨below_then HB4.out HB4.out.size hb5⟩
        have HBW5 : Aside0 (Below w.heap.size w w5) := ⟨HBW.out.trans (HB5.out.mono HBW.out.size)⟩
        clear hb5
        cases b1 with
        | false =>
          have x0 : w5.cell? ⟨w.heap.size, 0, none⟩ = some (.int .i64 r0.n0) := (blk_cell hx5 0).trans rfl
          have x1 : w5.cell? ⟨w.heap.size, 1, none⟩ = some (.int .i64 r0.n1) := (blk_cell hx5 1).trans rfl
          have x2 : w5.cell? ⟨w.heap.size, 2, none⟩ = some (.string r0.t) := (blk_cell hx5 2).trans rfl
          have x3 : w5.cell? ⟨w.heap.size, 3, none⟩ = some (.slice (some adk) n r0.ac) := (blk_cell hx5 3).trans rfl
          have x4 : w5.cell? ⟨w.heap.size, 4, none⟩ = some (.slice (some ade) n r0.bc) := (blk_cell hx5 4).trans rfl
          clear hx5
          go_wp2
          go_ret
          exact ⟨⟨false, rfl, fun h => Bool.noConfusion h⟩, HBW5.out⟩
        | true =>
          have x0 : w5.cell? ⟨w.heap.size, 0, none⟩ = some (.int .i64 r0.n0) := (blk_cell hx5 0).trans rfl
          have x1 : w5.cell? ⟨w.heap.size, 1, none⟩ = some (.int .i64 r0.n1) := (blk_cell hx5 1).trans rfl
          have x2 : w5.cell? ⟨w.heap.size, 2, none⟩ = some (.string r0.t) := (blk_cell hx5 2).trans rfl
          have x3 : w5.cell? ⟨w.heap.size, 3, none⟩ = some (.slice (some adk) n r0.ac) := (blk_cell hx5 3).trans rfl
          have x4 : w5.cell? ⟨w.heap.size, 4, none⟩ = some (.slice (some ade) n r0.bc) := (blk_cell hx5 4).trans rfl
          clear hx5
          have tr : ∀ {q : Addr} {u : Value}, w.cell? q = some u → w5.cell? q = some u := fun h => (HBW5.out.cell (World.block_lt_of_cell? w _ h)).trans h
          have he0 := tr HE.out.1
          have he1 := tr HE.out.2.1
          have he2 := tr HE.out.2.2.1
          have he3 := tr HE.out.2.2.2.1
          have he4 := tr HE.out.2.2.2.2
          clear tr
          go_wp2_with (first | ((with_reducible refine gate_dst (N := 40) rfl ?_); (try (refine gate_guard (by rfl) ?_; dsimp only)); refine Kd.R_lit Kd.string (w0 := w5) w5.heap.size 9 rfl (N := 40) rfl (xs := ([kCond] : List ByteArray)) (inner := [.string kCond]) (ok := fun _ => True) (okp := fun _ => False) ?hr ?hp (fun _ h => h.elim) ?hf ?hB ?hS (by simp) ?_; (case hr => first | (go_simp; done) | (go_simp; rfl)); (case hp => exact (Reps.one (show Kd.M Kd.string _ _ _ kCond [.string kCond] from rfl) (Reps.none _ _))); (case hf => trivial); (case hB => exact Below.refl _ _); (case hS => exact Nat.le_refl _); intro v6 w6 ho6 hb6 hg6 hn6; obtain ⟨A6, c6, eo6, hl6, hC6⟩ := Kd.R_reads ho6; subst eo6; have HO6 := Aside0.mk (And.intro hl6 hC6); have HB6 := Aside0.mk hb6; clear ho6 hb6 hg6 hn6 hl6 hC6) | ((with_reducible refine gate_dst (N := 41) rfl ?_); (try (refine gate_guard (by rfl) ?_; dsimp only)); refine Kd.R_lit Kd.string (w0 := w6) w6.heap.size 9 rfl (N := 41) rfl (xs := ([kReq, kRes] : List ByteArray)) (inner := [.string kReq, .string kRes]) (ok := fun _ => True) (okp := fun _ => False) ?hr ?hp (fun _ h => h.elim) ?hf ?hB ?hS (by simp) ?_; (case hr => first | (go_simp; done) | (go_simp; rfl)); (case hp => exact (Reps.one (show Kd.M Kd.string _ _ _ kReq [.string kReq] from rfl) (Reps.one (show Kd.M Kd.string _ _ _ kRes [.string kRes] from rfl) (Reps.none _ _)))); (case hf => trivial); (case hB => exact Below.refl _ _); (case hS => exact Nat.le_refl _); intro v7 w7 ho7 hb7 hg7 hn7; obtain ⟨A7, c7, eo7, hl7, hC7⟩ := Kd.R_reads ho7; subst eo7; have HO7 := Aside0.mk (And.intro hl7 hC7); have HB7 := Aside0.mk hb7; clear ho7 hb7 hg7 hn7 hl7 hC7))
          refine (HKNOWN.out w7 A6 c6 A7 c7 (HBW5.out.trans ((HB6.out.trans (HB7.out.mono HB6.out.size)).mono HBW5.out.size)) HO6.out.1 (Kd.C_below HO6.out.2 HB7.out) HO7.out.1 HO7.out.2).mono ?_
          clear x0 x1 x2 x3 x4 he0 he1 he2 he3 he4
          rintro e w8 ⟨⟨b2, rfl⟩, hb8⟩
          have HB58 : Aside0 (Below w5.heap.size w5 w8) := ⟨below_then (HB6.out.trans (HB7.out.mono HB6.out.size)) (Nat.le_trans HB6.out.size HB7.out.size) hb8⟩
          have hx8 := blk_below HX5.out HB58.out
          have hg8 := blk_below HG5.out HB58.out
          have HB8 : Aside0 (Below wb.heap.size wb w8) := ⟨below_then HB5.out HB5.out.size HB58.out⟩
          have HBW8 : Aside0 (Below w.heap.size w w8) := ⟨HBW.out.trans (HB8.out.mono HBW.out.size)⟩
          clear hb8
          have x0 : w8.cell? ⟨w.heap.size, 0, none⟩ = some (.int .i64 r0.n0) := (blk_cell hx8 0).trans rfl
          have x1 : w8.cell? ⟨w.heap.size, 1, none⟩ = some (.int .i64 r0.n1) := (blk_cell hx8 1).trans rfl
          have x2 : w8.cell? ⟨w.heap.size, 2, none⟩ = some (.string r0.t) := (blk_cell hx8 2).trans rfl
          have x3 : w8.cell? ⟨w.heap.size, 3, none⟩ = some (.slice (some adk) n r0.ac) := (blk_cell hx8 3).trans rfl
          have x4 : w8.cell? ⟨w.heap.size, 4, none⟩ = some (.slice (some ade) n r0.bc) := (blk_cell hx8 4).trans rfl
          have g0 : w8.cell? ⟨gl, 0, none⟩ = some (.int .i64 ge.n0) := (blk_cell hg8 0).trans rfl
          have g1 : w8.cell? ⟨gl, 1, none⟩ = some (.int .i64 ge.n1) := (blk_cell hg8 1).trans rfl
          have g2 : w8.cell? ⟨gl, 2, none⟩ = some (.string ge.t) := (blk_cell hg8 2).trans rfl
          have g3 : w8.cell? ⟨gl, 3, none⟩ = some (.slice ge.A ge.an ge.ac) := (blk_cell hg8 3).trans rfl
          have g4 : w8.cell? ⟨gl, 4, none⟩ = some (.slice ge.B ge.bn ge.bc) := (blk_cell hg8 4).trans rfl
          clear hx8 hg8
          cases b2 with
          | false =>
            go_wp2
            go_ret
            exact ⟨⟨false, rfl, fun h => Bool.noConfusion h⟩, HBW8.out⟩
          | true =>
            cases bh with
            | false =>
              go_wp2
              go_ret
              exact ⟨⟨false, rfl, fun h => Bool.noConfusion h⟩, HBW8.out⟩
            | true =>
              have HOK2 := Lib.hid (HOKN.out (by first | rfl | trivial))
              go_wp2_with ((with_reducible refine gate_dst (N := 52) rfl ?_); (try (refine gate_guard (by rfl) ?_; dsimp only)); refine Kd.R_lit Kd.string (w0 := w8) w8.heap.size 9 rfl (N := 52) rfl (xs := ([kSt1, kSt2, kSt3] : List ByteArray)) (inner := [.string kSt1, .string kSt2, .string kSt3]) (ok := fun _ => True) (okp := fun _ => False) ?hr ?hp (fun _ h => h.elim) ?hf ?hB ?hS (by simp) ?_; (case hr => first | (go_simp; done) | (go_simp; rfl)); (case hp => exact (Reps.one (show Kd.M Kd.string _ _ _ kSt1 [.string kSt1] from rfl) (Reps.one (show Kd.M Kd.string _ _ _ kSt2 [.string kSt2] from rfl) (Reps.one (show Kd.M Kd.string _ _ _ kSt3 [.string kSt3] from rfl) (Reps.none _ _))))); (case hf => trivial); (case hB => exact Below.refl _ _); (case hS => exact Nat.le_refl _); intro v9 w9 ho9 hb9 hg9 hn9; obtain ⟨A9, c9, eo9, hl9, hC9⟩ := Kd.R_reads ho9; subst eo9; have HO9 := Aside0.mk (And.intro hl9 hC9); have HB9 := Aside0.mk hb9; clear ho9 hb9 hg9 hn9 hl9 hC9)
              refine (law_in ge.t [kSt1, kSt2, kSt3] (by simp) A9 c9 w9 HO9.out.1 HO9.out.2).mono ?_
              clear x0 x1 x2 x3 x4 g0 g1 g2 g3 g4
              rintro e w10 ⟨⟨b3, rfl⟩, hb10⟩
              have HB10 : Aside0 (Below wb.heap.size wb w10) := ⟨below_then HB8.out HB8.out.size (below_then HB9.out HB9.out.size hb10)⟩
              have HBW10 : Aside0 (Below w.heap.size w w10) := ⟨HBW.out.trans (HB10.out.mono HBW.out.size)⟩
              clear hb10
              cases b3 with
              | false =>
                go_wp2
                go_ret
                exact ⟨⟨false, rfl, fun h => Bool.noConfusion h⟩, HBW10.out⟩
              | true =>
                go_wp2
                go_roundw
                case rel => exact ⟨i + 1, hlt, by go_num, HOK2, ⟨below_then HB.out HB.out.size HB10.out⟩⟩
                case measure => first | exact msF hlt | (rw [wk]; exact msF hlt)
      · obtain rfl : i = n := by omega
        have hlt0 : ¬ ((i : Int) < (i : Int)) := Int.lt_irrefl _
        have HALL : Hid (∀ y ∈ x.f4, OkKid y) := Lib.hid (by have := HOK.out; rwa [HN.out, ← HLX.out, List.take_length] at this)
        by_cases h5 : r0.n0 = 5
        · have e5 : (r0.n0 == 5) = true := by simpa using h5
          have HF5 : Hid (x.f0 = 5) := Lib.hid (HN0.out.symm.trans h5)
          have x0 : wb.cell? ⟨w.heap.size, 0, none⟩ = some (.int .i64 r0.n0) := (blk_cell hxb 0).trans rfl
          have x1 : wb.cell? ⟨w.heap.size, 1, none⟩ = some (.int .i64 r0.n1) := (blk_cell hxb 1).trans rfl
          have x2 : wb.cell? ⟨w.heap.size, 2, none⟩ = some (.string r0.t) := (blk_cell hxb 2).trans rfl
          have x3 : wb.cell? ⟨w.heap.size, 3, none⟩ = some (.slice r0.A i r0.ac) := (blk_cell hxb 3).trans rfl
          have x4 : wb.cell? ⟨w.heap.size, 4, none⟩ = some (.slice r0.B i r0.bc) := (blk_cell hxb 4).trans rfl
          clear hxb
          go_wp2
          go_ret
          exact ⟨⟨_, rfl, fun _ => .inr ⟨HF5.out, HALL.out⟩⟩, HBW.out⟩
        · have e5 : (r0.n0 == 5) = false := by simpa using h5
          have x0 : wb.cell? ⟨w.heap.size, 0, none⟩ = some (.int .i64 r0.n0) := (blk_cell hxb 0).trans rfl
          have x1 : wb.cell? ⟨w.heap.size, 1, none⟩ = some (.int .i64 r0.n1) := (blk_cell hxb 1).trans rfl
          have x2 : wb.cell? ⟨w.heap.size, 2, none⟩ = some (.string r0.t) := (blk_cell hxb 2).trans rfl
          have x3 : wb.cell? ⟨w.heap.size, 3, none⟩ = some (.slice r0.A i r0.ac) := (blk_cell hxb 3).trans rfl
          have x4 : wb.cell? ⟨w.heap.size, 4, none⟩ = some (.slice r0.B i r0.bc) := (blk_cell hxb 4).trans rfl
          clear hxb
          go_wp2
          go_ret
          exact ⟨⟨_, rfl, fun h => Bool.noConfusion h⟩, HBW.out⟩
end Go.Proofs.Ytgeamhmenmomhaa.A
