/- Joined texts. -/
import Derived.Test.YtgeamhmenmomhaaDoorResT
import Derived.Test.YtgeamhmenmomhaaDoorEnvP
import Derived.Test.YtgeamhmenmomhaaDoorPTx7
import Derived.Test.YtgeamhmenmomhaaDoorFits
/- Plain facts of the printed functions; the walks of spec.Get over rows, spec.normTop, spec.normResolved (printed by gen_envg.py). -/
namespace Go.Proofs.YtgeamhmenmomhaaDoor.A
set_option linter.unusedVariables false
set_option linter.unusedSimpArgs false
set_option linter.unusedSectionVars false
open Go.RowKit Go.Proofs.YtgeamhmenmomhaaDoorW.PrintWords Go.Proofs.YtgeamhmenmomhaaDoorW.PrintLast Go.Proofs.YtgeamhmenmomhaaDoorW.PrintMore Go.Proofs.YtgeamhmenmomhaaDoor.PT Go.Proofs.YtgeamhmenmomhaaDoor.L Go.Proofs.YtgeamhmenmomhaaDoor.SM

/-! ### plain -/
theorem bt_drop (s : ByteArray) {i : Nat} (h : i < s.size) : ∃ c : UInt8, s.data.toList.drop i = c :: s.data.toList.drop (i + 1) ∧ bt s (i : Int) = (c.toNat : Int) := by
  have hl : i < s.data.toList.length := by rw [Array.length_toList]; exact h
  refine ⟨s.data.toList[i], List.drop_eq_getElem_cons hl, ?_⟩
  unfold bt
  rw [dif_pos (by simpa using h)]
  rfl
theorem name_l0 (s : ByteArray) (hs : s.size < 4611686018427387903) : ∀ n i, n = s.size - i → i ≤ s.size → ∃ r, spec_sayName.l0 (n + 1) s (i : Int) = some r ∧ (r = true → ∀ c ∈ s.data.toList.drop i, c ≠ 61)
  | 0, i, h, hi => by
    rw [spec_sayName.l0, if_neg (by omega)]
    refine ⟨_, rfl, fun _ c hc => ?_⟩
    rw [List.drop_of_length_le (by rw [Array.length_toList]; show s.size ≤ i; omega)] at hc
    cases hc
  | n + 1, i, h, hi => by
    have hlt : i < s.size := by omega
    obtain ⟨r, hr, hq⟩ := name_l0 s hs n (i + 1) (by omega) (by omega)
    obtain ⟨c, hc, hb⟩ := bt_drop s hlt
    have fin : bt s (i : Int) ≠ 61 → (r = true → ∀ d ∈ s.data.toList.drop i, d ≠ 61) := fun hne hr' d hd => by
      rw [hc] at hd
      rcases List.mem_cons.1 hd with rfl | hd
      · intro e; apply hne; rw [hb, e]; rfl
      · exact hq hr' d hd
    rw [spec_sayName.l0, if_pos (by omega), if_pos (by omega), wrapQ i (by omega), hr]
    repeat' split
    all_goals first | exact ⟨r, rfl, fin (by omega)⟩ | exact ⟨false, rfl, fun h => Bool.noConfusion h⟩
theorem name_f (s : ByteArray) (hs : s.size < 4611686018427387903) : ∃ r, spec_sayName.f (s.size + 1) s = some r ∧ (r = true → noQ s) := by
  obtain ⟨r, h1, h2⟩ := name_l0 s hs s.size 0 (by omega) (by omega)
  exact ⟨r, h1, fun h => by simpa [noQ] using h2 h⟩
theorem in_l0 (s : ByteArray) (l : List ByteArray) (hl : l.length ≤ 1000) : ∀ n i K, n = l.length - i → i ≤ l.length → n + 1 ≤ K → ∃ r, spec_sayIn.l0 K s l (i : Int) = some r ∧ (r = true → s ∈ l)
  | 0, i, K, h, hi, hK => by
    obtain ⟨K, rfl⟩ : ∃ K', K = K' + 1 := ⟨K - 1, by omega⟩
    rw [spec_sayIn.l0, if_neg (by omega)]
    exact ⟨_, rfl, fun h => by cases h⟩
  | n + 1, i, K, h, hi, hK => by
    obtain ⟨K, rfl⟩ : ∃ K', K = K' + 1 := ⟨K - 1, by omega⟩
    have hlt : i < l.length := by omega
    rw [spec_sayIn.l0, if_pos (by omega), if_pos (by omega), wrapQ i (by omega), rdK hlt]
    split
    · rename_i e
      exact ⟨_, rfl, fun _ => (Ord.toList_inj e) ▸ List.getElem_mem hlt⟩
    · exact in_l0 s l hl n (i + 1) K (by omega) (by omega) (by omega)
theorem in_f (s : ByteArray) (l : List ByteArray) (hl : l.length ≤ 1000) (K : Nat) (hK : l.length + 1 ≤ K) : ∃ r, spec_sayIn.f K s l = some r ∧ (r = true → s ∈ l) := in_l0 s l hl l.length 0 K (by omega) (by omega) hK
theorem extra_f (s : ByteArray) : ∃ r, spec_sayExtra.f s = some r ∧ (r = true → s.size = 3) := by
  unfold spec_sayExtra.f
  by_cases h : (s.size : Int) = 3
  · rw [if_pos h, if_pos (by decide), if_pos (by omega)]
    split
    · rw [if_pos (by omega)]
      split <;> exact ⟨_, rfl, fun _ => by omega⟩
    · exact ⟨_, rfl, fun h => by cases h⟩
  · rw [if_neg h]; exact ⟨_, rfl, fun h => by cases h⟩
theorem plain_l0 (a b : Int) (c : ByteArray) (ks : List ByteArray) (vs : List SV) (hl : ks.length ≤ 1099511627776) : ∀ n i, n = ks.length - i → i ≤ ks.length → ∃ r, spec_normPlain.l0 (n + 15) (i : Int) a b c ks vs = some r ∧ (r = true → a = 5)
  | 0, i, h, hi => by
    rw [spec_normPlain.l0, if_neg (by omega)]
    exact ⟨_, rfl, fun h => by simpa using h⟩
  | n + 1, i, h, hi => by
    have hlt : i < ks.length := by omega
    rw [show n + 1 + 15 = (n + 15) + 1 by omega, spec_normPlain.l0, if_pos (by omega), if_pos (by omega), wrapQ i (by omega)]
    obtain ⟨r, hr, hq⟩ := plain_l0 a b c ks vs hl n (i + 1) (by omega) (by omega)
    obtain ⟨q, hq1, _⟩ := in_f (rdOf ByteArray.empty ks (i : Int)) [(⟨#[105, 109, 97, 103, 101]⟩ : ByteArray), (⟨#[117, 115, 101, 114]⟩ : ByteArray), (⟨#[104, 111, 115, 116, 110, 97, 109, 101]⟩ : ByteArray), (⟨#[99, 111, 109, 109, 97, 110, 100]⟩ : ByteArray), (⟨#[108, 97, 98, 101, 108, 115]⟩ : ByteArray), (⟨#[101, 110, 118, 105, 114, 111, 110, 109, 101, 110, 116]⟩ : ByteArray), (⟨#[110, 101, 116, 119, 111, 114, 107, 115]⟩ : ByteArray), (⟨#[110, 101, 116, 119, 111, 114, 107, 95, 109, 111, 100, 101]⟩ : ByteArray), (⟨#[100, 101, 112, 101, 110, 100, 115, 95, 111, 110]⟩ : ByteArray), (⟨#[112, 111, 114, 116, 115]⟩ : ByteArray), (⟨#[118, 111, 108, 117, 109, 101, 115]⟩ : ByteArray), (⟨#[108, 105, 110, 107, 115]⟩ : ByteArray), (⟨#[118, 111, 108, 117, 109, 101, 115, 95, 102, 114, 111, 109]⟩ : ByteArray)] (by decide) (n + 15) (by show 13 + 1 ≤ _; omega)
    obtain ⟨q2, hq2, _⟩ := extra_f (rdOf ByteArray.empty ks (i : Int))
    rw [hq1, Option.bind_some, hr]
    split
    · exact ⟨r, rfl, hq⟩
    · rw [hq2, Option.bind_some]
      split
      · exact ⟨r, rfl, hq⟩
      · exact ⟨_, rfl, fun h => by cases h⟩
theorem plain_f (x : SV) (hl : x.f3.length ≤ 1099511627776) : ∃ r, spec_normPlain.f (x.f3.length + 15) x.f0 x.f1 x.f2 x.f3 x.f4 = some r ∧ (r = true → x.f0 = 5) := plain_l0 x.f0 x.f1 x.f2 x.f3 x.f4 hl x.f3.length 0 (by omega) (by omega)
theorem law_plain {x : SV} {w : World} {v : Value} (hl : x.f3.length ≤ 1099511627776) (hv : MadeS x w v) : Calls Tryd.prog 36 #[v] w fun e w' => (∃ r, e = .returned (.bool r) ∧ (r = true → x.f0 = 5)) ∧ Below w.heap.size w w' := by
  obtain ⟨A3, c3, A4, c4, rfl, h3, g3, h4, g4⟩ := hv
  obtain ⟨r, hr, hq⟩ := plain_f x hl
  refine (spec_normPlain.calls _ x.f0 x.f1 x.f2 A3 c3 x.f3 A4 c4 x.f4 r w g3 h3 g4 h4 hr).mono ?_
  rintro e w' ⟨rfl, hb⟩
  exact ⟨⟨r, rfl, hq⟩, hb⟩
theorem law_texts {x : SV} {w : World} {v : Value} (hl : x.f4.length ≤ 1099511627776) (hv : MadeS x w v) : Calls Tryd.prog 27 #[v] w fun e w' => e = .returned (.bool (allT x.f4 && decide (x.f0 = 4))) ∧ Below w.heap.size w w' := by
  obtain ⟨A3, c3, A4, c4, rfl, h3, g3, h4, g4⟩ := hv
  exact spec_normTexts.calls _ x.f0 x.f1 x.f2 A3 c3 x.f3 A4 c4 x.f4 _ w g3 h3 g4 h4 (texts_f x.f0 x.f1 x.f2 x.f3 x.f4 hl)
/-- where a key stands among rising keys -/
theorem place_at {ks : List ByteArray} (ha : Ord.Asc id ks) {i : Nat} (hi : i < ks.length) : placeN (ks[i]'hi) ks = i ∧ placeB (ks[i]'hi) ks = true := by
  induction ks generalizing i with
  | nil => cases hi
  | cons y l ih =>
    have h1 := (List.pairwise_cons.1 ha).1
    have h2 := (List.pairwise_cons.1 ha).2
    rcases i with _ | i
    · have e : Op.bytesLess y.toList y.toList = false := Ord.lt_irrefl y
      show placeN y (y :: l) = 0 ∧ placeB y (y :: l) = true
      simp [placeN, placeB, e]
    · have hi' : i < l.length := by simpa using hi
      have e : Op.bytesLess y.toList (l[i]'hi').toList = true := h1 _ (List.getElem_mem hi')
      obtain ⟨h3, h4⟩ := ih h2 hi'
      show placeN (l[i]'hi') (y :: l) = i + 1 ∧ placeB (l[i]'hi') (y :: l) = true
      simp [placeN, placeB, e, h3, h4]
theorem place_in {key : ByteArray} : ∀ {ks : List ByteArray}, placeB key ks = true → ∃ h : placeN key ks < ks.length, ks[placeN key ks]'h = key
  | [], h => by cases h
  | y :: l, h => by
    unfold placeB at h
    split at h
    · rename_i c
      obtain ⟨h1, h2⟩ := place_in (ks := l) h
      have e : placeN key (y :: l) = placeN key l + 1 := by simp [placeN, c]
      exact ⟨by rw [e]; simpa using h1, by simp only [e]; simpa using h2⟩
    · rename_i c
      have e : placeN key (y :: l) = 0 := by simp [placeN, c]
      exact ⟨by rw [e]; simp, by simp only [e]; exact Ord.toList_inj (by simpa using h)⟩
theorem place_not {key : ByteArray} {ks : List ByteArray} (ha : Ord.Asc id ks) (h : placeB key ks = false) : key ∉ ks := fun hk => by
  obtain ⟨i, hi, rfl⟩ := List.mem_iff_getElem.1 hk
  rw [(place_at ha hi).2] at h
  cases h
theorem with_at {ks : List ByteArray} (ha : Ord.Asc id ks) {i : Nat} (hi : i < ks.length) (rs : List RV) (r : RV) : withKs (ks[i]'hi) ks = ks ∧ withVs (ks[i]'hi) ks rs r = rs.set i r := by
  obtain ⟨h1, h2⟩ := place_at ha hi
  unfold withKs withVs
  rw [h2, h1]
  exact ⟨rfl, rfl⟩
theorem at_R {w : World} {B : Option Addr} {n : Nat} {rs : List RV} (h : Kd.C kR w B n rs) (i : Nat) (hi : i < n) (hr : i < rs.length) : ∃ ad, B = some ad ∧ w.cell? (ad.add (i * 5)) = some (.int .i64 (rs[i]'hr).n0) ∧ w.cell? ⟨(ad.add (i * 5)).block, (ad.add (i * 5)).off + 1, none⟩ = some (.int .i64 (rs[i]'hr).n1) ∧ w.cell? ⟨(ad.add (i * 5)).block, (ad.add (i * 5)).off + 2, none⟩ = some (.string (rs[i]'hr).t) ∧ w.cell? ⟨(ad.add (i * 5)).block, (ad.add (i * 5)).off + 3, none⟩ = some (.slice (rs[i]'hr).A (rs[i]'hr).an (rs[i]'hr).ac) ∧ w.cell? ⟨(ad.add (i * 5)).block, (ad.add (i * 5)).off + 4, none⟩ = some (.slice (rs[i]'hr).B (rs[i]'hr).bn (rs[i]'hr).bc) := by
  obtain ⟨ad, c, e, _, hK, hc0⟩ := Kd.C_get h RV.zero (i : Int) (by omega) (by omega)
  have hc : ∀ j u, c[j]? = some u → w.cell? (ad.add (i * 5 + j)) = some u := fun j u h => by
    have h2 := hc0 j u h
    simp only [Int.toNat_natCast] at h2
    exact h2
  have hq : (rs.getD i RV.zero) = rs[i]'hr := by simp [List.getD_eq_getElem?_getD, List.getElem?_eq_getElem hr]
  have hK' : c = (rs[i]'hr).cs := by
    have h2 : c = (rs.getD ((i : Int)).toNat RV.zero).cs := hK
    rw [Int.toNat_natCast, hq] at h2
    exact h2
  subst hK'
  exact ⟨ad, e, hc 0 _ rfl, by rw [← add_field _ _ 1 (by omega)]; exact hc 1 _ rfl, by rw [← add_field _ _ 2 (by omega)]; exact hc 2 _ rfl, by rw [← add_field _ _ 3 (by omega)]; exact hc 3 _ rfl, by rw [← add_field _ _ 4 (by omega)]; exact hc 4 _ rfl⟩
/-! ### spec.Get -/
def getR (b : Bool) (n : Nat) (rs : List RV) : RV := if b then rs.getD n RV.zero else RV.zero
set_option maxHeartbeats 4000000 in
set_option maxRecDepth 100000 in
theorem spec_GetR (r : RV) (h5 : r.n0 = 5) (key : ByteArray) (ks : List ByteArray) (rs : List RV) (hl : rs.length = ks.length) (hb : ks.length ≤ 1099511627776) (han : r.an = ks.length) (hbn : r.bn = rs.length) (w : World) (hk : Kd.C Kd.string w r.A ks.length ks) (hr : Kd.C kR w r.B rs.length rs) :
    Calls Tryd.prog 34 #[r.val, .string key] w fun e w' => e = .returned (.tuple #[(getR (placeB key ks) (placeN key ks) rs).val, .bool (placeB key ks)]) ∧ Below w.heap.size w w' := by
  obtain ⟨g, hg⟩ : ∃ g, g = (getR (placeB key ks) (placeN key ks) rs).val := ⟨_, rfl⟩
  rw [← hg]
  have HGV := Lib.hid hg
  clear hg
  unfold RV.val
  rw [h5, han, hbn]
  obtain ⟨W0, hW0⟩ : ∃ W0 : World, W0 = (w.alloc (Obj.cells #[.int .i64 5, .int .i64 r.n1, .string r.t, .slice r.A ks.length r.ac, .slice r.B rs.length r.bc] 25)).alloc (Obj.cells zV 25) := ⟨_, rfl⟩
  have hb0 : Below w.heap.size w W0 := by rw [hW0]; exact ((Below.refl _ _).alloc (Nat.le_refl _) _).alloc (by simp) _
  have hbx : W0.heap[w.heap.size]? = some (.cells #[.int .i64 5, .int .i64 r.n1, .string r.t, .slice r.A ks.length r.ac, .slice r.B rs.length r.bc] 25 (0, 0)) := by rw [hW0]; exact heap_oldI (new_atI rfl)
  have hre : W0.heap[w.heap.size + 1]? = some (.cells zV 25 (0, 0)) := by rw [hW0]; exact new_atI (by simp)
  have HB0 := Aside0.mk hb0
  have HBX := Aside0.mk hbx
  have HRE := Aside0.mk hre
  have G3 := Aside0.mk (Kd.C_below hk hb0)
  have G4 := Aside0.mk hr
  have HL := Lib.hid hl
  have HW0 := Lib.hid hW0
  have m0 : W0.cell? ⟨w.heap.size, 0, none⟩ = some (.int .i64 5) := (blk_cell hbx 0).trans rfl
  have m1 : W0.cell? ⟨w.heap.size, 1, none⟩ = some (.int .i64 r.n1) := (blk_cell hbx 1).trans rfl
  have m2 : W0.cell? ⟨w.heap.size, 2, none⟩ = some (.string r.t) := (blk_cell hbx 2).trans rfl
  have m3 : W0.cell? ⟨w.heap.size, 3, none⟩ = some (.slice r.A ks.length r.ac) := (blk_cell hbx 3).trans rfl
  have m4 : W0.cell? ⟨w.heap.size, 4, none⟩ = some (.slice r.B rs.length r.bc) := (blk_cell hbx 4).trans rfl
  clear hb0 hbx hre hW0 hk hr hl h5 han hbn
  go_enter Tryd.func34, Tryd.ntmps34
  go_upto_region 1 with fail
  rw [← HW0.out]
  go_wp2_with fail
  refine (spec_place ks key r.t 5 r.n1 r.A r.ac (.slice r.B rs.length r.bc) W0 G3.out hb).mono ?_
  unfold placeOut
  clear m0 m1 m2 m3 m4
  rintro e w1 ⟨rfl, hb1⟩
  have HB1 := Aside0.mk hb1
  have hbx := blk_below HBX.out hb1
  have hre := blk_below HRE.out hb1
  have b4 : w1.cell? ⟨w.heap.size, 4, none⟩ = some (.slice r.B rs.length r.bc) := (blk_cell hbx 4).trans rfl
  have n0 : w1.cell? ⟨w.heap.size + 1, 0, none⟩ = some (.int .i64 0) := (blk_cell hre 0).trans rfl
  have n1 : w1.cell? ⟨w.heap.size + 1, 1, none⟩ = some (.int .i64 0) := (blk_cell hre 1).trans rfl
  have n2 : w1.cell? ⟨w.heap.size + 1, 2, none⟩ = some (.string ⟨#[]⟩) := (blk_cell hre 2).trans rfl
  have n3 : w1.cell? ⟨w.heap.size + 1, 3, none⟩ = some (.slice none 0 0) := (blk_cell hre 3).trans rfl
  have n4 : w1.cell? ⟨w.heap.size + 1, 4, none⟩ = some (.slice none 0 0) := (blk_cell hre 4).trans rfl
  have f0 := blk_frozen hre 0
  have f1 := blk_frozen hre 1
  have f2 := blk_frozen hre 2
  have f3 := blk_frozen hre 3
  have f4 := blk_frozen hre 4
  clear hbx hre hb1
  have hbw : Below w.heap.size w w1 := HB0.out.trans (HB1.out.mono HB0.out.size)
  have HBW := Aside0.mk hbw
  clear hbw
  cases hB : placeB key ks with
  | false =>
    go_wp2
    refine bodyPost_ret (v := .tuple #[.agg zV, .bool false]) (by simp [results, Tryd.results34, go_sem, *]) rfl ?_
    refine ⟨by rw [HGV.out, hB]; rfl, ?_⟩
    first | exact HBW.out | exact below5 HBW.out _ (Nat.le_succ _) _ _ _ _ _
  | true =>
    have hlt := placeB_lt key ks hB
    have HBT := Lib.hid hB
    obtain ⟨i, hi⟩ : ∃ i, i = placeN key ks := ⟨_, rfl⟩
    rw [← hi] at hlt
    rw [← hi]
    have hlr : i < rs.length := by rw [HL.out]; exact hlt
    have i0 : (0 : Int) ≤ (i : Int) := Int.natCast_nonneg _
    have i1 : (i : Int) < (rs.length : Int) := Int.ofNat_lt.2 hlr
    obtain ⟨ade, eA, he0, he1, he2, he3, he4⟩ := at_R G4.out i hlr hlr
    obtain ⟨y, hy⟩ : ∃ y, y = rs[i]'hlr := ⟨_, rfl⟩
    have hgy : getR true i rs = y := by rw [hy]; simp [getR, List.getD_eq_getElem?_getD, List.getElem?_eq_getElem hlr]
    have HGY : Hid (g = y.val) := Lib.hid (by rw [HGV.out, hB, ← hi, hgy])
    rw [← hy] at he0 he1 he2 he3 he4
    have tr : ∀ {q : Addr} {u : Value}, w.cell? q = some u → w1.cell? q = some u := fun h => (HBW.out.cell (World.block_lt_of_cell? w _ h)).trans h
    replace he0 := tr he0
    replace he1 := tr he1
    replace he2 := tr he2
    replace he3 := tr he3
    replace he4 := tr he4
    rw [eA] at b4
    clear hi hlt hlr hy hgy tr hB HGV G3 G4 HW0 HBX HRE
    generalize r.B = rB at *
    subst eA
    go_wp2
    refine bodyPost_ret (v := .tuple #[y.val, .bool true]) (by unfold RV.val; simp [results, Tryd.results34, go_sem, *]) rfl ?_
    exact ⟨by rw [HGY.out, HBT.out], below5 HBW.out (w.heap.size + 1) (Nat.le_succ _) _ _ _ _ _⟩
set_option maxRecDepth 100000 in
theorem spec_GetN (r : RV) (h5 : ¬ r.n0 = 5) (key : ByteArray) (w : World) : Calls Tryd.prog 34 #[r.val, .string key] w fun e w' => e = .returned (.tuple #[.agg zV, .bool false]) ∧ Below w.heap.size w w' := by
  unfold RV.val
  have e5 : (r.n0 != 5) = true := by simpa using h5
  have e6 : (r.n0 == 5) = false := by simpa using h5
  obtain ⟨W0, hW0⟩ : ∃ W0 : World, W0 = (w.alloc (Obj.cells #[.int .i64 r.n0, .int .i64 r.n1, .string r.t, .slice r.A r.an r.ac, .slice r.B r.bn r.bc] 25)).alloc (Obj.cells zV 25) := ⟨_, rfl⟩
  have hb0 : Below w.heap.size w W0 := by rw [hW0]; exact ((Below.refl _ _).alloc (Nat.le_refl _) _).alloc (by simp) _
  have hbx : W0.heap[w.heap.size]? = some (.cells #[.int .i64 r.n0, .int .i64 r.n1, .string r.t, .slice r.A r.an r.ac, .slice r.B r.bn r.bc] 25 (0, 0)) := by rw [hW0]; exact heap_oldI (new_atI rfl)
  have hre : W0.heap[w.heap.size + 1]? = some (.cells zV 25 (0, 0)) := by rw [hW0]; exact new_atI (by simp)
  have HB0 := Aside0.mk hb0
  have HW0 := Lib.hid hW0
  have m0 : W0.cell? ⟨w.heap.size, 0, none⟩ = some (.int .i64 r.n0) := (blk_cell hbx 0).trans rfl
  have n0 : W0.cell? ⟨w.heap.size + 1, 0, none⟩ = some (.int .i64 0) := (blk_cell hre 0).trans rfl
  have n1 : W0.cell? ⟨w.heap.size + 1, 1, none⟩ = some (.int .i64 0) := (blk_cell hre 1).trans rfl
  have n2 : W0.cell? ⟨w.heap.size + 1, 2, none⟩ = some (.string ⟨#[]⟩) := (blk_cell hre 2).trans rfl
  have n3 : W0.cell? ⟨w.heap.size + 1, 3, none⟩ = some (.slice none 0 0) := (blk_cell hre 3).trans rfl
  have n4 : W0.cell? ⟨w.heap.size + 1, 4, none⟩ = some (.slice none 0 0) := (blk_cell hre 4).trans rfl
  have f0 := blk_frozen hre 0
  have f1 := blk_frozen hre 1
  have f2 := blk_frozen hre 2
  have f3 := blk_frozen hre 3
  have f4 := blk_frozen hre 4
  clear hb0 hW0 hbx hre h5
  go_enter Tryd.func34, Tryd.ntmps34
  go_upto_region 1 with fail
  rw [← HW0.out]
  go_wp2
  refine bodyPost_ret (v := .tuple #[.agg zV, .bool false]) (by simp [results, Tryd.results34, go_sem, *]) rfl ?_
  refine ⟨rfl, ?_⟩
  first | exact HB0.out | exact below5 HB0.out _ (Nat.le_succ _) _ _ _ _ _
end Go.Proofs.YtgeamhmenmomhaaDoor.A
/- The walks of spec.normTop, spec.normResolved (printed by gen_envh.py). -/
namespace Go.Proofs.YtgeamhmenmomhaaDoor.A
set_option linter.unusedVariables false
set_option linter.unusedSimpArgs false
set_option linter.unusedSectionVars false
open Go.RowKit Go.Proofs.YtgeamhmenmomhaaDoorW.PrintWords Go.Proofs.YtgeamhmenmomhaaDoorW.PrintLast Go.Proofs.YtgeamhmenmomhaaDoorW.PrintMore Go.Proofs.YtgeamhmenmomhaaDoor.PT Go.Proofs.YtgeamhmenmomhaaDoor.L Go.Proofs.YtgeamhmenmomhaaDoor.SM

/-- a key of a model that is spoken of -/
def topKey (k : ByteArray) : Prop := k ∈ ([(⟨#[110, 97, 109, 101]⟩ : ByteArray), (⟨#[115, 101, 114, 118, 105, 99, 101, 115]⟩ : ByteArray), (⟨#[110, 101, 116, 119, 111, 114, 107, 115]⟩ : ByteArray), (⟨#[118, 111, 108, 117, 109, 101, 115]⟩ : ByteArray)] : List ByteArray) ∨ k.size = 3
theorem keys_next {p : ByteArray → Prop} {ks : List ByteArray} {i : Nat} (h : i < ks.length) (ha : ∀ k ∈ ks.take i, p k) (hk : p (ks[i]'h)) : ∀ k ∈ ks.take (i + 1), p k := by
  rw [List.take_succ_eq_append_getElem h]
  intro k hk'
  rcases List.mem_append.1 hk' with h' | h'
  · exact ha k h'
  · rw [List.mem_singleton.1 h']; exact hk
/-- what spec.Get answers of a value's cells -/
def GetC (r : RV) (ks : List ByteArray) (g : RV) (hb : Bool) (w : World) : Prop := ∀ W, Below w.heap.size w W → Calls Tryd.prog 34 #[r.val, .string kSrv] W fun e w' => e = .returned (.tuple #[g.val, .bool hb]) ∧ Below W.heap.size W w'
def TopSays (r : RV) (ks : List ByteArray) (g : RV) (hb : Bool) (w : World) (e : Ending) (w' : World) : Prop := (∃ b, e = .returned (.bool b) ∧ (b = true → r.n0 = 5 ∧ hb = true ∧ g.n0 = 5 ∧ ∀ k ∈ ks, topKey k)) ∧ Below w.heap.size w w'
set_option maxHeartbeats 4000000 in
set_option maxRecDepth 100000 in
theorem normTop_walk (r : RV) (ks : List ByteArray) (hkb : ks.length ≤ 1099511627776) (han : r.an = ks.length) (w : World) (hk : Kd.C Kd.string w r.A ks.length ks) (g : RV) (hb : Bool) (hget : GetC r ks g hb w) :
    Calls Tryd.prog 35 #[r.val] w (TopSays r ks g hb w) := by
  unfold GetC RV.val at hget
  rw [han] at hget
  unfold RV.val
  rw [han]
  obtain ⟨W0, hW0⟩ : ∃ W0 : World, W0 = w.alloc (Obj.cells #[.int .i64 r.n0, .int .i64 r.n1, .string r.t, .slice r.A ks.length r.ac, .slice r.B r.bn r.bc] 25) := ⟨_, rfl⟩
  have hb0 : Below w.heap.size w W0 := by rw [hW0]; exact (Below.refl _ _).alloc (Nat.le_refl _) _
  have hbx : W0.heap[w.heap.size]? = some (.cells #[.int .i64 r.n0, .int .i64 r.n1, .string r.t, .slice r.A ks.length r.ac, .slice r.B r.bn r.bc] 25 (0, 0)) := by rw [hW0]; exact new_atI rfl
  have HB0 := Aside0.mk hb0
  have HBX := Aside0.mk hbx
  have HGET := Lib.hid (hget W0 hb0)
  have HK := Aside0.mk hk
  have HKB := Lib.hid hkb
  have HW0 := Lib.hid hW0
  have m0 : W0.cell? ⟨w.heap.size, 0, none⟩ = some (.int .i64 r.n0) := (blk_cell hbx 0).trans rfl
  have m1 : W0.cell? ⟨w.heap.size, 1, none⟩ = some (.int .i64 r.n1) := (blk_cell hbx 1).trans rfl
  have m2 : W0.cell? ⟨w.heap.size, 2, none⟩ = some (.string r.t) := (blk_cell hbx 2).trans rfl
  have m3 : W0.cell? ⟨w.heap.size, 3, none⟩ = some (.slice r.A ks.length r.ac) := (blk_cell hbx 3).trans rfl
  have m4 : W0.cell? ⟨w.heap.size, 4, none⟩ = some (.slice r.B r.bn r.bc) := (blk_cell hbx 4).trans rfl
  clear hb0 hbx hW0 hget hk hkb han
  go_enter Tryd.func35, Tryd.ntmps35
  go_upto_region 1 with fail
  rw [← HW0.out]
  go_wp2_with fail
  refine HGET.out.mono ?_
  clear m0 m1 m2 m3 m4
  rintro e w1 ⟨rfl, hb1⟩
  obtain ⟨W2, hW2⟩ : ∃ W2 : World, W2 = w1.alloc (Obj.cells #[.int .i64 g.n0, .int .i64 g.n1, .string g.t, .slice g.A g.an g.ac, .slice g.B g.bn g.bc] 25) := ⟨_, rfl⟩
  have hb2 : Below W0.heap.size W0 W2 := by rw [hW2]; exact hb1.alloc hb1.size _
  obtain ⟨bg, hbg⟩ : ∃ bg, bg = w1.heap.size := ⟨_, rfl⟩
  have hgx : W2.heap[bg]? = some (.cells #[.int .i64 g.n0, .int .i64 g.n1, .string g.t, .slice g.A g.an g.ac, .slice g.B g.bn g.bc] 25 (0, 0)) := by rw [hW2, hbg]; exact new_atI rfl
  have HBX2 := Aside0.mk (blk_below HBX.out hb2)
  have HGX2 := Aside0.mk hgx
  have HB2 := Aside0.mk (below_then HB0.out HB0.out.size hb2)
  have HW2 := Lib.hid hW2
  have HBG := Lib.hid hbg
  clear hb1 hb2 hgx hW2 hbg
  go_upto_region 2 with fail
  rw [← HW2.out, ← HBG.out]
  go_wp2
  go_loopw [5] (fun v5 wr => ∃ i : Nat, i ≤ ks.length ∧ v5 = .int .i64 i ∧ Hid (∀ k ∈ ks.take i, topKey k) ∧ Aside0 (Below W2.heap.size W2 wr)) (fun v5 _ => ks.length - (intOf v5).toNat)
  case atStart => exact ⟨0, Nat.zero_le _, rfl, Lib.hid (fun k hk => by simp at hk), ⟨Below.refl _ _⟩⟩
  case round =>
    obtain ⟨i, hi, rfl, HTK, HB⟩ := hrel
    have hbxr := blk_below HBX2.out HB.out
    have m0 : wr.cell? ⟨w.heap.size, 0, none⟩ = some (.int .i64 r.n0) := (blk_cell hbxr 0).trans rfl
    have m1 : wr.cell? ⟨w.heap.size, 1, none⟩ = some (.int .i64 r.n1) := (blk_cell hbxr 1).trans rfl
    have m2 : wr.cell? ⟨w.heap.size, 2, none⟩ = some (.string r.t) := (blk_cell hbxr 2).trans rfl
    have m3 : wr.cell? ⟨w.heap.size, 3, none⟩ = some (.slice r.A ks.length r.ac) := (blk_cell hbxr 3).trans rfl
    have m4 : wr.cell? ⟨w.heap.size, 4, none⟩ = some (.slice r.B r.bn r.bc) := (blk_cell hbxr 4).trans rfl
    clear hbxr
    by_cases hlt : i < ks.length
    · have i0 : (0 : Int) ≤ (i : Int) := Int.natCast_nonneg _
      have i1 : (i : Int) < (ks.length : Int) := Int.ofNat_lt.2 hlt
      obtain ⟨adk, eK, hk0⟩ := Kd.at_string HK.out (i : Int) i0 i1
      rw [rdK hlt, Int.toNat_natCast] at hk0
      have HKC := Lib.hid hk0
      have hbw : Below w.heap.size w wr := HB2.out.trans (HB.out.mono HB2.out.size)
      replace hk0 := (hbw.cell (World.block_lt_of_cell? w _ hk0)).trans hk0
      obtain ⟨key, hkey⟩ : ∃ key, key = ks[i]'hlt := ⟨_, rfl⟩
      rw [← hkey] at hk0 HKC
      have HNX : Hid (topKey key → ∀ k ∈ ks.take (i + 1), topKey k) := Lib.hid (fun h => keys_next hlt HTK.out (by rw [← hkey]; exact h))
      obtain ⟨t, ht, htq⟩ := in_f key [(⟨#[110, 97, 109, 101]⟩ : ByteArray), (⟨#[115, 101, 114, 118, 105, 99, 101, 115]⟩ : ByteArray), (⟨#[110, 101, 116, 119, 111, 114, 107, 115]⟩ : ByteArray), (⟨#[118, 111, 108, 117, 109, 101, 115]⟩ : ByteArray)] (by decide) 100 (by decide)
      obtain ⟨t2, ht2, ht2q⟩ := extra_f key
      have HTI := Lib.hid ht
      have HTQ := Lib.hid htq
      have HT2 := Lib.hid ht2
      have HT2Q := Lib.hid ht2q
      have wk := wrF hlt HKB.out
      have HBW := Aside0.mk hbw
      rw [eK] at m3
      clear hkey hbw ht htq ht2 ht2q
      generalize hrA : r.A = rA at *
      subst eK
      go_wp2_with (refine Kd.R_lit Kd.string (w0 := wr) wr.heap.size 9 rfl (N := 23) rfl (xs := ([(⟨#[110, 97, 109, 101]⟩ : ByteArray), (⟨#[115, 101, 114, 118, 105, 99, 101, 115]⟩ : ByteArray), (⟨#[110, 101, 116, 119, 111, 114, 107, 115]⟩ : ByteArray), (⟨#[118, 111, 108, 117, 109, 101, 115]⟩ : ByteArray)] : List ByteArray)) (inner := [.string (⟨#[110, 97, 109, 101]⟩ : ByteArray), .string (⟨#[115, 101, 114, 118, 105, 99, 101, 115]⟩ : ByteArray), .string (⟨#[110, 101, 116, 119, 111, 114, 107, 115]⟩ : ByteArray), .string (⟨#[118, 111, 108, 117, 109, 101, 115]⟩ : ByteArray)]) (ok := fun _ => True) (okp := fun _ => False) ?hr ?hp (fun _ h => h.elim) ?hf ?hB ?hS (by simp) ?_; (case hr => first | (go_simp; done) | (go_simp; rfl)); (case hp => exact (Reps.one (show Kd.M Kd.string _ _ _ (⟨#[110, 97, 109, 101]⟩ : ByteArray) [.string (⟨#[110, 97, 109, 101]⟩ : ByteArray)] from rfl) (Reps.one (show Kd.M Kd.string _ _ _ (⟨#[115, 101, 114, 118, 105, 99, 101, 115]⟩ : ByteArray) [.string (⟨#[115, 101, 114, 118, 105, 99, 101, 115]⟩ : ByteArray)] from rfl) (Reps.one (show Kd.M Kd.string _ _ _ (⟨#[110, 101, 116, 119, 111, 114, 107, 115]⟩ : ByteArray) [.string (⟨#[110, 101, 116, 119, 111, 114, 107, 115]⟩ : ByteArray)] from rfl) (Reps.one (show Kd.M Kd.string _ _ _ (⟨#[118, 111, 108, 117, 109, 101, 115]⟩ : ByteArray) [.string (⟨#[118, 111, 108, 117, 109, 101, 115]⟩ : ByteArray)] from rfl) (Reps.none _ _)))))); (case hf => trivial); (case hB => exact Below.refl _ _); (case hS => exact Nat.le_refl _); intro v5 w5 ho5 hb5 hg5 hn5; obtain ⟨A5, c5, eo5, hl5, hC5⟩ := Kd.R_reads ho5; subst eo5; have HO5 := Aside0.mk (And.intro hl5 hC5); have HB5 := Aside0.mk hb5; clear ho5 hb5 hg5 hn5 hl5 hC5)
      refine (spec_sayIn.calls 100 key A5 c5 [(⟨#[110, 97, 109, 101]⟩ : ByteArray), (⟨#[115, 101, 114, 118, 105, 99, 101, 115]⟩ : ByteArray), (⟨#[110, 101, 116, 119, 111, 114, 107, 115]⟩ : ByteArray), (⟨#[118, 111, 108, 117, 109, 101, 115]⟩ : ByteArray)] t w5 HO5.out.2 HO5.out.1 HTI.out).mono ?_
      clear m0 m1 m2 m3 m4 hk0
      rintro e w6 ⟨rfl, hd⟩
      have HB6 := Aside0.mk (below_then HB5.out HB5.out.size hd.below)
      have hbxr := blk_below (blk_below HBX2.out HB.out) HB6.out
      have hk0 : w6.cell? (adk.add i) = some (.string key) := (HB6.out.cell (Nat.lt_of_lt_of_le (World.block_lt_of_cell? w _ HKC.out) HBW.out.size)).trans ((HBW.out.cell (World.block_lt_of_cell? w _ HKC.out)).trans HKC.out)
      have m0 : w6.cell? ⟨w.heap.size, 0, none⟩ = some (.int .i64 r.n0) := (blk_cell hbxr 0).trans rfl
      have m1 : w6.cell? ⟨w.heap.size, 1, none⟩ = some (.int .i64 r.n1) := (blk_cell hbxr 1).trans rfl
      have m2 : w6.cell? ⟨w.heap.size, 2, none⟩ = some (.string r.t) := (blk_cell hbxr 2).trans rfl
      have m3 : w6.cell? ⟨w.heap.size, 3, none⟩ = some (.slice (some adk) ks.length r.ac) := (blk_cell hbxr 3).trans rfl
      have m4 : w6.cell? ⟨w.heap.size, 4, none⟩ = some (.slice r.B r.bn r.bc) := (blk_cell hbxr 4).trans rfl
      clear hd hbxr
      cases t with
      | true =>
        go_wp2
        go_roundw
        case rel => exact ⟨i + 1, hlt, by go_num, Lib.hid (HNX.out (.inl (HTQ.out (by first | rfl | trivial)))), ⟨HB.out.trans (HB6.out.mono HB.out.size)⟩⟩
        case measure => first | exact msF hlt | (rw [wk]; exact msF hlt)
      | false =>
        go_wp2_with fail
        refine (spec_sayExtra.calls key t2 w6 HT2.out).mono ?_
        rintro e w7 ⟨rfl, hd⟩
        have HB7 := Aside0.mk (below_then HB6.out HB6.out.size hd.below)
        clear hd m0 m1 m2 m3 m4 hk0
        cases t2 with
        | true =>
          go_wp2
          go_roundw
          case rel => exact ⟨i + 1, hlt, by go_num, Lib.hid (HNX.out (.inr (HT2Q.out (by first | rfl | trivial)))), ⟨HB.out.trans (HB7.out.mono HB.out.size)⟩⟩
          case measure => first | exact msF hlt | (rw [wk]; exact msF hlt)
        | false =>
          go_wp2
          go_ret
          exact ⟨⟨false, rfl, fun h => Bool.noConfusion h⟩, HB2.out.trans ((HB.out.trans (HB7.out.mono HB.out.size)).mono HB2.out.size)⟩
    · obtain rfl : i = ks.length := by omega
      have hlt0 : ¬ ((ks.length : Int) < (ks.length : Int)) := Int.lt_irrefl _
      have hgx := blk_below HGX2.out HB.out
      have g0 : wr.cell? ⟨bg, 0, none⟩ = some (.int .i64 g.n0) := (blk_cell hgx 0).trans rfl
      have hbw : Below w.heap.size w wr := HB2.out.trans (HB.out.mono HB2.out.size)
      have HBW := Aside0.mk hbw
      clear hgx hbw
      by_cases h5 : r.n0 = 5
      · have e5 : (r.n0 == 5) = true := by simpa using h5
        cases hb with
        | false =>
          go_wp2
          go_ret
          exact ⟨⟨false, rfl, fun h => Bool.noConfusion h⟩, HBW.out⟩
        | true =>
          by_cases hg5 : g.n0 = 5
          · have e6 : (g.n0 == 5) = true := by simpa using hg5
            go_wp2
            go_ret
            exact ⟨⟨true, rfl, fun _ => ⟨h5, rfl, hg5, by have := HTK.out; rwa [List.take_length] at this⟩⟩, HBW.out⟩
          · have e6 : (g.n0 == 5) = false := by simpa using hg5
            go_wp2
            go_ret
            exact ⟨⟨false, rfl, fun h => Bool.noConfusion h⟩, HBW.out⟩
      · have e5 : (r.n0 == 5) = false := by simpa using h5
        go_wp2
        go_ret
        exact ⟨⟨false, rfl, fun h => Bool.noConfusion h⟩, HBW.out⟩
end Go.Proofs.YtgeamhmenmomhaaDoor.A
/- The walk of spec.normResolved (printed by gen_envr.py). -/
namespace Go.Proofs.YtgeamhmenmomhaaDoor.A
set_option linter.unusedVariables false
set_option linter.unusedSimpArgs false
set_option linter.unusedSectionVars false
open Go.RowKit Go.Proofs.YtgeamhmenmomhaaDoorW.PrintWords Go.Proofs.YtgeamhmenmomhaaDoorW.PrintLast Go.Proofs.YtgeamhmenmomhaaDoorW.PrintMore Go.Proofs.YtgeamhmenmomhaaDoor.PT Go.Proofs.YtgeamhmenmomhaaDoor.L Go.Proofs.YtgeamhmenmomhaaDoor.SM

structure NrL (w W1 : World) (wr : World) (E : Env) (ss : List ByteArray) (i : Nat) (A : Option Addr) (c : Nat) (rs : List RV) : Prop where
  box : wr.heap[w.heap.size + 2]? = some (.cells #[.int .i64 4, .int .i64 0, .string ⟨#[]⟩, .slice none 0 0, .slice A rs.length c] 25 (0, 0))
  row : Kd.R kR 25 wr (w.heap.size + 3) (fun _ => True) (.slice A rs.length c) rs
  flat : All2 FlatT ((ss.take i).map (resX E)) rs
  bel : Below (w.heap.size + 2) W1 wr
  size : w.heap.size + 3 ≤ wr.heap.size
def NrSays (E : Env) (ss : List ByteArray) (w : World) (e : Ending) (w' : World) : Prop := ∃ (A : Option Addr) (c : Nat) (rs : List RV), e = .returned (.agg #[.int .i64 4, .int .i64 0, .string ⟨#[]⟩, .slice none 0 0, .slice A rs.length c]) ∧ rs.length ≤ c ∧ Kd.C kR w' A rs.length rs ∧ Fr (w.heap.size + 2) A ∧ All2 FlatT (ss.map (resX E)) rs ∧ Below w.heap.size w w'
theorem map_next {X : List ByteArray} {i : Nat} (h : i < X.length) (f : ByteArray → ByteArray) : (X.take (i + 1)).map f = (X.take i).map f ++ [f (X[i]'h)] := by
  rw [List.take_succ_eq_append_getElem h, List.map_append]; rfl
theorem cat_okS {s v : ByteArray} (hs : s.size ≤ 1048576) (hv : v.size ≤ 1048576) : ¬ 9223372036854775807 < s.size + eqB.size ∧ ¬ 9223372036854775807 < (s ++ eqB).size + v.size ∧ ¬ 9223372036854775807 < s.size + eqB.size + v.size ∧ ¬ 9223372036854775807 < s.size + 1 + v.size := by
  have h2 : eqB.size = 1 := rfl
  rw [ByteArray.size_append]
  omega
set_option maxHeartbeats 8000000 in
set_option maxRecDepth 100000 in
theorem spec_normResolved (l : List U.SP) (A0 : Option Addr) (c0 : Nat) (hl : l.length ≤ 1048576) (hvs : ∀ k v, envE l k = some v → v.size ≤ 1048576) (r : RV) (ss : List ByteArray) (sr : List RV) (hbn : r.bn = ss.length) (hbd : ss.length ≤ 1048576) (hsz : ∀ s ∈ ss, s.size ≤ 1048576) (hfl : All2 FlatT ss sr) (w : World) (hr : Kd.C kR w r.B sr.length sr) (hr0 : Kd.C k51 w A0 l.length l) (hc0 : l.length ≤ c0) :
    Calls Tryd.prog 37 #[r.val, .slice A0 l.length c0] w (NrSays (envE l) ss w) := by
  unfold RV.val
  rw [hbn]
  obtain ⟨n, hn⟩ : ∃ n, n = ss.length := ⟨_, rfl⟩
  have hsn : sr.length = n := by rw [hn]; exact hfl.1.symm
  rw [hsn] at hr
  rw [← hn]
  obtain ⟨W0, hW0⟩ : ∃ W0 : World, W0 = (w.alloc (Obj.cells #[.int .i64 r.n0, .int .i64 r.n1, .string r.t, .slice r.A r.an r.ac, .slice r.B n r.bc] 25)).alloc (Obj.cells #[.int .i64 0, .int .i64 0, .string ⟨#[]⟩, .slice none 0 0, .slice none 0 0] 25) := ⟨_, rfl⟩
  obtain ⟨W1, hW1⟩ : ∃ W1 : World, W1 = W0.alloc (Obj.cells #[.int .i64 4, .int .i64 0, .string ⟨#[]⟩, .slice none 0 0, .slice none 0 0] 25) := ⟨_, rfl⟩
  have hb0 : Below w.heap.size w W0 := by rw [hW0]; exact ((Below.refl _ _).alloc (Nat.le_refl _) _).alloc (by simp) _
  have hs0 : W0.heap.size = w.heap.size + 2 := by rw [hW0]; simp
  have hbx0 : W0.heap[w.heap.size]? = some (.cells #[.int .i64 r.n0, .int .i64 r.n1, .string r.t, .slice r.A r.an r.ac, .slice r.B n r.bc] 25 (0, 0)) := by rw [hW0]; exact heap_oldI (new_atI rfl)
  have HBX : Aside0 (W1.heap[w.heap.size]? = some (.cells #[.int .i64 r.n0, .int .i64 r.n1, .string r.t, .slice r.A r.an r.ac, .slice r.B n r.bc] 25 (0, 0))) := ⟨by rw [hW1]; exact heap_oldI hbx0⟩
  have HRE : Aside0 (W1.heap[w.heap.size + 1]? = some (.cells zV 25 (0, 0))) := ⟨by rw [hW1, hW0]; exact heap_oldI (new_atI (by simp))⟩
  have HOU : Aside0 (W1.heap[w.heap.size + 2]? = some (.cells #[.int .i64 4, .int .i64 0, .string ⟨#[]⟩, .slice none 0 0, .slice none 0 0] 25 (0, 0))) := ⟨by rw [hW1]; exact new_atI hs0⟩
  have HB1 : Aside0 (Below w.heap.size w W1) := ⟨by rw [hW1]; exact hb0.alloc hb0.size _⟩
  have HS0 := Lib.hid hs0
  have HS1 : Hid (W1.heap.size = w.heap.size + 3) := Lib.hid (by rw [hW1]; simp [hs0])
  have HW0 := Lib.hid hW0
  have HW1 := Lib.hid hW1
  have HN := Lib.hid hn
  have HSN := Lib.hid hsn
  have HBD : Hid (n ≤ 1048576) := Lib.hid (by omega)
  have HSZ := Lib.hid hsz
  have HFL := Lib.hid hfl
  have HVS := Lib.hid hvs
  have HLK0 := Lib.hid (fun k => look_E l k (by omega))
  have G4 := Aside0.mk hr
  have HR0 := Aside0.mk hr0
  have HC0 := Lib.hid hc0
  clear hb0 hs0 hbx0 hW0 hW1 hn hsn hbd hsz hfl hvs hr hr0 hc0 hl hbn
  go_enter Tryd.func37, Tryd.ntmps37
  go_upto_region 1 with fail
  rw [← HW0.out]
  go_upto_region 2 with fail
  rw [← HW1.out, HS0.out]
  go_wp2
  go_loopw [6] (fun v6 wr => ∃ (i : Nat) (rs : List RV) (A : Option Addr) (c : Nat), i ≤ n ∧ v6 = .int .i64 i ∧ Hid (rs.length ≤ i) ∧ Aside0 (NrL w W1 wr (envE l) ss i A c rs)) (fun v6 _ => n - (intOf v6).toNat)
  case atStart => exact ⟨0, [], none, 0, Nat.zero_le _, rfl, Lib.hid (Nat.le_refl _), ⟨HOU.out, Kd.R_nil _ _ _ _ _, ⟨rfl, fun i h1 => absurd h1 (Nat.not_lt_zero _)⟩, Below.refl _ _, by rw [HS1.out]; exact Nat.le_refl _⟩⟩
  case round =>
    obtain ⟨i, rs, A, c, hi, rfl, HRL, HF⟩ := hrel
    have hx := HF.out.bel.block w.heap.size (by omega) |>.trans HBX.out
    have x0 : wr.cell? ⟨w.heap.size, 0, none⟩ = some (.int .i64 r.n0) := (blk_cell hx 0).trans rfl
    have x1 : wr.cell? ⟨w.heap.size, 1, none⟩ = some (.int .i64 r.n1) := (blk_cell hx 1).trans rfl
    have x2 : wr.cell? ⟨w.heap.size, 2, none⟩ = some (.string r.t) := (blk_cell hx 2).trans rfl
    have x3 : wr.cell? ⟨w.heap.size, 3, none⟩ = some (.slice r.A r.an r.ac) := (blk_cell hx 3).trans rfl
    have x4 : wr.cell? ⟨w.heap.size, 4, none⟩ = some (.slice r.B n r.bc) := (blk_cell hx 4).trans rfl
    have HX := Aside0.mk hx
    clear hx
    by_cases hlt : i < n
    · have i0 : (0 : Int) ≤ (i : Int) := Int.natCast_nonneg _
      have i1 : (i : Int) < (n : Int) := Int.ofNat_lt.2 hlt
      have hsr : i < sr.length := by rw [HSN.out]; exact hlt
      have hss : i < ss.length := by rw [← HN.out]; exact hlt
      obtain ⟨ade, eA, he0, he1, he2, he3, he4⟩ := at_R G4.out i hlt hsr
      obtain ⟨y, hy⟩ : ∃ y, y = sr[i]'hsr := ⟨_, rfl⟩
      rw [← hy] at he0 he1 he2 he3 he4
      have hyf : FlatT (ss[i]'hss) y := by rw [hy]; exact HFL.out.2 i hss hsr
      have hyt : y.t = ss[i]'hss := hyf.2.2.1
      have hbwr : Below w.heap.size w wr := HB1.out.trans (HF.out.bel.mono (Nat.le_add_right _ 2))
      have tr : ∀ {q : Addr} {u : Value}, w.cell? q = some u → wr.cell? q = some u := fun h => (hbwr.cell (World.block_lt_of_cell? w _ h)).trans h
      replace he0 := tr he0
      replace he1 := tr he1
      replace he2 := tr he2
      replace he3 := tr he3
      replace he4 := tr he4
      have HYF : Hid (FlatT y.t y) := Lib.hid (by rw [hyt]; exact hyf)
      have HNX : Hid ((ss.take (i + 1)).map (resX (envE l)) = (ss.take i).map (resX (envE l)) ++ [resX (envE l) y.t]) := Lib.hid (by rw [hyt]; exact map_next hss _)
      have HTS : Hid (y.t.size ≤ 1048576) := Lib.hid (by rw [hyt]; exact HSZ.out _ (List.getElem_mem hss))
      have HBWR := Aside0.mk hbwr
      have wk := wrF hlt (by have := HBD.out; omega)
      have HSR := Lib.hid HF.out.size
      have HVB : Hid ((rs.length + 1) * 80 ≤ 140737488355328) := Lib.hid (by have h1 := HRL.out; have h2 := HBD.out; omega)
      rw [eA] at x4 HX
      obtain ⟨W2, hW2⟩ : ∃ W2 : World, W2 = wr.alloc (Obj.cells #[.int .i64 y.n0, .int .i64 y.n1, .string y.t, .slice y.A y.an y.ac, .slice y.B y.bn y.bc] 25) := ⟨_, rfl⟩
      obtain ⟨g, hg⟩ : ∃ g, g = wr.heap.size := ⟨_, rfl⟩
      have hb2 : Below wr.heap.size wr W2 := by rw [hW2]; exact (Below.refl _ _).alloc (Nat.le_refl _) _
      have hyb : W2.heap[g]? = some (.cells #[.int .i64 y.n0, .int .i64 y.n1, .string y.t, .slice y.A y.an y.ac, .slice y.B y.bn y.bc] 25 (0, 0)) := by rw [hW2, hg]; exact new_atI rfl
      have HB2 := Aside0.mk hb2
      have HW2 := Lib.hid hW2
      have HG := Lib.hid hg
      have HYB2 := Aside0.mk hyb
      obtain ⟨ev, hev⟩ : ∃ ev, ev = envE l y.t := ⟨_, rfl⟩
      have hlk := HLK0.out y.t
      rw [← hev] at hlk
      have HLK := Lib.hid hlk
      have HEV := Lib.hid hev
      clear hsr hss hy hyf hyt hbwr tr hW2 hg hb2 hev hlk
      generalize r.B = rB at *
      subst eA
      go_upto_region 6 with fail
      rw [← HW2.out, ← HG.out]
      clear x0 x1 x2 x3 x4 he0 he1 he2 he3 he4
      have y0 : W2.cell? ⟨g, 0, none⟩ = some (.int .i64 y.n0) := (blk_cell hyb 0).trans rfl
      have y1 : W2.cell? ⟨g, 1, none⟩ = some (.int .i64 y.n1) := (blk_cell hyb 1).trans rfl
      have y2 : W2.cell? ⟨g, 2, none⟩ = some (.string y.t) := (blk_cell hyb 2).trans rfl
      have y3 : W2.cell? ⟨g, 3, none⟩ = some (.slice y.A y.an y.ac) := (blk_cell hyb 3).trans rfl
      have y4 : W2.cell? ⟨g, 4, none⟩ = some (.slice y.B y.bn y.bc) := (blk_cell hyb 4).trans rfl
      clear hyb
      go_wp2_with fail
      refine (spec_Look.calls _ A0 c0 l y.t _ _ W2 (Kd.C_below (Kd.C_below HR0.out HBWR.out) HB2.out) HC0.out HLK.out).mono ?_
      clear y0 y1 y2 y3 y4
      rintro e w3 ⟨rfl, hd⟩
      have hb3 := hd.below
      have HB3 : Aside0 (Below wr.heap.size wr w3) := ⟨below_then HB2.out HB2.out.size hb3⟩
      have hyb := blk_below HYB2.out hb3
      have HYB3 := Aside0.mk hyb
      have HK3 : Aside0 (Below (w.heap.size + 3) wr w3) := ⟨HB3.out.mono HSR.out⟩
      have HS3 : Hid (w.heap.size + 3 ≤ w3.heap.size) := Lib.hid (Nat.le_trans HSR.out HB3.out.size)
      have ROW3 := Aside0.mk (Kd.R_below HF.out.row HB3.out)
      have hbo := (HK3.out.block (w.heap.size + 2) (Nat.lt_succ_self _)).trans HF.out.box
      have o4 : w3.cell? ⟨w.heap.size + 2, 4, none⟩ = some (.slice A rs.length c) := (blk_cell hbo 4).trans rfl
      have y0 : w3.cell? ⟨g, 0, none⟩ = some (.int .i64 y.n0) := (blk_cell hyb 0).trans rfl
      have y1 : w3.cell? ⟨g, 1, none⟩ = some (.int .i64 y.n1) := (blk_cell hyb 1).trans rfl
      have y2 : w3.cell? ⟨g, 2, none⟩ = some (.string y.t) := (blk_cell hyb 2).trans rfl
      have y3 : w3.cell? ⟨g, 3, none⟩ = some (.slice y.A y.an y.ac) := (blk_cell hyb 3).trans rfl
      have y4 : w3.cell? ⟨g, 4, none⟩ = some (.slice y.B y.bn y.bc) := (blk_cell hyb 4).trans rfl
      clear hd hb3 hyb hbo
      dsimp only [Option.getD, Option.isSome]
      cases ev with
      | none =>
        dsimp only
        go_wp2_with (at_builtin; refine Kd.R_append kR (w0 := wr) (w.heap.size + 3) rfl _ _ 23 25 (.agg zV) 80 rfl Tryd.underlying23 infoV rfl (show 0 < 5 by decide) (by decide) (.slice A rs.length c) rs y [.int .i64 y.n0, .int .i64 y.n1, .string y.t, .slice y.A y.an y.ac, .slice y.B y.bn y.bc] (fun _ => True) (fun _ => False) rfl rfl ?hp (fun _ h => h.elim) (fun _ _ => trivial) ?hO ?hB ?hS ?hL ?_; (case hp => rfl); (case hO => first | exact ROW3.out | exact Kd.R_alloc ROW3.out _); (case hB => first | exact HK3.out | exact (HK3.out).alloc HS3.out _); (case hS => first | exact HS3.out | (have := HS3.out; simp; omega)); (case hL => exact HVB.out); intro v6 w6 ho6 hb6 hg6 hat6; obtain ⟨A6, c6, eo⟩ := Kd.R_slice ho6; subst eo; have HO6 := Aside0.mk ho6; have HK6 := Aside0.mk hb6; have hbo6 := (hb6.block (w.heap.size + 2) (Nat.lt_succ_self _)).trans HF.out.box; have HBO6 := Aside0.mk hbo6; have o6 : w6.cell? ⟨w.heap.size + 2, 4, none⟩ = some (.slice A rs.length c) := (blk_cell hbo6 4).trans rfl; have f6 := blk_frozen hbo6 4; clear ho6 hb6 hg6 hat6 hbo6)
        go_roundw
        case rel =>
          have e1 : (rs ++ [y]).length = rs.length + 1 := by simp
          refine ⟨i + 1, rs ++ [y], A6, c6, hlt, by go_num, Lib.hid (by rw [e1]; exact Nat.succ_le_succ HRL.out), ⟨?_, ?_, ?_, ?_, ?_⟩⟩
          · exact blk_put HBO6.out 4 _ (by simp)
          · exact kR_apart HO6.out (row := some (w.heap.size + 2)) (setCell_grown _ _ _) (fun k hk e => by injection e with e; have := Kd.R_base HO6.out k hk; omega)
          · rw [HNX.out]; exact All2.snoc HF.out.flat (by rw [show resX (envE l) y.t = y.t by unfold resX; rw [← HEV.out]]; exact HYF.out)
          · exact (HF.out.bel.trans (HK6.out.mono (Nat.le_succ _))).grown (setCell_grown _ _ _) (Nat.le_trans (Nat.le_trans (Nat.le_succ _) HSR.out) HK6.out.size) (fun k e => by injection e with e; have e' : w.heap.size + 2 = k := e; omega)
          · have := HK6.out.size; have := HSR.out; simp only [setCell_size]; omega
        case measure => first | exact msF hlt | (rw [wk]; exact msF hlt)
      | some u =>
        have HRX : Hid (resX (envE l) y.t = y.t ++ eqB ++ u) := Lib.hid (by unfold resX; rw [← HEV.out])
        obtain ⟨hcat1, hcat2, hcat3, hcat4⟩ := cat_okS HTS.out (HVS.out _ _ HEV.out.symm)
        dsimp only
        go_wp2_with fail
        refine (spec_Tx _ _).mono ?_
        clear y0 y1 y2 y3 y4 o4
        rintro e w4 ⟨rfl, hb4⟩
        have hyb4 := blk_below HYB3.out hb4
        obtain ⟨W5, hW5⟩ : ∃ W5 : World, W5 = (((((w4.setCell ⟨g, 0, none⟩ (.int .i64 3)).setCell ⟨g, 1, none⟩ (.int .i64 0)).setCell ⟨g, 2, none⟩ (.string (y.t ++ eqB ++ u))).setCell ⟨g, 3, none⟩ (.slice none 0 0)).setCell ⟨g, 4, none⟩ (.slice none 0 0)) := ⟨_, rfl⟩
        have hyb5 : W5.heap[g]? = some (.cells #[.int .i64 3, .int .i64 0, .string (y.t ++ eqB ++ u), .slice none 0 0, .slice none 0 0] 25 (0, 0)) := by rw [hW5]; exact box5 hyb4 _ _ _ _ _
        have HB4 : Aside0 (Below wr.heap.size wr w4) := ⟨below_then HB3.out HB3.out.size hb4⟩
        have HB5 : Aside0 (Below wr.heap.size wr W5) := ⟨by rw [hW5]; exact below5 HB4.out g (by rw [HG.out]; exact Nat.le_refl _) _ _ _ _ _⟩
        have HK5 : Aside0 (Below (w.heap.size + 3) wr W5) := ⟨HB5.out.mono HSR.out⟩
        have HS5 : Hid (w.heap.size + 3 ≤ W5.heap.size) := Lib.hid (Nat.le_trans HSR.out HB5.out.size)
        have ROW5 : Aside0 (Kd.R kR 25 W5 (w.heap.size + 3) (fun _ => True) (.slice A rs.length c) rs) := ⟨by rw [hW5]; exact Kd.R_mono (R_far5 (ok := fun k => k ≠ g) (Kd.R_below (Kd.R_mono (Kd.R_bound HF.out.row) (fun k hk => by have h1 := hk.2.2.1; have h2 := HG.out; omega)) HB4.out) g (fun k hk => hk) _ _ _ _ _) (fun _ _ => trivial)⟩
        have HW5 := Lib.hid hW5
        have hbo5 := (HK5.out.block (w.heap.size + 2) (Nat.lt_succ_self _)).trans HF.out.box
        have v0 : w4.cell? ⟨g, 0, none⟩ = some (.int .i64 y.n0) := (blk_cell hyb4 0).trans rfl
        have v1 : w4.cell? ⟨g, 1, none⟩ = some (.int .i64 y.n1) := (blk_cell hyb4 1).trans rfl
        have v2 : w4.cell? ⟨g, 2, none⟩ = some (.string y.t) := (blk_cell hyb4 2).trans rfl
        have v3 : w4.cell? ⟨g, 3, none⟩ = some (.slice y.A y.an y.ac) := (blk_cell hyb4 3).trans rfl
        have v4 : w4.cell? ⟨g, 4, none⟩ = some (.slice y.B y.bn y.bc) := (blk_cell hyb4 4).trans rfl
        have ff0 := blk_frozen hyb4 0
        have ff1 := blk_frozen hyb4 1
        have ff2 := blk_frozen hyb4 2
        have ff3 := blk_frozen hyb4 3
        have ff4 := blk_frozen hyb4 4
        clear hb4 hyb4 hW5
        go_upto_region 9 with fail
        rw [← HW5.out]
        clear v0 v1 v2 v3 v4 ff0 ff1 ff2 ff3 ff4
        have o4 : W5.cell? ⟨w.heap.size + 2, 4, none⟩ = some (.slice A rs.length c) := (blk_cell hbo5 4).trans rfl
        have y0 : W5.cell? ⟨g, 0, none⟩ = some (.int .i64 3) := (blk_cell hyb5 0).trans rfl
        have y1 : W5.cell? ⟨g, 1, none⟩ = some (.int .i64 0) := (blk_cell hyb5 1).trans rfl
        have y2 : W5.cell? ⟨g, 2, none⟩ = some (.string (y.t ++ eqB ++ u)) := (blk_cell hyb5 2).trans rfl
        have y3 : W5.cell? ⟨g, 3, none⟩ = some (.slice none 0 0) := (blk_cell hyb5 3).trans rfl
        have y4 : W5.cell? ⟨g, 4, none⟩ = some (.slice none 0 0) := (blk_cell hyb5 4).trans rfl
        clear hyb5 hbo5
        go_wp2_with (at_builtin; refine Kd.R_append kR (w0 := wr) (w.heap.size + 3) rfl _ _ 23 25 (.agg zV) 80 rfl Tryd.underlying23 infoV rfl (show 0 < 5 by decide) (by decide) (.slice A rs.length c) rs (⟨3, 0, y.t ++ eqB ++ u, none, 0, 0, none, 0, 0⟩ : RV) [.int .i64 3, .int .i64 0, .string (y.t ++ eqB ++ u), .slice none 0 0, .slice none 0 0] (fun _ => True) (fun _ => False) rfl rfl ?hp (fun _ h => h.elim) (fun _ _ => trivial) ?hO ?hB ?hS ?hL ?_; (case hp => rfl); (case hO => first | exact ROW5.out | exact Kd.R_alloc ROW5.out _); (case hB => first | exact HK5.out | exact (HK5.out).alloc HS5.out _); (case hS => first | exact HS5.out | (have := HS5.out; simp; omega)); (case hL => exact HVB.out); intro v6 w6 ho6 hb6 hg6 hat6; obtain ⟨A6, c6, eo⟩ := Kd.R_slice ho6; subst eo; have HO6 := Aside0.mk ho6; have HK6 := Aside0.mk hb6; have hbo6 := (hb6.block (w.heap.size + 2) (Nat.lt_succ_self _)).trans HF.out.box; have HBO6 := Aside0.mk hbo6; have o6 : w6.cell? ⟨w.heap.size + 2, 4, none⟩ = some (.slice A rs.length c) := (blk_cell hbo6 4).trans rfl; have f6 := blk_frozen hbo6 4; clear ho6 hb6 hg6 hat6 hbo6)
        go_roundw
        case rel =>
          have e1 : (rs ++ [(⟨3, 0, y.t ++ eqB ++ u, none, 0, 0, none, 0, 0⟩ : RV)]).length = rs.length + 1 := by simp
          refine ⟨i + 1, rs ++ [(⟨3, 0, y.t ++ eqB ++ u, none, 0, 0, none, 0, 0⟩ : RV)], A6, c6, hlt, by go_num, Lib.hid (by rw [e1]; exact Nat.succ_le_succ HRL.out), ⟨?_, ?_, ?_, ?_, ?_⟩⟩
          · exact blk_put HBO6.out 4 _ (by simp)
          · exact kR_apart HO6.out (row := some (w.heap.size + 2)) (setCell_grown _ _ _) (fun k hk e => by injection e with e; have := Kd.R_base HO6.out k hk; omega)
          · rw [HNX.out]; exact All2.snoc HF.out.flat (by rw [HRX.out]; exact flat_new _)
          · exact (HF.out.bel.trans (HK6.out.mono (Nat.le_succ _))).grown (setCell_grown _ _ _) (Nat.le_trans (Nat.le_trans (Nat.le_succ _) HSR.out) HK6.out.size) (fun k e => by injection e with e; have e' : w.heap.size + 2 = k := e; omega)
          · have := HK6.out.size; have := HSR.out; simp only [setCell_size]; omega
        case measure => first | exact msF hlt | (rw [wk]; exact msF hlt)
    · obtain rfl : i = n := by omega
      have hlt0 : ¬ ((i : Int) < (i : Int)) := Int.lt_irrefl _
      have o0 : wr.cell? ⟨w.heap.size + 2, 0, none⟩ = some (.int .i64 4) := (blk_cell HF.out.box 0).trans rfl
      have o1 : wr.cell? ⟨w.heap.size + 2, 1, none⟩ = some (.int .i64 0) := (blk_cell HF.out.box 1).trans rfl
      have o2 : wr.cell? ⟨w.heap.size + 2, 2, none⟩ = some (.string ⟨#[]⟩) := (blk_cell HF.out.box 2).trans rfl
      have o3 : wr.cell? ⟨w.heap.size + 2, 3, none⟩ = some (.slice none 0 0) := (blk_cell HF.out.box 3).trans rfl
      have o4 : wr.cell? ⟨w.heap.size + 2, 4, none⟩ = some (.slice A rs.length c) := (blk_cell HF.out.box 4).trans rfl
      have hre := (HF.out.bel.block (w.heap.size + 1) (by omega)).trans HRE.out
      have n0 : wr.cell? ⟨w.heap.size + 1, 0, none⟩ = some (.int .i64 0) := (blk_cell hre 0).trans rfl
      have n1 : wr.cell? ⟨w.heap.size + 1, 1, none⟩ = some (.int .i64 0) := (blk_cell hre 1).trans rfl
      have n2 : wr.cell? ⟨w.heap.size + 1, 2, none⟩ = some (.string ⟨#[]⟩) := (blk_cell hre 2).trans rfl
      have n3 : wr.cell? ⟨w.heap.size + 1, 3, none⟩ = some (.slice none 0 0) := (blk_cell hre 3).trans rfl
      have n4 : wr.cell? ⟨w.heap.size + 1, 4, none⟩ = some (.slice none 0 0) := (blk_cell hre 4).trans rfl
      have f0 := blk_frozen hre 0
      have f1 := blk_frozen hre 1
      have f2 := blk_frozen hre 2
      have f3 := blk_frozen hre 3
      have f4 := blk_frozen hre 4
      clear hre
      have HBWR : Aside0 (Below w.heap.size w wr) := ⟨HB1.out.trans (HF.out.bel.mono (Nat.le_add_right _ 2))⟩
      go_wp2
      refine bodyPost_ret (v := .agg #[.int .i64 4, .int .i64 0, .string ⟨#[]⟩, .slice none 0 0, .slice A rs.length c]) (by simp [results, Tryd.results37, go_sem, *]) rfl ?_
      obtain ⟨A', c', eA', hlc, hC⟩ := Kd.R_reads HF.out.row
      injection eA' with eA1 _ eA3
      subst eA1 eA3
      have hbase : ∀ ad, A = some ad → w.heap.size + 3 ≤ ad.block := fun ad e => fr_own HF.out.row (Nat.le_refl _) ad e
      have hfl := HF.out.flat
      rw [HN.out, List.take_length] at hfl
      exact ⟨A, c, rs, rfl, hlc, kd_move hC (fun _ _ q => q) (fun ad e _ => far5 (by have := hbase ad e; omega) _ _ _ _ _), (fun ad e => by have := hbase ad e; omega), hfl, below5 HBWR.out _ (Nat.le_succ _) _ _ _ _ _⟩
end Go.Proofs.YtgeamhmenmomhaaDoor.A
/- Contracts over values with their cells: spec.Get, spec.With in place, spec.normResolved; what spec.ResolveEnvironment speaks of. -/
namespace Go.Proofs.YtgeamhmenmomhaaDoor.A
set_option linter.unusedVariables false
set_option linter.unusedSimpArgs false
set_option linter.unusedSectionVars false
open Go.RowKit Go.Proofs.YtgeamhmenmomhaaDoorW.PrintWords Go.Proofs.YtgeamhmenmomhaaDoorW.PrintLast Go.Proofs.YtgeamhmenmomhaaDoorW.PrintMore Go.Proofs.YtgeamhmenmomhaaDoor.PT Go.Proofs.YtgeamhmenmomhaaDoor.L Go.Proofs.YtgeamhmenmomhaaDoor.SM

theorem fineS_map {x : SV} (h : FineS x) (h5 : x.f0 = 5) : x = ⟨5, 0, be, x.f3, x.f4⟩ ∧ Ord.Asc id x.f3 ∧ x.f4.length = x.f3.length ∧ x.f4.length ≤ 1099511627776 ∧ ∀ (i : Nat) (hi : i < x.f4.length), FineS (x.f4[i]'hi) := by
  cases h with
  | map ha hl hb he => exact ⟨rfl, ha, hl, hb, he⟩
  | nil => cases h5
  | bool _ => cases h5
  | int _ => cases h5
  | text _ => cases h5
  | list _ _ => cases h5
theorem fineS_bnd {x : SV} (h : FineS x) : x.f3.length ≤ 1099511627776 ∧ x.f4.length ≤ 1099511627776 := by
  cases h with
  | @map ks ys ha hl hb he => exact ⟨by show ks.length ≤ _; omega, hb⟩
  | list hb _ => exact ⟨Nat.zero_le _, hb⟩
  | nil => exact ⟨Nat.zero_le _, Nat.zero_le _⟩
  | bool _ => exact ⟨Nat.zero_le _, Nat.zero_le _⟩
  | int _ => exact ⟨Nat.zero_le _, Nat.zero_le _⟩
  | text _ => exact ⟨Nat.zero_le _, Nat.zero_le _⟩
theorem All2.set {α β : Type} {R : α → β → Prop} {xs : List α} {ys : List β} (h : All2 R xs ys) (j : Nat) {x : α} {y : β} (hx : R x y) : All2 R (xs.set j x) (ys.set j y) := by
  refine ⟨by simp [h.1], fun i h1 h2 => ?_⟩
  rw [List.length_set] at h1 h2
  by_cases e : j = i
  · subst e; simpa using hx
  · rw [List.getElem_set_ne e, List.getElem_set_ne e]; exact h.2 i h1 h2
theorem setS_set {k : ByteArray} {f : SV → SV} {x : SV} (ha : Ord.Asc id x.f3) (hl : x.f4.length = x.f3.length) {j : Nat} (hj : j < x.f3.length) (hj4 : j < x.f4.length) (hk : x.f3[j]'hj = k) : (setS k f x).f4 = x.f4.set j (f (x.f4[j]'hj4)) := by
  apply List.ext_getElem (by rw [setS_len hl, List.length_set])
  intro i h1 h2
  have i4 : i < x.f4.length := by rw [← setS_len (k := k) (f := f) hl]; exact h1
  have i3 : i < x.f3.length := by rw [← hl]; exact i4
  rw [setS_get i3 i4 h1]
  by_cases e : j = i
  · subst e; rw [if_pos hk]; simp
  · rw [List.getElem_set_ne e, if_neg (fun h => e ((List.getElem_inj (h₀ := hj) (h₁ := i3) (asc_nodup ha)).1 (hk.trans h.symm)))]
theorem setS_same {k : ByteArray} {f : SV → SV} {x : SV} (hl : x.f4.length = x.f3.length) (hn : k ∉ x.f3) : setS k f x = x := by
  have e : (setS k f x).f4 = x.f4 := by
    apply List.ext_getElem (setS_len hl)
    intro i i1 i2
    have i3 : i < x.f3.length := by rw [← hl]; exact i2
    rw [setS_get i3 i2 i1, if_neg (fun h => hn (by rw [← h]; exact List.getElem_mem i3))]
  cases x with
  | mk a b c d g =>
    show (⟨a, b, c, d, (setS k f ⟨a, b, c, d, g⟩).f4⟩ : SV) = _
    rw [e]
/-- what spec.Get answers of a value with its cells -/
theorem get_ex {P : Nat → Prop} {w : World} {x : SV} {r : RV} (hd : DeepP P w x r) (hf : FineS x) (key : ByteArray) : ∃ (g : RV) (b : Bool), (∀ W, Below w.heap.size w W → Calls Tryd.prog 34 #[r.val, .string key] W fun e w' => e = .returned (.tuple #[g.val, .bool b]) ∧ Below W.heap.size W w') ∧
    (b = true → x.f0 = 5 ∧ ∃ (i : Nat) (h3 : i < x.f3.length) (h4 : i < x.f4.length), x.f3[i]'h3 = key ∧ DeepP P w (x.f4[i]'h4) g) ∧ (b = false → x.f0 = 5 → key ∉ x.f3) := by
  obtain ⟨rs, h0, h1, h2, han, hac, hk, hbn, hbc, hr, ha⟩ := hd.rows
  by_cases h5 : x.f0 = 5
  · obtain ⟨hx, hasc, hl, hb, _⟩ := fineS_map hf h5
    have hrl : rs.length = x.f3.length := by rw [← hl]; exact ha.1.symm
    refine ⟨getR (placeB key x.f3) (placeN key x.f3) rs, placeB key x.f3, fun W hW => spec_GetR r (h0.trans h5) key x.f3 rs hrl (fineS_bnd hf).1 han (by rw [hbn]; exact ha.1) W (Kd.C_below hk hW) (Kd.C_below hr hW), fun hb' => ⟨h5, ?_⟩, fun hb' _ => place_not hasc hb'⟩
    obtain ⟨i3, e3⟩ := place_in hb'
    have i4 : placeN key x.f3 < x.f4.length := by rw [hl]; exact i3
    have ir : placeN key x.f3 < rs.length := by rw [hrl]; exact i3
    refine ⟨_, i3, i4, e3, ?_⟩
    have e : getR (placeB key x.f3) (placeN key x.f3) rs = rs[placeN key x.f3]'ir := by rw [hb']; simp [getR, List.getD_eq_getElem?_getD, List.getElem?_eq_getElem ir]
    rw [e]
    exact ha.2 _ i4 ir
  · refine ⟨RV.zero, false, fun W _ => spec_GetN r (by rw [h0]; exact h5) key W, fun h => Bool.noConfusion h, fun _ h => absurd h h5⟩
/-- spec.With of a key that is there -/
theorem law_WithD {P : Nat → Prop} {w : World} {x : SV} {r : RV} (hd : DeepP P w x r) (ha3 : Ord.Asc id x.f3) (hl : x.f4.length = x.f3.length) (hb : x.f3.length ≤ 1099511627776) {i : Nat} (hi : i < x.f3.length) {key : ByteArray} (hkey : x.f3[i]'hi = key) {y : SV} {q : RV} (hq : DeepP P w y q) (hP : ∀ k, w.heap.size ≤ k → P k) :
    Calls Tryd.prog 24 #[r.val, .string key, q.val] w fun e w' => (∃ r' : RV, e = .returned r'.val ∧ DeepP P w' ⟨5, 0, be, x.f3, x.f4.set i y⟩ r') ∧ Below w.heap.size w w' := by
  obtain ⟨rs, h0, h1, h2, han, hac, hk, hbn, hbc, hr, ha⟩ := hd.rows
  have hrl : rs.length = x.f3.length := by rw [← hl]; exact ha.1.symm
  have e : r.val = .agg #[.int .i64 r.n0, .int .i64 r.n1, .string r.t, .slice r.A x.f3.length r.ac, .slice r.B rs.length r.bc] := by
    unfold RV.val
    rw [han, hbn, show x.f4.length = rs.length from ha.1]
  rw [e]
  refine (spec_WithR r.n0 r.n1 r.t key x.f3 rs q r.A r.ac r.B r.bc w hk hr hb hrl).mono ?_
  obtain ⟨e1, e2⟩ := with_at ha3 hi rs q
  rw [hkey] at e1 e2
  rw [e1, e2]
  rintro e w' ⟨A, c, A', c', rfl, hc, hkC, hc', hvC, hA, hA', hbl⟩
  refine ⟨⟨⟨5, 0, be, A, x.f3.length, c, A', (rs.set i q).length, c'⟩, rfl, ?_⟩, hbl⟩
  have hall : All2 (DeepP P w') (x.f4.set i y) (rs.set i q) := (ha.set i hq).imp (fun _ _ h => h.below_ hbl)
  exact .mk (rs := rs.set i q) rfl rfl rfl rfl hc hkC (fun _ ad e => hP _ (hA ad e)) hall.1.symm hc' hall.1.symm hvC (fun _ ad e => hP _ (hA' ad e)) hall.2
/-- spec.normResolved of a list of texts -/
theorem law_norm (l : List U.SP) (A0 : Option Addr) (c0 : Nat) (hl : l.length ≤ 1048576) (hvs : ∀ k v, envE l k = some v → v.size ≤ 1048576) {P : Nat → Prop} {w : World} {x : SV} {r : RV} (hd : DeepP P w x r) (hf : FineS x) (h4 : x.f0 = 4) (ht : allT x.f4 = true) (hw : wt x ≤ 1048576) (hr0 : Kd.C k51 w A0 l.length l) (hc0 : l.length ≤ c0) (hP : ∀ k, w.heap.size ≤ k → P k) :
    Calls Tryd.prog 37 #[r.val, .slice A0 l.length c0] w fun e w' => (∃ r' : RV, e = .returned r'.val ∧ DeepP P w' (envS (envE l) x) r') ∧ Below w.heap.size w w' := by
  obtain ⟨rs, h0, h1, h2, han, hac, hk, hbn, hbc, hr, ha⟩ := hd.rows
  have hfe : ∀ (i : Nat) (hi : i < x.f4.length), FineS (x.f4[i]'hi) := by
    cases hf with
    | list _ he => exact he
    | nil => cases h4
    | bool _ => cases h4
    | int _ => cases h4
    | text _ => cases h4
    | map _ _ _ _ => cases h4
  have ht' : ∀ y ∈ x.f4, y.f0 = 3 := by simpa [allT] using ht
  have hwe := wt_eq x
  have hfl : All2 FlatT (x.f4.map (·.f2)) rs := by
    refine ⟨by rw [List.length_map]; exact ha.1, fun i i1 i2 => ?_⟩
    have i4 : i < x.f4.length := by simpa using i1
    have hy := ha.2 i i4 i2
    have e := fineS_text (hfe i i4) (ht' _ (List.getElem_mem i4))
    rw [List.getElem_map]
    obtain ⟨_, q0, q1, q2, q3, _, _, q4, _⟩ := hy.rows
    exact ⟨q0.trans (by rw [e]; rfl), q1.trans (by rw [e]; rfl), q2, q3.trans (by rw [e]; rfl), q4.trans (by rw [e]; rfl)⟩
  have hlen := len_wt x.f4
  refine (spec_normResolved l A0 c0 hl hvs r (x.f4.map (·.f2)) rs (by rw [hbn, List.length_map]) (by rw [List.length_map]; omega) (fun s hs => ?_) hfl w hr hr0 hc0).mono ?_
  · obtain ⟨y, hy, rfl⟩ := List.mem_map.1 hs
    have h3 : wt y ≤ (x.f4.map wt).sum := sum_mem (List.mem_map_of_mem hy)
    have h4 := wt_eq y
    omega
  · rintro e w' ⟨A, c, rs', rfl, hc, hC, hA, hfl', hbl⟩
    refine ⟨⟨⟨4, 0, be, none, 0, 0, A, rs'.length, c⟩, rfl, ?_⟩, hbl⟩
    have hl' : (x.f4.map (fun t => tS (resX (envE l) t.f2))).length = rs'.length := by have := hfl'.1; simpa using this
    refine .mk (rs := rs') rfl rfl rfl rfl (Nat.le_refl _) (C_nil _ _ _) (fun h => absurd h (Nat.lt_irrefl _)) hl'.symm hc hl'.symm hC (fun _ ad e => hP _ (by have := hA ad e; omega)) (fun i q1 q2 => ?_)
    have i3 : i < x.f4.length := by simpa [envS] using q1
    have hq := hfl'.2 i (by simpa using i3) q2
    rw [List.getElem_map, List.getElem_map] at hq
    have e : (envS (envE l) x).f4[i]'q1 = tS (resX (envE l) (x.f4[i]'i3).f2) := by simp [envS]
    rw [e]
    exact deep_T hq
/-! ### what is spoken of -/
structure OkSrv (x : SV) : Prop where
  map : x.f0 = 5
  env : ∀ (i : Nat) (h1 : i < x.f3.length) (h2 : i < x.f4.length), x.f3[i]'h1 = kEnv → (x.f4[i]'h2).f0 = 4 ∧ allT (x.f4[i]'h2).f4 = true
structure OkV (x : SV) : Prop where
  map : x.f0 = 5
  srv : ∀ (i : Nat) (h1 : i < x.f3.length) (h2 : i < x.f4.length), x.f3[i]'h1 = kSrv → (x.f4[i]'h2).f0 = 5 ∧ ∀ y ∈ (x.f4[i]'h2).f4, OkSrv y
  has : kSrv ∈ x.f3
  keys : ∀ k ∈ x.f3, topKey k
theorem topKey_not {k : ByteArray} (h3 : k.size ≠ 3) (h : k ≠ ⟨#[110, 97, 109, 101]⟩ ∧ k ≠ ⟨#[115, 101, 114, 118, 105, 99, 101, 115]⟩ ∧ k ≠ ⟨#[110, 101, 116, 119, 111, 114, 107, 115]⟩ ∧ k ≠ ⟨#[118, 111, 108, 117, 109, 101, 115]⟩) : ¬ topKey k := by
  intro hk
  rcases hk with hk | hk
  · simp only [List.mem_cons, List.not_mem_nil, or_false] at hk
    rcases hk with hk | hk | hk | hk
    · exact h.1 hk
    · exact h.2.1 hk
    · exact h.2.2.1 hk
    · exact h.2.2.2 hk
  · exact h3 hk
/-- the services so far -/
def lS (E : Env) (s : SV) (i : Nat) : SV := ⟨5, 0, be, s.f3, (s.f4.take i).map (srvS E) ++ s.f4.drop i⟩
theorem lS_len (E : Env) (s : SV) (i : Nat) : (lS E s i).f4.length = s.f4.length := by
  simp only [lS, List.length_append, List.length_map, List.length_take, List.length_drop]; omega
theorem lS_get (E : Env) (s : SV) {i : Nat} (hi : i < s.f4.length) (h : i < (lS E s i).f4.length) : (lS E s i).f4[i]'h = s.f4[i]'hi := by
  have hl : ((s.f4.take i).map (srvS E)).length = i := by simp; omega
  simp only [lS]
  have e : i - ((s.f4.take i).map (srvS E)).length = 0 := by omega
  rw [List.getElem_append_right (by omega)]
  simp only [e, List.getElem_drop, Nat.add_zero]
theorem lS_next (E : Env) (s : SV) {i : Nat} (hi : i < s.f4.length) : (lS E s i).f4.set i (srvS E (s.f4[i]'hi)) = (lS E s (i + 1)).f4 := by
  have hl : ((s.f4.take i).map (srvS E)).length = i := by simp; omega
  simp only [lS]
  rw [List.set_append_right _ _ (by omega), hl, Nat.sub_self, List.drop_eq_getElem_cons hi, List.set_cons_zero, List.take_succ_eq_append_getElem hi, List.map_append, List.append_assoc]
  rfl
theorem lS_same (E : Env) (s : SV) {i : Nat} (hi : i < s.f4.length) (h : srvS E (s.f4[i]'hi) = s.f4[i]'hi) : lS E s (i + 1) = lS E s i := by
  have e : (lS E s (i + 1)).f4 = (lS E s i).f4 := by
    rw [← lS_next E s hi, h]
    have h2 : i < (lS E s i).f4.length := by rw [lS_len]; exact hi
    rw [← lS_get E s hi h2]
    exact List.set_getElem_self h2
  show (⟨5, 0, be, s.f3, (lS E s (i + 1)).f4⟩ : SV) = ⟨5, 0, be, s.f3, (lS E s i).f4⟩
  rw [e]
theorem lS_zero (E : Env) {s : SV} (h : s = ⟨5, 0, be, s.f3, s.f4⟩) : lS E s 0 = s := by
  unfold lS
  rw [List.take_zero, List.drop_zero]
  exact h.symm
theorem lS_all (E : Env) {s : SV} (h : s = ⟨5, 0, be, s.f3, s.f4⟩) : lS E s s.f4.length = allS (srvS E) s := by
  unfold lS allS
  rw [List.take_length, List.drop_length, List.append_nil]
  rw [h]
end Go.Proofs.YtgeamhmenmomhaaDoor.A
/- The walk of spec.ResolveEnvironment (printed by gen_envt.py). -/
namespace Go.Proofs.YtgeamhmenmomhaaDoor.A
set_option linter.unusedVariables false
set_option linter.unusedSimpArgs false
set_option linter.unusedSectionVars false
open Go.RowKit Go.Proofs.YtgeamhmenmomhaaDoorW.PrintWords Go.Proofs.YtgeamhmenmomhaaDoorW.PrintLast Go.Proofs.YtgeamhmenmomhaaDoorW.PrintMore Go.Proofs.YtgeamhmenmomhaaDoor.PT Go.Proofs.YtgeamhmenmomhaaDoor.L Go.Proofs.YtgeamhmenmomhaaDoor.SM

def RenvSays (l : List U.SP) (x : SV) (w : World) (e : Ending) (w' : World) : Prop := ∃ (r : RV) (said : Bool), e = .returned (.tuple #[r.val, .bool said]) ∧ Below w.heap.size w w' ∧ (said = true → OkV x ∧ (∀ p ∈ l, noQ p.f0) ∧ MadeS (topS (envE l) x) w' r.val)
/-- the services' loop -/
structure ReL (w W3 wr : World) (E : Env) (s : SV) (gl n i : Nat) (rl : RV) : Prop where
  box : wr.heap[gl]? = some (.cells #[.int .i64 rl.n0, .int .i64 rl.n1, .string rl.t, .slice rl.A n rl.ac, .slice rl.B n rl.bc] 25 (0, 0))
  deep : DeepP (fun k => k < w.heap.size ∨ gl < k) wr (lS E s i) rl
  ok : ∀ y ∈ s.f4.take i, OkSrv y
  bel : Below gl W3 wr
  size : gl < wr.heap.size
theorem ok_next {s : SV} {i : Nat} (hi : i < s.f4.length) (h : ∀ y ∈ s.f4.take i, OkSrv y) (hy : OkSrv (s.f4[i]'hi)) : ∀ y ∈ s.f4.take (i + 1), OkSrv y := by
  rw [List.take_succ_eq_append_getElem hi]
  intro y hy'
  rcases List.mem_append.1 hy' with h' | h'
  · exact h y h'
  · rw [List.mem_singleton.1 h']; exact hy
theorem names_next {l : List U.SP} {i : Nat} (hi : i < l.length) (h : ∀ p ∈ l.take i, noQ p.f0) (hp : noQ (l[i]'hi).f0) : ∀ p ∈ l.take (i + 1), noQ p.f0 := by
  rw [List.take_succ_eq_append_getElem hi]
  intro y hy'
  rcases List.mem_append.1 hy' with h' | h'
  · exact h y h'
  · rw [List.mem_singleton.1 h']; exact hp
/-- a value's cells with its rows' lengths written out -/
theorem val_n {r : RV} {n : Nat} (h1 : r.an = n) (h2 : r.bn = n) : r.val = .agg #[.int .i64 r.n0, .int .i64 r.n1, .string r.t, .slice r.A n r.ac, .slice r.B n r.bc] := by unfold RV.val; rw [h1, h2]
def NormC (P : Nat → Prop) (l : List U.SP) (A0 : Option Addr) (c0 : Nat) (ge : RV) (z : SV) (w : World) : Prop := ∀ W, Below w.heap.size w W → Calls Tryd.prog 37 #[.agg #[.int .i64 ge.n0, .int .i64 ge.n1, .string ge.t, .slice ge.A ge.an ge.ac, .slice ge.B ge.bn ge.bc], .slice A0 l.length c0] W fun e w' => (∃ r' : RV, e = .returned (.agg #[.int .i64 r'.n0, .int .i64 r'.n1, .string r'.t, .slice r'.A r'.an r'.ac, .slice r'.B r'.bn r'.bc]) ∧ DeepP P w' z r') ∧ Below W.heap.size W w'
def WithC (P : Nat → Prop) (v : Value) (key : ByteArray) (f : SV → SV) (w : World) : Prop := ∀ W (q : RV) (y : SV), Below w.heap.size w W → DeepP P W y q → Calls Tryd.prog 24 #[v, .string key, .agg #[.int .i64 q.n0, .int .i64 q.n1, .string q.t, .slice q.A q.an q.ac, .slice q.B q.bn q.bc]] W fun e w' => (∃ r' : RV, e = .returned (.agg #[.int .i64 r'.n0, .int .i64 r'.n1, .string r'.t, .slice r'.A r'.an r'.ac, .slice r'.B r'.bn r'.bc]) ∧ DeepP P w' (f y) r') ∧ Below W.heap.size W w'
theorem NormC.use {P : Nat → Prop} {l : List U.SP} {A0 : Option Addr} {c0 : Nat} {ge : RV} {z : SV} {w : World} (h : NormC P l A0 c0 ge z w) {W : World} (hW : Below w.heap.size w W) : Calls Tryd.prog 37 #[.agg #[.int .i64 ge.n0, .int .i64 ge.n1, .string ge.t, .slice ge.A ge.an ge.ac, .slice ge.B ge.bn ge.bc], .slice A0 l.length c0] W fun e w' => (∃ r' : RV, e = .returned (.agg #[.int .i64 r'.n0, .int .i64 r'.n1, .string r'.t, .slice r'.A r'.an r'.ac, .slice r'.B r'.bn r'.bc]) ∧ DeepP P w' z r') ∧ Below W.heap.size W w' := h W hW
theorem WithC.use {P : Nat → Prop} {v : Value} {key : ByteArray} {f : SV → SV} {w : World} (h : WithC P v key f w) {W : World} {q : RV} {y : SV} (hW : Below w.heap.size w W) (hq : DeepP P W y q) : Calls Tryd.prog 24 #[v, .string key, .agg #[.int .i64 q.n0, .int .i64 q.n1, .string q.t, .slice q.A q.an q.ac, .slice q.B q.bn q.bc]] W fun e w' => (∃ r' : RV, e = .returned (.agg #[.int .i64 r'.n0, .int .i64 r'.n1, .string r'.t, .slice r'.A r'.an r'.ac, .slice r'.B r'.bn r'.bc]) ∧ DeepP P w' (f y) r') ∧ Below W.heap.size W w' := h W q y hW hq
set_option maxHeartbeats 16000000 in
set_option maxRecDepth 100000 in
theorem spec_ResolveEnvironment {x : SV} (hf : FineS x) (hw : wt x ≤ 1048576) (l : List U.SP) (A0 : Option Addr) (c0 : Nat) (hl : l.length ≤ 1048576) (hvs : ∀ k v, envE l k = some v → v.size ≤ 1048576) (hkz : ∀ p ∈ l, p.f0.size ≤ 2147483647) {v : Value} {w : World} (hv : MadeS x w v) (hr0 : Kd.C k51 w A0 l.length l) (hc0 : l.length ≤ c0) :
    Calls Tryd.prog 16 #[v, .slice A0 l.length c0] w (RenvSays l x w) := by
  obtain ⟨r0, rfl, hd0⟩ := deep_of_made _ x (Nat.le_refl _) hv
  obtain ⟨g, hb, hget, hgt, hgf⟩ := get_ex hd0 hf kSrv
  obtain ⟨rs0, h0, -, -, han0, -, hk0, hbn0, -, hrr0, -⟩ := hd0.rows
  obtain ⟨W0, hW0⟩ : ∃ W0 : World, W0 = (w.alloc (Obj.cells #[.int .i64 r0.n0, .int .i64 r0.n1, .string r0.t, .slice r0.A r0.an r0.ac, .slice r0.B r0.bn r0.bc] 25)).alloc (Obj.cells #[.int .i64 0, .int .i64 0, .string ⟨#[]⟩, .slice none 0 0, .slice none 0 0] 25) := ⟨_, rfl⟩
  have hb0 : Below w.heap.size w W0 := by rw [hW0]; exact ((Below.refl _ _).alloc (Nat.le_refl _) _).alloc (by simp) _
  have HBX : Aside0 (W0.heap[w.heap.size]? = some (.cells #[.int .i64 r0.n0, .int .i64 r0.n1, .string r0.t, .slice r0.A r0.an r0.ac, .slice r0.B r0.bn r0.bc] 25 (0, 0))) := ⟨by rw [hW0]; exact heap_oldI (new_atI rfl)⟩
  have HRE : Aside0 (W0.heap[w.heap.size + 1]? = some (.cells zV 25 (0, 0))) := ⟨by rw [hW0]; exact new_atI (by simp)⟩
  have HS0 : Hid (W0.heap.size = w.heap.size + 2) := Lib.hid (by rw [hW0]; simp)
  have HB0 := Aside0.mk hb0
  have HW0 := Lib.hid hW0
  have HGETV := Lib.hid hget
  have HTOP : Hid (∀ W, Below w.heap.size w W → Calls Tryd.prog 35 #[r0.val] W (TopSays r0 x.f3 g hb W)) := Lib.hid (fun W hW => normTop_walk r0 x.f3 (fineS_bnd hf).1 han0 W (Kd.C_below hk0 hW) g hb (fun W' hW' => hget W' (hW.trans (hW'.mono hW.size))))
  unfold RV.val at HGETV HTOP ⊢
  have HD0 := Aside0.mk hd0
  have HGT := Lib.hid hgt
  have HGF := Lib.hid hgf
  have HF := Lib.hid hf
  have HWT := Lib.hid hw
  have HL := Lib.hid hl
  have HVS := Lib.hid hvs
  have HKZ := Lib.hid hkz
  have HR0 := Aside0.mk hr0
  have HC0 := Lib.hid hc0
  have HN0 : Hid (r0.n0 = x.f0) := Lib.hid h0
  clear hf hw hl hvs hkz hv hr0 hc0 hd0 hget hgt hgf h0 han0 hk0 hbn0 hrr0 hb0 hW0
  go_enter Tryd.func16, Tryd.ntmps16
  go_upto_region 1 with fail
  rw [← HW0.out]
  go_wp2
  go_loopw [6] (fun v6 wr => ∃ i : Nat, i ≤ l.length ∧ v6 = .int .i64 i ∧ Hid (∀ p ∈ l.take i, noQ p.f0) ∧ Aside0 (Below W0.heap.size W0 wr)) (fun v6 _ => l.length - (intOf v6).toNat)
  case atStart => exact ⟨0, Nat.zero_le _, rfl, Lib.hid (fun p hp => by simp at hp), ⟨Below.refl _ _⟩⟩
  case round =>
    obtain ⟨i, hi, rfl, HNM, HB⟩ := hrel
    by_cases hlt : i < l.length
    · have i0 : (0 : Int) ≤ (i : Int) := Int.natCast_nonneg _
      have i1 : (i : Int) < (l.length : Int) := Int.ofNat_lt.2 hlt
      obtain ⟨ad0, eA, hx0, -⟩ := at_T51 HR0.out (i : Int) i0 i1
      have hbw : Below w.heap.size w wr := HB0.out.trans (HB.out.mono HB0.out.size)
      replace hx0 := (hbw.cell (World.block_lt_of_cell? w _ hx0)).trans hx0
      rw [M.rd_get hlt, Int.toNat_natCast] at hx0
      obtain ⟨key, hkey⟩ : ∃ key, key = (l[i]'hlt).f0 := ⟨_, rfl⟩
      rw [← hkey] at hx0
      obtain ⟨t, ht, htq⟩ := name_f key (by have := HKZ.out _ (List.getElem_mem hlt); rw [hkey]; omega)
      have HT := Lib.hid ht
      have HTQ : Hid (t = true → ∀ p ∈ l.take (i + 1), noQ p.f0) := Lib.hid (fun h => names_next hlt HNM.out (by rw [← hkey]; exact htq h))
      have wk := wrF hlt (by have := HL.out; omega)
      have HBW := Aside0.mk hbw
      subst eA
      clear hkey hbw ht htq
      go_wp2_with fail
      refine (spec_sayName.calls _ key t wr HT.out).mono ?_
      clear hx0
      rintro e w1 ⟨rfl, hd⟩
      have HB1 := Aside0.mk (below_then HB.out HB.out.size hd.below)
      clear hd
      cases t with
      | true =>
        go_wp2
        go_roundw
        case rel => exact ⟨i + 1, hlt, by go_num, Lib.hid (HTQ.out (by first | rfl | trivial)), HB1⟩
        case measure => first | exact msF hlt | (rw [wk]; exact msF hlt)
      | false =>
        have hx := blk_below HBX.out HB1.out
        have hre := blk_below HRE.out HB1.out
        have HBW1 : Aside0 (Below w.heap.size w w1) := ⟨HB0.out.trans (HB1.out.mono HB0.out.size)⟩
        have x0 : w1.cell? ⟨w.heap.size, 0, none⟩ = some (.int .i64 r0.n0) := (blk_cell hx 0).trans rfl
        have x1 : w1.cell? ⟨w.heap.size, 1, none⟩ = some (.int .i64 r0.n1) := (blk_cell hx 1).trans rfl
        have x2 : w1.cell? ⟨w.heap.size, 2, none⟩ = some (.string r0.t) := (blk_cell hx 2).trans rfl
        have x3 : w1.cell? ⟨w.heap.size, 3, none⟩ = some (.slice r0.A r0.an r0.ac) := (blk_cell hx 3).trans rfl
        have x4 : w1.cell? ⟨w.heap.size, 4, none⟩ = some (.slice r0.B r0.bn r0.bc) := (blk_cell hx 4).trans rfl
        have n0 : w1.cell? ⟨w.heap.size + 1, 0, none⟩ = some (.int .i64 0) := (blk_cell hre 0).trans rfl
        have n1 : w1.cell? ⟨w.heap.size + 1, 1, none⟩ = some (.int .i64 0) := (blk_cell hre 1).trans rfl
        have n2 : w1.cell? ⟨w.heap.size + 1, 2, none⟩ = some (.string ⟨#[]⟩) := (blk_cell hre 2).trans rfl
        have n3 : w1.cell? ⟨w.heap.size + 1, 3, none⟩ = some (.slice none 0 0) := (blk_cell hre 3).trans rfl
        have n4 : w1.cell? ⟨w.heap.size + 1, 4, none⟩ = some (.slice none 0 0) := (blk_cell hre 4).trans rfl
        have f0 := blk_frozen hre 0
        have f1 := blk_frozen hre 1
        have f2 := blk_frozen hre 2
        have f3 := blk_frozen hre 3
        have f4 := blk_frozen hre 4
        go_wp2
        refine bodyPost_ret (v := .tuple #[.agg #[.int .i64 r0.n0, .int .i64 r0.n1, .string r0.t, .slice r0.A r0.an r0.ac, .slice r0.B r0.bn r0.bc], .bool false]) (by simp [results, Tryd.results16, go_sem, *]) rfl ?_
        exact ⟨r0, false, rfl, below5 HBW1.out _ (Nat.le_succ _) _ _ _ _ _, fun h => Bool.noConfusion h⟩
    · obtain rfl : i = l.length := by omega
      have hlt0 : ¬ ((l.length : Int) < (l.length : Int)) := Int.lt_irrefl _
      have HNAMES : Hid (∀ p ∈ l, noQ p.f0) := Lib.hid (by have := HNM.out; rwa [List.take_length] at this)
      obtain ⟨wa, hwa⟩ : ∃ wa, wa = wr := ⟨_, rfl⟩
      subst hwa
      have hx := blk_below HBX.out HB.out
      have HBWA : Aside0 (Below w.heap.size w wa) := ⟨HB0.out.trans (HB.out.mono HB0.out.size)⟩
      have x0 : wa.cell? ⟨w.heap.size, 0, none⟩ = some (.int .i64 r0.n0) := (blk_cell hx 0).trans rfl
      have x1 : wa.cell? ⟨w.heap.size, 1, none⟩ = some (.int .i64 r0.n1) := (blk_cell hx 1).trans rfl
      have x2 : wa.cell? ⟨w.heap.size, 2, none⟩ = some (.string r0.t) := (blk_cell hx 2).trans rfl
      have x3 : wa.cell? ⟨w.heap.size, 3, none⟩ = some (.slice r0.A r0.an r0.ac) := (blk_cell hx 3).trans rfl
      have x4 : wa.cell? ⟨w.heap.size, 4, none⟩ = some (.slice r0.B r0.bn r0.bc) := (blk_cell hx 4).trans rfl
      have HXA := Aside0.mk hx
      have HREA := Aside0.mk (blk_below HRE.out HB.out)
      have HSA : Hid (w.heap.size + 2 ≤ wa.heap.size) := Lib.hid (by have h1 := HB.out.size; have h2 := HS0.out; omega)
      clear hx
      go_wp2_with fail
      refine (HGETV.out wa HBWA.out).mono ?_
      clear x0 x1 x2 x3 x4
      rintro e w1 ⟨rfl, hb1⟩
      obtain ⟨W2, hW2⟩ : ∃ W2 : World, W2 = w1.alloc (Obj.cells #[.int .i64 g.n0, .int .i64 g.n1, .string g.t, .slice g.A g.an g.ac, .slice g.B g.bn g.bc] 25) := ⟨_, rfl⟩
      obtain ⟨gl, hgl⟩ : ∃ gl, gl = w1.heap.size := ⟨_, rfl⟩
      have hb2 : Below wa.heap.size wa W2 := by rw [hW2]; exact hb1.alloc hb1.size _
      have hgx : W2.heap[gl]? = some (.cells #[.int .i64 g.n0, .int .i64 g.n1, .string g.t, .slice g.A g.an g.ac, .slice g.B g.bn g.bc] 25 (0, 0)) := by rw [hW2, hgl]; exact new_atI rfl
      have HGX := Aside0.mk hgx
      have HX2 := Aside0.mk (blk_below HXA.out hb2)
      have HRE2 := Aside0.mk (blk_below HREA.out hb2)
      have HB2 : Aside0 (Below w.heap.size w W2) := ⟨HBWA.out.trans (hb2.mono HBWA.out.size)⟩
      have HGL : Hid (w.heap.size + 2 ≤ gl) := Lib.hid (by rw [hgl]; have h1 := HSA.out; have h2 := hb1.size; omega)
      have HGL2 : Hid (gl < W2.heap.size) := Lib.hid (by rw [hW2, hgl]; simp)
      have HW2 := Lib.hid hW2
      have HGLE := Lib.hid hgl
      have x0 : W2.cell? ⟨w.heap.size, 0, none⟩ = some (.int .i64 r0.n0) := (blk_cell HX2.out 0).trans rfl
      have x1 : W2.cell? ⟨w.heap.size, 1, none⟩ = some (.int .i64 r0.n1) := (blk_cell HX2.out 1).trans rfl
      have x2 : W2.cell? ⟨w.heap.size, 2, none⟩ = some (.string r0.t) := (blk_cell HX2.out 2).trans rfl
      have x3 : W2.cell? ⟨w.heap.size, 3, none⟩ = some (.slice r0.A r0.an r0.ac) := (blk_cell HX2.out 3).trans rfl
      have x4 : W2.cell? ⟨w.heap.size, 4, none⟩ = some (.slice r0.B r0.bn r0.bc) := (blk_cell HX2.out 4).trans rfl
      clear hb1 hb2 hgx hW2 hgl
      go_upto_region 7 with fail
      rw [← HW2.out, ← HGLE.out]
      go_wp2_with fail
      refine (HTOP.out W2 HB2.out).mono ?_
      clear x0 x1 x2 x3 x4
      rintro e W3 ⟨⟨bt, rfl, hbt⟩, hb3⟩
      have HX3 := Aside0.mk (blk_below HX2.out hb3)
      have HRE3 := Aside0.mk (blk_below HRE2.out hb3)
      have HGX3 := Aside0.mk (blk_below HGX.out hb3)
      have HB3 : Aside0 (Below w.heap.size w W3) := ⟨HB2.out.trans (hb3.mono HB2.out.size)⟩
      have HGL3 : Hid (gl < W3.heap.size) := Lib.hid (Nat.lt_of_lt_of_le HGL2.out hb3.size)
      clear hb3
      cases bt with
      | false =>
        have hx := HX3.out
        have hre := HRE3.out
        have x0 : W3.cell? ⟨w.heap.size, 0, none⟩ = some (.int .i64 r0.n0) := (blk_cell hx 0).trans rfl
        have x1 : W3.cell? ⟨w.heap.size, 1, none⟩ = some (.int .i64 r0.n1) := (blk_cell hx 1).trans rfl
        have x2 : W3.cell? ⟨w.heap.size, 2, none⟩ = some (.string r0.t) := (blk_cell hx 2).trans rfl
        have x3 : W3.cell? ⟨w.heap.size, 3, none⟩ = some (.slice r0.A r0.an r0.ac) := (blk_cell hx 3).trans rfl
        have x4 : W3.cell? ⟨w.heap.size, 4, none⟩ = some (.slice r0.B r0.bn r0.bc) := (blk_cell hx 4).trans rfl
        have n0 : W3.cell? ⟨w.heap.size + 1, 0, none⟩ = some (.int .i64 0) := (blk_cell hre 0).trans rfl
        have n1 : W3.cell? ⟨w.heap.size + 1, 1, none⟩ = some (.int .i64 0) := (blk_cell hre 1).trans rfl
        have n2 : W3.cell? ⟨w.heap.size + 1, 2, none⟩ = some (.string ⟨#[]⟩) := (blk_cell hre 2).trans rfl
        have n3 : W3.cell? ⟨w.heap.size + 1, 3, none⟩ = some (.slice none 0 0) := (blk_cell hre 3).trans rfl
        have n4 : W3.cell? ⟨w.heap.size + 1, 4, none⟩ = some (.slice none 0 0) := (blk_cell hre 4).trans rfl
        have f0 := blk_frozen hre 0
        have f1 := blk_frozen hre 1
        have f2 := blk_frozen hre 2
        have f3 := blk_frozen hre 3
        have f4 := blk_frozen hre 4
        go_wp2
        refine bodyPost_ret (v := .tuple #[.agg #[.int .i64 r0.n0, .int .i64 r0.n1, .string r0.t, .slice r0.A r0.an r0.ac, .slice r0.B r0.bn r0.bc], .bool false]) (by simp [results, Tryd.results16, go_sem, *]) rfl ?_
        exact ⟨r0, false, rfl, below5 HB3.out _ (Nat.le_succ _) _ _ _ _ _, fun h => Bool.noConfusion h⟩
      | true =>
        obtain ⟨t1, rfl, t3, t4⟩ := hbt rfl
        have h5 : x.f0 = 5 := HN0.out.symm.trans t1
        obtain ⟨-, j, hj3, hj4, hjk, hdg⟩ := HGT.out rfl
        obtain ⟨hxe, hxasc, hxl, -, hxfe⟩ := fineS_map HF.out h5
        obtain ⟨s, hs⟩ : ∃ s, s = x.f4[j]'hj4 := ⟨_, rfl⟩
        have hsf := hxfe j hj4
        rw [← hs] at hdg hsf
        obtain ⟨_, hg0, -⟩ := hdg.rows
        have hs5 : s.f0 = 5 := hg0.symm.trans t3
        obtain ⟨hse, hsasc, hsl, hsb, hsfe⟩ := fineS_map hsf hs5
        have hsw : wt s ≤ 1048576 := by
          have h1 : wt s ≤ (x.f4.map wt).sum := by rw [hs]; exact sum_mem (List.mem_map_of_mem (List.getElem_mem hj4))
          have h2 := wt_eq x
          have h3 := HWT.out
          omega
        obtain ⟨n, hn⟩ : ∃ n, n = s.f3.length := ⟨_, rfl⟩
        have hn4 : s.f4.length = n := by rw [hn]; exact hsl
        have HN := Lib.hid hn
        have HN4 := Lib.hid hn4
        have HNB : Hid (n ≤ 1099511627776) := Lib.hid (by rw [← hn4]; exact hsb)
        have HSASC := Lib.hid hsasc
        have HSL := Lib.hid hsl
        have HSFE := Lib.hid hsfe
        have HSW := Lib.hid hsw
        have hdg3 : DeepP (fun k => k < w.heap.size ∨ gl < k) W3 s g := (hdg.below_ HB3.out).imp (fun k hk _ => .inl hk)
        obtain ⟨_, -, -, -, hgan, -, -, hgbn, -, -, -⟩ := hdg3.rows
        have HSTART : Hid (ReL w W3 W3 (envE l) s gl n 0 g) := Lib.hid ⟨by have := HGX3.out; rwa [hgan, hgbn, ← hn, hn4] at this, by rw [lS_zero _ hse]; exact hdg3, fun y hy => by simp at hy, Below.refl _ _, HGL3.out⟩
        have HEND : Hid (∀ (W : World) (rl : RV), Below w.heap.size w W → gl < W.heap.size → DeepP (fun k => k < w.heap.size ∨ gl < k) W (lS (envE l) s n) rl → (∀ y ∈ s.f4, OkSrv y) → Calls Tryd.prog 24 #[.agg #[.int .i64 r0.n0, .int .i64 r0.n1, .string r0.t, .slice r0.A r0.an r0.ac, .slice r0.B r0.bn r0.bc], .string kSrv, .agg #[.int .i64 rl.n0, .int .i64 rl.n1, .string rl.t, .slice rl.A rl.an rl.ac, .slice rl.B rl.bn rl.bc]] W fun e w' => (∃ r' : RV, e = .returned (.agg #[.int .i64 r'.n0, .int .i64 r'.n1, .string r'.t, .slice r'.A r'.an r'.ac, .slice r'.B r'.bn r'.bc]) ∧ DeepP (fun k => k < w.heap.size ∨ gl < k) w' (topS (envE l) x) r' ∧ OkV x) ∧ Below W.heap.size W w') := Lib.hid (fun W rl hW hgW hrl hall => by
          have hdx : DeepP (fun k => k < w.heap.size ∨ gl < k) W x r0 := (HD0.out.below_ hW).imp (fun k hk _ => .inl hk)
          refine (law_WithD hdx hxasc hxl (fineS_bnd HF.out).1 hj3 hjk hrl (fun k hk => .inr (by omega))).mono ?_
          rintro e w' ⟨⟨r', rfl, hd'⟩, hbl⟩
          refine ⟨⟨r', rfl, ?_, h5, fun i h1 h2 e => ?_, hjk ▸ List.getElem_mem hj3, t4⟩, hbl⟩
          · have e1 : topS (envE l) x = ⟨5, 0, be, x.f3, x.f4.set j (lS (envE l) s n)⟩ := by
              rw [← hn4, lS_all _ hse, hs]
              have := setS_set (k := kSrv) (f := allS (srvS (envE l))) hxasc hxl hj3 hj4 hjk
              rw [← this]
              show (⟨x.f0, x.f1, x.f2, x.f3, (topS (envE l) x).f4⟩ : SV) = _
              rw [hxe]
            rw [e1]; exact hd'
          · have : i = j := (List.getElem_inj (h₀ := h1) (h₁ := hj3) (asc_nodup hxasc)).1 (e.trans hjk.symm)
            subst this
            rw [← hs]
            exact ⟨hs5, hall⟩)
        unfold RV.val at HEND
        clear hbt t1 t3 t4 h5 hjk hdg hxe hxasc hxl hxfe hsf hg0 hs5 hse hsasc hsl hsb hsfe hsw hn hn4 hdg3 hgan hgbn hs
        go_wp2
        go_loopw [9] (fun v9 wr => ∃ (i : Nat) (rl : RV), i ≤ n ∧ v9 = .int .i64 i ∧ Aside0 (ReL w W3 wr (envE l) s gl n i rl)) (fun v9 _ => n - (intOf v9).toNat)
        case atStart => exact ⟨0, g, Nat.zero_le _, rfl, ⟨HSTART.out⟩⟩
        case round =>
          obtain ⟨i, rl, hi, rfl, HRL⟩ := hrel
          obtain ⟨wb, hwb⟩ : ∃ wb, wb = wr := ⟨_, rfl⟩
          subst hwb
          have HBW : Aside0 (Below w.heap.size w wb) := ⟨HB3.out.trans (HRL.out.bel.mono (by have := HGL.out; omega))⟩
          have o0 : wb.cell? ⟨gl, 0, none⟩ = some (.int .i64 rl.n0) := (blk_cell HRL.out.box 0).trans rfl
          have o1 : wb.cell? ⟨gl, 1, none⟩ = some (.int .i64 rl.n1) := (blk_cell HRL.out.box 1).trans rfl
          have o2 : wb.cell? ⟨gl, 2, none⟩ = some (.string rl.t) := (blk_cell HRL.out.box 2).trans rfl
          have o3 : wb.cell? ⟨gl, 3, none⟩ = some (.slice rl.A n rl.ac) := (blk_cell HRL.out.box 3).trans rfl
          have o4 : wb.cell? ⟨gl, 4, none⟩ = some (.slice rl.B n rl.bc) := (blk_cell HRL.out.box 4).trans rfl
          by_cases hlt : i < n
          · have i0 : (0 : Int) ≤ (i : Int) := Int.natCast_nonneg _
            have i1 : (i : Int) < (n : Int) := Int.ofNat_lt.2 hlt
            have hi3 : i < s.f3.length := by rw [← HN.out]; exact hlt
            have hi4 : i < s.f4.length := by rw [HN4.out]; exact hlt
            have hil : i < (lS (envE l) s i).f4.length := by rw [lS_len]; exact hi4
            obtain ⟨rs, -, -, -, hran, -, hrk, hrbn, -, hrr, hra⟩ := HRL.out.deep.rows
            have hran' : rl.an = n := hran.trans HN.out.symm
            have hrbn' : rl.bn = n := by rw [hrbn, lS_len]; exact HN4.out
            have hir : i < rs.length := by have := hra.1; rw [lS_len] at this; omega
            obtain ⟨adk, eK, hkc⟩ := Kd.at_string (n := s.f3.length) hrk (i : Int) i0 (by rw [← HN.out]; exact i1)
            replace hkc : wb.cell? (adk.add i) = some (.string (s.f3[i]'hi3)) := by rw [Int.toNat_natCast] at hkc; rw [hkc]; exact congrArg (fun k => some (Value.string k)) (rdK (ks := s.f3) hi3)
            obtain ⟨ade, eA, he0, he1, he2, he3, he4⟩ := at_R hrr i hir hir
            obtain ⟨rx, hrx⟩ : ∃ rx, rx = rs[i]'hir := ⟨_, rfl⟩
            obtain ⟨y, hy⟩ : ∃ y, y = s.f4[i]'hi4 := ⟨_, rfl⟩
            obtain ⟨key, hkey⟩ : ∃ key, key = s.f3[i]'hi3 := ⟨_, rfl⟩
            have hdx := hra.2 i hil hir
            rw [lS_get _ _ hi4, ← hrx, ← hy] at hdx
            have hyf := HSFE.out i hi4
            rw [← hy] at hyf
            have hyw : wt y ≤ 1048576 := by
              have h1 : wt y ≤ (s.f4.map wt).sum := by rw [hy]; exact sum_mem (List.mem_map_of_mem (List.getElem_mem hi4))
              have h2 := wt_eq s
              have h3 := HSW.out
              omega
            rw [← hrx] at he0 he1 he2 he3 he4
            rw [← hkey] at hkc
            obtain ⟨ge, bh, hgete, hget1, hget2⟩ := get_ex hdx hyf kEnv
            have HPLAIN : Hid (∀ W, Below wb.heap.size wb W → Calls Tryd.prog 36 #[rx.val] W fun e w' => (∃ r, e = .returned (.bool r) ∧ (r = true → y.f0 = 5)) ∧ Below W.heap.size W w') := Lib.hid (fun W hW => law_plain (fineS_bnd hyf).1 (hdx.below_ hW).parts)
            have HGE := Lib.hid hgete
            have HSTEP0 : Hid (bh = false → y.f0 = 5 → srvS (envE l) y = y ∧ OkSrv y) := Lib.hid (fun hb' h5 => by
              have hno := hget2 hb' h5
              obtain ⟨_, _, hyl, _, _⟩ := fineS_map hyf h5
              exact ⟨setS_same hyl hno, h5, fun q h1 h2 e => absurd (e ▸ List.getElem_mem h1) hno⟩)
            have HSTEP1 : Hid (bh = true → y.f0 = 5 → ∃ z : SV, DeepP (fun k => k < w.heap.size ∨ gl < k) wb z ge ∧ FineS z ∧ wt z ≤ 1048576 ∧ ((allT z.f4 && decide (z.f0 = 4)) = true → OkSrv y ∧ NormC (fun k => k < w.heap.size ∨ gl < k) l A0 c0 ge (envS (envE l) z) wb ∧ ∃ f : SV → SV, WithC (fun k => k < w.heap.size ∨ gl < k) (.agg #[.int .i64 rx.n0, .int .i64 rx.n1, .string rx.t, .slice rx.A rx.an rx.ac, .slice rx.B rx.bn rx.bc]) kEnv f wb ∧ f (envS (envE l) z) = srvS (envE l) y)) := Lib.hid (fun hb' h5 => by
              obtain ⟨_, q, q3, q4, qk, hdz⟩ := hget1 hb'
              obtain ⟨hye, hyasc, hyl, _, hyfe⟩ := fineS_map hyf h5
              have hzf := hyfe q q4
              have hzw : wt (y.f4[q]'q4) ≤ 1048576 := by
                have h1 : wt (y.f4[q]'q4) ≤ (y.f4.map wt).sum := sum_mem (List.mem_map_of_mem (List.getElem_mem q4))
                have h2 := wt_eq y
                omega
              refine ⟨y.f4[q]'q4, hdz, hzf, hzw, fun hc => ?_⟩
              rw [Bool.and_eq_true, decide_eq_true_eq] at hc
              refine ⟨⟨h5, fun a h1 h2 e => ?_⟩, fun W hW => ?_, fun z => ⟨5, 0, be, y.f3, y.f4.set q z⟩, fun W qv z hW hq => ?_, ?_⟩
              · have : a = q := (List.getElem_inj (h₀ := h1) (h₁ := q3) (asc_nodup hyasc)).1 (e.trans qk.symm)
                subst this
                exact ⟨hc.2, hc.1⟩
              · refine (law_norm l A0 c0 HL.out HVS.out (hdz.below_ hW) hzf hc.2 hc.1 hzw (Kd.C_below (Kd.C_below HR0.out HBW.out) hW) HC0.out (fun k hk => .inr (by have := HRL.out.size; have := hW.size; omega))).mono ?_
                rintro e w' ⟨⟨r', rfl, hd'⟩, hbl⟩
                exact ⟨⟨r', rfl, hd'⟩, hbl⟩
              · refine (law_WithD (hdx.below_ hW) hyasc hyl (fineS_bnd hyf).1 q3 qk hq (fun k hk => .inr (by have := HRL.out.size; have := hW.size; omega))).mono ?_
                rintro e w' ⟨⟨r', rfl, hd'⟩, hbl⟩
                exact ⟨⟨r', rfl, hd'⟩, hbl⟩
              · have := setS_set (k := kEnv) (f := envS (envE l)) hyasc hyl q3 q4 qk
                show (⟨5, 0, be, y.f3, y.f4.set q (envS (envE l) (y.f4[q]'q4))⟩ : SV) = _
                rw [← this]
                show _ = (⟨y.f0, y.f1, y.f2, y.f3, (srvS (envE l) y).f4⟩ : SV)
                rw [hye])
            have HWL : Hid (WithC (fun k => k < w.heap.size ∨ gl < k) (.agg #[.int .i64 rl.n0, .int .i64 rl.n1, .string rl.t, .slice rl.A n rl.ac, .slice rl.B n rl.bc]) key (fun z => ⟨5, 0, be, s.f3, (lS (envE l) s i).f4.set i z⟩) wb) := Lib.hid (fun W qv z hW hq => by
              rw [← val_n hran' hrbn']
              refine (law_WithD (HRL.out.deep.below_ hW) (show Ord.Asc id (lS (envE l) s i).f3 from HSASC.out) (by rw [lS_len]; exact HSL.out) (show s.f3.length ≤ _ by rw [← HN.out]; exact HNB.out) (i := i) hi3 hkey.symm hq (fun k hk => .inr (by have := HRL.out.size; have := hW.size; omega))).mono ?_
              rintro e w' ⟨⟨r', rfl, hd'⟩, hbl⟩
              exact ⟨⟨r', rfl, hd'⟩, hbl⟩)
            have HNEXT : Hid ((⟨5, 0, be, s.f3, (lS (envE l) s i).f4.set i (srvS (envE l) y)⟩ : SV) = lS (envE l) s (i + 1)) := Lib.hid (by rw [hy, lS_next _ _ hi4]; rfl)
            have HSAME : Hid (srvS (envE l) y = y → lS (envE l) s (i + 1) = lS (envE l) s i) := Lib.hid (fun h => lS_same _ _ hi4 (by rw [← hy]; exact h))
            have HOK : Hid (OkSrv y → ∀ z ∈ s.f4.take (i + 1), OkSrv z) := Lib.hid (fun h => ok_next hi4 HRL.out.ok (by rw [← hy]; exact h))
            have wk := wrF hlt HNB.out
            have HKC := Aside0.mk hkc
            unfold RV.val at HGE HPLAIN
            rw [eK] at o3 HWL
            rw [eA] at o4 HWL
            obtain ⟨W4, hW4⟩ : ∃ W4 : World, W4 = wb.alloc (Obj.cells #[.int .i64 rx.n0, .int .i64 rx.n1, .string rx.t, .slice rx.A rx.an rx.ac, .slice rx.B rx.bn rx.bc] 25) := ⟨_, rfl⟩
            obtain ⟨g4, hg4⟩ : ∃ g4, g4 = wb.heap.size := ⟨_, rfl⟩
            have hb4 : Below wb.heap.size wb W4 := by rw [hW4]; exact (Below.refl _ _).alloc (Nat.le_refl _) _
            have hx4 : W4.heap[g4]? = some (.cells #[.int .i64 rx.n0, .int .i64 rx.n1, .string rx.t, .slice rx.A rx.an rx.ac, .slice rx.B rx.bn rx.bc] 25 (0, 0)) := by rw [hW4, hg4]; exact new_atI rfl
            have hob : wb.heap[gl]? = some (.cells #[.int .i64 rl.n0, .int .i64 rl.n1, .string rl.t, .slice (some adk) n rl.ac, .slice (some ade) n rl.bc] 25 (0, 0)) := by have := HRL.out.box; rwa [eK, eA] at this
            have HOB := Aside0.mk hob
            have HB4 := Aside0.mk hb4
            have HX4 := Aside0.mk hx4
            have HW4 := Lib.hid hW4
            have HG4 := Lib.hid hg4
            have y0 : W4.cell? ⟨g4, 0, none⟩ = some (.int .i64 rx.n0) := (blk_cell hx4 0).trans rfl
            have y1 : W4.cell? ⟨g4, 1, none⟩ = some (.int .i64 rx.n1) := (blk_cell hx4 1).trans rfl
            have y2 : W4.cell? ⟨g4, 2, none⟩ = some (.string rx.t) := (blk_cell hx4 2).trans rfl
            have y3 : W4.cell? ⟨g4, 3, none⟩ = some (.slice rx.A rx.an rx.ac) := (blk_cell hx4 3).trans rfl
            have y4 : W4.cell? ⟨g4, 4, none⟩ = some (.slice rx.B rx.bn rx.bc) := (blk_cell hx4 4).trans rfl
            clear hb4 hx4 hW4 hg4 hob hrx hy hkey hdx hyf hyw hgete hget1 hget2 hran hrk hrbn hrr hra hran' hrbn' hir hil hi3 hi4 eK eA
            go_upto_region 13 with fail
            rw [← HW4.out, ← HG4.out]
            go_wp2_with fail
            refine (HGE.out W4 HB4.out).mono ?_
            clear y0 y1 y2 y3 y4
            rintro e w5 ⟨rfl, hb5⟩
            obtain ⟨W6, hW6⟩ : ∃ W6 : World, W6 = w5.alloc (Obj.cells #[.int .i64 ge.n0, .int .i64 ge.n1, .string ge.t, .slice ge.A ge.an ge.ac, .slice ge.B ge.bn ge.bc] 25) := ⟨_, rfl⟩
            obtain ⟨g6, hg6⟩ : ∃ g6, g6 = w5.heap.size := ⟨_, rfl⟩
            have hb6 : Below W4.heap.size W4 W6 := by rw [hW6]; exact hb5.alloc hb5.size _
            have hx6 : W6.heap[g6]? = some (.cells #[.int .i64 ge.n0, .int .i64 ge.n1, .string ge.t, .slice ge.A ge.an ge.ac, .slice ge.B ge.bn ge.bc] 25 (0, 0)) := by rw [hW6, hg6]; exact new_atI rfl
            have HX6 := Aside0.mk hx6
            have HX46 := Aside0.mk (blk_below HX4.out hb6)
            have HB6 : Aside0 (Below wb.heap.size wb W6) := ⟨below_then HB4.out HB4.out.size hb6⟩
            have HW6 := Lib.hid hW6
            have HG6 := Lib.hid hg6
            have y0 : W6.cell? ⟨g4, 0, none⟩ = some (.int .i64 rx.n0) := (blk_cell HX46.out 0).trans rfl
            have y1 : W6.cell? ⟨g4, 1, none⟩ = some (.int .i64 rx.n1) := (blk_cell HX46.out 1).trans rfl
            have y2 : W6.cell? ⟨g4, 2, none⟩ = some (.string rx.t) := (blk_cell HX46.out 2).trans rfl
            have y3 : W6.cell? ⟨g4, 3, none⟩ = some (.slice rx.A rx.an rx.ac) := (blk_cell HX46.out 3).trans rfl
            have y4 : W6.cell? ⟨g4, 4, none⟩ = some (.slice rx.B rx.bn rx.bc) := (blk_cell HX46.out 4).trans rfl
            clear hb5 hb6 hx6 hW6 hg6
            go_upto_region 14 with fail
            rw [← HW6.out, ← HG6.out]
            go_wp2_with fail
            refine (HPLAIN.out W6 HB6.out).mono ?_
            clear y0 y1 y2 y3 y4
            rintro e w7 ⟨⟨bp, rfl, hbp⟩, hb7⟩
            have HB7 : Aside0 (Below wb.heap.size wb w7) := ⟨below_then HB6.out HB6.out.size hb7⟩
            have HX67 := Aside0.mk (blk_below HX6.out hb7)
            have HX47 := Aside0.mk (blk_below HX46.out hb7)
            clear hb7
            cases bp with
            | false =>
              have hb37 : Below gl W3 w7 := HRL.out.bel.trans (HB7.out.mono (Nat.le_of_lt HRL.out.size))
              have hx := (hb37.block w.heap.size (by have := HGL.out; omega)).trans HX3.out
              have hre := (hb37.block (w.heap.size + 1) (by have := HGL.out; omega)).trans HRE3.out
              have HBW7 : Aside0 (Below w.heap.size w w7) := ⟨HBW.out.trans (HB7.out.mono HBW.out.size)⟩
              clear hb37
              have x0 : w7.cell? ⟨w.heap.size, 0, none⟩ = some (.int .i64 r0.n0) := (blk_cell hx 0).trans rfl
              have x1 : w7.cell? ⟨w.heap.size, 1, none⟩ = some (.int .i64 r0.n1) := (blk_cell hx 1).trans rfl
              have x2 : w7.cell? ⟨w.heap.size, 2, none⟩ = some (.string r0.t) := (blk_cell hx 2).trans rfl
              have x3 : w7.cell? ⟨w.heap.size, 3, none⟩ = some (.slice r0.A r0.an r0.ac) := (blk_cell hx 3).trans rfl
              have x4 : w7.cell? ⟨w.heap.size, 4, none⟩ = some (.slice r0.B r0.bn r0.bc) := (blk_cell hx 4).trans rfl
              have n0 : w7.cell? ⟨w.heap.size + 1, 0, none⟩ = some (.int .i64 0) := (blk_cell hre 0).trans rfl
              have n1 : w7.cell? ⟨w.heap.size + 1, 1, none⟩ = some (.int .i64 0) := (blk_cell hre 1).trans rfl
              have n2 : w7.cell? ⟨w.heap.size + 1, 2, none⟩ = some (.string ⟨#[]⟩) := (blk_cell hre 2).trans rfl
              have n3 : w7.cell? ⟨w.heap.size + 1, 3, none⟩ = some (.slice none 0 0) := (blk_cell hre 3).trans rfl
              have n4 : w7.cell? ⟨w.heap.size + 1, 4, none⟩ = some (.slice none 0 0) := (blk_cell hre 4).trans rfl
              have f0 := blk_frozen hre 0
              have f1 := blk_frozen hre 1
              have f2 := blk_frozen hre 2
              have f3 := blk_frozen hre 3
              have f4 := blk_frozen hre 4
              go_wp2
              refine bodyPost_ret (v := .tuple #[.agg #[.int .i64 r0.n0, .int .i64 r0.n1, .string r0.t, .slice r0.A r0.an r0.ac, .slice r0.B r0.bn r0.bc], .bool false]) (by simp [results, Tryd.results16, go_sem, *]) rfl ?_
              exact ⟨r0, false, rfl, below5 HBW7.out _ (Nat.le_succ _) _ _ _ _ _, fun h => Bool.noConfusion h⟩
            | true =>
              have h5 : y.f0 = 5 := hbp (by first | rfl | trivial)
              clear hbp
              cases bh with
              | false =>
                obtain ⟨q1, q2⟩ := HSTEP0.out rfl h5
                have HQ1 := Lib.hid q1
                have HQ2 := Lib.hid q2
                clear q1 q2 h5
                go_wp2
                go_roundw
                case rel =>
                  have hob7 := (HB7.out.block gl HRL.out.size).trans HRL.out.box
                  exact ⟨i + 1, rl, hlt, by go_num, ⟨hob7, by rw [HSAME.out HQ1.out]; exact HRL.out.deep.below_ HB7.out, HOK.out HQ2.out, HRL.out.bel.trans (HB7.out.mono (Nat.le_of_lt HRL.out.size)), Nat.lt_of_lt_of_le HRL.out.size HB7.out.size⟩⟩
                case measure => first | exact msF hlt | (rw [wk]; exact msF hlt)
              | true =>
                obtain ⟨z, hz1, hz2, hz3, hz4⟩ := HSTEP1.out rfl h5
                have HTX : Hid (∀ W, Below wb.heap.size wb W → Calls Tryd.prog 27 #[ge.val] W fun e w' => e = .returned (.bool (allT z.f4 && decide (z.f0 = 4))) ∧ Below W.heap.size W w') := Lib.hid (fun W hW => law_texts (fineS_bnd hz2).2 (hz1.below_ hW).parts)
                unfold RV.val at HTX
                obtain ⟨bz, hbz⟩ : ∃ bz, bz = (allT z.f4 && decide (z.f0 = 4)) := ⟨_, rfl⟩
                rw [← hbz] at HTX hz4
                have HZ4 := Lib.hid hz4
                clear hz1 hz2 hz3 hz4 hbz h5
                have y0 : w7.cell? ⟨g6, 0, none⟩ = some (.int .i64 ge.n0) := (blk_cell HX67.out 0).trans rfl
                have y1 : w7.cell? ⟨g6, 1, none⟩ = some (.int .i64 ge.n1) := (blk_cell HX67.out 1).trans rfl
                have y2 : w7.cell? ⟨g6, 2, none⟩ = some (.string ge.t) := (blk_cell HX67.out 2).trans rfl
                have y3 : w7.cell? ⟨g6, 3, none⟩ = some (.slice ge.A ge.an ge.ac) := (blk_cell HX67.out 3).trans rfl
                have y4 : w7.cell? ⟨g6, 4, none⟩ = some (.slice ge.B ge.bn ge.bc) := (blk_cell HX67.out 4).trans rfl
                go_wp2_with fail
                refine (HTX.out w7 HB7.out).mono ?_
                clear y0 y1 y2 y3 y4
                rintro e w8 ⟨rfl, hb8⟩
                have HB8 : Aside0 (Below wb.heap.size wb w8) := ⟨below_then HB7.out HB7.out.size hb8⟩
                have HX68 := Aside0.mk (blk_below HX67.out hb8)
                have HX48 := Aside0.mk (blk_below HX47.out hb8)
                clear hb8
                cases bz with
                | false =>
                  have hb37 : Below gl W3 w8 := HRL.out.bel.trans (HB8.out.mono (Nat.le_of_lt HRL.out.size))
                  have hx := (hb37.block w.heap.size (by have := HGL.out; omega)).trans HX3.out
                  have hre := (hb37.block (w.heap.size + 1) (by have := HGL.out; omega)).trans HRE3.out
                  have HBW8 : Aside0 (Below w.heap.size w w8) := ⟨HBW.out.trans (HB8.out.mono HBW.out.size)⟩
                  clear hb37
                  have x0 : w8.cell? ⟨w.heap.size, 0, none⟩ = some (.int .i64 r0.n0) := (blk_cell hx 0).trans rfl
                  have x1 : w8.cell? ⟨w.heap.size, 1, none⟩ = some (.int .i64 r0.n1) := (blk_cell hx 1).trans rfl
                  have x2 : w8.cell? ⟨w.heap.size, 2, none⟩ = some (.string r0.t) := (blk_cell hx 2).trans rfl
                  have x3 : w8.cell? ⟨w.heap.size, 3, none⟩ = some (.slice r0.A r0.an r0.ac) := (blk_cell hx 3).trans rfl
                  have x4 : w8.cell? ⟨w.heap.size, 4, none⟩ = some (.slice r0.B r0.bn r0.bc) := (blk_cell hx 4).trans rfl
                  have n0 : w8.cell? ⟨w.heap.size + 1, 0, none⟩ = some (.int .i64 0) := (blk_cell hre 0).trans rfl
                  have n1 : w8.cell? ⟨w.heap.size + 1, 1, none⟩ = some (.int .i64 0) := (blk_cell hre 1).trans rfl
                  have n2 : w8.cell? ⟨w.heap.size + 1, 2, none⟩ = some (.string ⟨#[]⟩) := (blk_cell hre 2).trans rfl
                  have n3 : w8.cell? ⟨w.heap.size + 1, 3, none⟩ = some (.slice none 0 0) := (blk_cell hre 3).trans rfl
                  have n4 : w8.cell? ⟨w.heap.size + 1, 4, none⟩ = some (.slice none 0 0) := (blk_cell hre 4).trans rfl
                  have f0 := blk_frozen hre 0
                  have f1 := blk_frozen hre 1
                  have f2 := blk_frozen hre 2
                  have f3 := blk_frozen hre 3
                  have f4 := blk_frozen hre 4
                  go_wp2
                  refine bodyPost_ret (v := .tuple #[.agg #[.int .i64 r0.n0, .int .i64 r0.n1, .string r0.t, .slice r0.A r0.an r0.ac, .slice r0.B r0.bn r0.bc], .bool false]) (by simp [results, Tryd.results16, go_sem, *]) rfl ?_
                  exact ⟨r0, false, rfl, below5 HBW8.out _ (Nat.le_succ _) _ _ _ _ _, fun h => Bool.noConfusion h⟩
                | true =>
                  obtain ⟨hoy, hnc, f, hwc, hfe⟩ := HZ4.out (by first | rfl | trivial)
                  have HOY := Lib.hid hoy
                  have HNC := Lib.hid hnc
                  have HWC := Lib.hid hwc
                  have HFE := Lib.hid hfe
                  have hob8 := (HB8.out.block gl HRL.out.size).trans HOB.out
                  have HOB8 := Aside0.mk hob8
                  clear o0 o1 o2 o3 o4 hoy hnc hwc hfe
                  have hkc : w8.cell? (adk.add i) = some (.string key) := (HB8.out.cell (World.block_lt_of_cell? wb _ HKC.out)).trans HKC.out
                  have o0 : w8.cell? ⟨gl, 0, none⟩ = some (.int .i64 rl.n0) := (blk_cell hob8 0).trans rfl
                  have o1 : w8.cell? ⟨gl, 1, none⟩ = some (.int .i64 rl.n1) := (blk_cell hob8 1).trans rfl
                  have o2 : w8.cell? ⟨gl, 2, none⟩ = some (.string rl.t) := (blk_cell hob8 2).trans rfl
                  have o3 : w8.cell? ⟨gl, 3, none⟩ = some (.slice (some adk) n rl.ac) := (blk_cell hob8 3).trans rfl
                  have o4 : w8.cell? ⟨gl, 4, none⟩ = some (.slice (some ade) n rl.bc) := (blk_cell hob8 4).trans rfl
                  have y0 : w8.cell? ⟨g4, 0, none⟩ = some (.int .i64 rx.n0) := (blk_cell HX48.out 0).trans rfl
                  have y1 : w8.cell? ⟨g4, 1, none⟩ = some (.int .i64 rx.n1) := (blk_cell HX48.out 1).trans rfl
                  have y2 : w8.cell? ⟨g4, 2, none⟩ = some (.string rx.t) := (blk_cell HX48.out 2).trans rfl
                  have y3 : w8.cell? ⟨g4, 3, none⟩ = some (.slice rx.A rx.an rx.ac) := (blk_cell HX48.out 3).trans rfl
                  have y4 : w8.cell? ⟨g4, 4, none⟩ = some (.slice rx.B rx.bn rx.bc) := (blk_cell HX48.out 4).trans rfl
                  have e0 : w8.cell? ⟨g6, 0, none⟩ = some (.int .i64 ge.n0) := (blk_cell HX68.out 0).trans rfl
                  have e1 : w8.cell? ⟨g6, 1, none⟩ = some (.int .i64 ge.n1) := (blk_cell HX68.out 1).trans rfl
                  have e2 : w8.cell? ⟨g6, 2, none⟩ = some (.string ge.t) := (blk_cell HX68.out 2).trans rfl
                  have e3 : w8.cell? ⟨g6, 3, none⟩ = some (.slice ge.A ge.an ge.ac) := (blk_cell HX68.out 3).trans rfl
                  have e4 : w8.cell? ⟨g6, 4, none⟩ = some (.slice ge.B ge.bn ge.bc) := (blk_cell HX68.out 4).trans rfl
                  clear hob8
                  go_upto_region 17 with fail
                  refine start_ (n := 13) (S := fun w' => w'.cell? ⟨gl, 0, none⟩ = some (.int .i64 rl.n0) ∧ w'.cell? ⟨gl, 1, none⟩ = some (.int .i64 rl.n1) ∧ w'.cell? ⟨gl, 2, none⟩ = some (.string rl.t) ∧ w'.cell? ⟨gl, 3, none⟩ = some (.slice (some adk) n rl.ac) ∧ w'.cell? ⟨gl, 4, none⟩ = some (.slice (some ade) n rl.bc) ∧ w'.cell? (adk.add i) = some (.string key) ∧ w'.cell? ⟨g4, 0, none⟩ = some (.int .i64 rx.n0) ∧ w'.cell? ⟨g4, 1, none⟩ = some (.int .i64 rx.n1) ∧ w'.cell? ⟨g4, 2, none⟩ = some (.string rx.t) ∧ w'.cell? ⟨g4, 3, none⟩ = some (.slice rx.A rx.an rx.ac) ∧ w'.cell? ⟨g4, 4, none⟩ = some (.slice rx.B rx.bn rx.bc) ∧ w'.cell? ⟨g6, 0, none⟩ = some (.int .i64 ge.n0) ∧ w'.cell? ⟨g6, 1, none⟩ = some (.int .i64 ge.n1) ∧ w'.cell? ⟨g6, 2, none⟩ = some (.string ge.t) ∧ w'.cell? ⟨g6, 3, none⟩ = some (.slice ge.A ge.an ge.ac) ∧ w'.cell? ⟨g6, 4, none⟩ = some (.slice ge.B ge.bn ge.bc)) (ds := [12]) #[false, false, false, false, false, false, false, false, false, false, false, false, false] (by kernel_rfl) rfl rfl ⟨o0, o1, o2, o3, o4, hkc, y0, y1, y2, y3, y4, e0, e1, e2, e3, e4⟩ (fun hHeld => ?_)
                  refine pure_ (i := 1) (N := some 67) (v := ?_) (a' := ?_) #[false, true, false, false, false, false, false, false, false, false, false, false, false] rfl rfl (by kernel_rfl) (fun _ _ _ h => h) (Or.inl ⟨by rfl, ?_⟩) ?_ ?_
                  rotate_left
                  · intro w'
                    go_simp
                    with_reducible rfl
                  rotate_left
                  · simp only [Act.put, List.setIfInBounds_toArray, List.set_cons_zero, List.set_cons_succ, i64_w, i32_w]
                    rfl
                  refine pure_ (i := 3) (N := some 69) (v := ?_) (a' := ?_) #[false, true, false, true, false, false, false, false, false, false, false, false, false] rfl rfl (by kernel_rfl) (fun _ _ _ h => h) (Or.inl ⟨by rfl, ?_⟩) ?_ ?_
                  rotate_left
                  · intro w'
                    go_simp
                    with_reducible rfl
                  rotate_left
                  · simp only [Act.put, List.setIfInBounds_toArray, List.set_cons_zero, List.set_cons_succ, i64_w, i32_w]
                    rfl
                  refine pure_ (i := 8) (N := some 74) (v := ?_) (a' := ?_) #[false, true, false, true, false, false, false, false, true, false, false, false, false] rfl rfl (by kernel_rfl) (fun _ _ _ h => h) (Or.inl ⟨by rfl, ?_⟩) ?_ ?_
                  rotate_left
                  · intro w'
                    go_simp
                    with_reducible rfl
                  rotate_left
                  · simp only [Act.put, List.setIfInBounds_toArray, List.set_cons_zero, List.set_cons_succ, i64_w, i32_w]
                    rfl
                  refine take_ (i := 0) (N := some 66) (v := ?_) (a' := ?_) #[true, true, false, true, false, false, false, false, true, false, false, false, false] rfl rfl (by kernel_rfl) (fun _ _ _ h => h) (Or.inl ⟨by rfl, ?_⟩) hHeld ?_ ?_
                  rotate_left
                  · rintro w' ⟨s0, s1, s2, s3, s4, s5, s6, s7, s8, s9, s10, s11, s12, s13, s14, s15⟩
                    go_simp
                    with_reducible rfl
                  rotate_left
                  · simp only [Act.put, List.setIfInBounds_toArray, List.set_cons_zero, List.set_cons_succ, i64_w, i32_w]
                    rfl
                  refine take_ (i := 2) (N := some 68) (v := ?_) (a' := ?_) #[true, true, true, true, false, false, false, false, true, false, false, false, false] rfl rfl (by kernel_rfl) (fun _ _ _ h => h) (Or.inl ⟨by rfl, ?_⟩) hHeld ?_ ?_
                  rotate_left
                  · rintro w' ⟨s0, s1, s2, s3, s4, s5, s6, s7, s8, s9, s10, s11, s12, s13, s14, s15⟩
                    go_simp
                    with_reducible rfl
                  rotate_left
                  · simp only [Act.put, List.setIfInBounds_toArray, List.set_cons_zero, List.set_cons_succ, i64_w, i32_w]
                    rfl
                  refine pure_ (i := 4) (N := some 70) (v := ?_) (a' := ?_) #[true, true, true, true, true, false, false, false, true, false, false, false, false] rfl rfl (by kernel_rfl) (fun _ _ _ h => h) (Or.inl ⟨by rfl, ?_⟩) ?_ ?_
                  rotate_left
                  · intro w'
                    go_simp
                    with_reducible rfl
                  rotate_left
                  · simp only [Act.put, List.setIfInBounds_toArray, List.set_cons_zero, List.set_cons_succ, i64_w, i32_w]
                    rfl
                  refine take_ (i := 5) (N := some 71) (v := ?_) (a' := ?_) #[true, true, true, true, true, true, false, false, true, false, false, false, false] rfl rfl (by kernel_rfl) (fun _ _ _ h => h) (Or.inl ⟨by rfl, ?_⟩) hHeld ?_ ?_
                  rotate_left
                  · rintro w' ⟨s0, s1, s2, s3, s4, s5, s6, s7, s8, s9, s10, s11, s12, s13, s14, s15⟩
                    go_simp
                    with_reducible rfl
                  rotate_left
                  · simp only [Act.put, List.setIfInBounds_toArray, List.set_cons_zero, List.set_cons_succ, i64_w, i32_w]
                    rfl
                  refine take_ (i := 6) (N := some 72) (v := ?_) (a' := ?_) #[true, true, true, true, true, true, true, false, true, false, false, false, false] rfl rfl (by kernel_rfl) (fun _ _ _ h => h) (Or.inl ⟨by rfl, ?_⟩) hHeld ?_ ?_
                  rotate_left
                  · rintro w' ⟨s0, s1, s2, s3, s4, s5, s6, s7, s8, s9, s10, s11, s12, s13, s14, s15⟩
                    go_simp
                    with_reducible rfl
                  rotate_left
                  · simp only [Act.put, List.setIfInBounds_toArray, List.set_cons_zero, List.set_cons_succ, i64_w, i32_w]
                    rfl
                  refine take_ (i := 7) (N := some 73) (v := ?_) (a' := ?_) #[true, true, true, true, true, true, true, true, true, false, false, false, false] rfl rfl (by kernel_rfl) (fun _ _ _ h => h) (Or.inl ⟨by rfl, ?_⟩) hHeld ?_ ?_
                  rotate_left
                  · rintro w' ⟨s0, s1, s2, s3, s4, s5, s6, s7, s8, s9, s10, s11, s12, s13, s14, s15⟩
                    go_simp
                    with_reducible rfl
                  rotate_left
                  · simp only [Act.put, List.setIfInBounds_toArray, List.set_cons_zero, List.set_cons_succ, i64_w, i32_w]
                    rfl
                  refine one_ (i := 9) (N := some 75) #[true, true, true, true, true, true, true, true, true, true, false, false, false] rfl rfl (by kernel_rfl) (by decide) (fun K hK => ?_)
                  refine goes_ Tryd.func37 (by kernel_rfl) rfl #[.agg #[.int .i64 ge.n0, .int .i64 ge.n1, .string ge.t, .slice ge.A ge.an ge.ac, .slice ge.B ge.bn ge.bc], .slice A0 l.length c0] (by rfl) rfl rfl (by simp only [List.map_toArray, List.map_cons, List.map_nil]; rfl) ?_
                  with_reducible refine (NormC.use HNC.out (W := w8.drew) (HB8.out.trans (below_drew1 (Below.refl _ _)))).mono ?_
                  rintro e w9 ⟨⟨r9, rfl, hd9⟩, hb9⟩
                  refine ⟨_, rfl, ?_⟩
                  have hc9 : Below w8.heap.size w8 w9 := below_un hb9
                  have HC9 := Aside0.mk hc9
                  have HD9 := Aside0.mk hd9
                  clear hb9 hc9 hd9
                  refine hK.out _ _ ⟨(HC9.out.cell (World.block_lt_of_cell? w8 _ o0)).trans o0, (HC9.out.cell (World.block_lt_of_cell? w8 _ o1)).trans o1, (HC9.out.cell (World.block_lt_of_cell? w8 _ o2)).trans o2, (HC9.out.cell (World.block_lt_of_cell? w8 _ o3)).trans o3, (HC9.out.cell (World.block_lt_of_cell? w8 _ o4)).trans o4, (HC9.out.cell (World.block_lt_of_cell? w8 _ hkc)).trans hkc, (HC9.out.cell (World.block_lt_of_cell? w8 _ y0)).trans y0, (HC9.out.cell (World.block_lt_of_cell? w8 _ y1)).trans y1, (HC9.out.cell (World.block_lt_of_cell? w8 _ y2)).trans y2, (HC9.out.cell (World.block_lt_of_cell? w8 _ y3)).trans y3, (HC9.out.cell (World.block_lt_of_cell? w8 _ y4)).trans y4, (HC9.out.cell (World.block_lt_of_cell? w8 _ e0)).trans e0, (HC9.out.cell (World.block_lt_of_cell? w8 _ e1)).trans e1, (HC9.out.cell (World.block_lt_of_cell? w8 _ e2)).trans e2, (HC9.out.cell (World.block_lt_of_cell? w8 _ e3)).trans e3, (HC9.out.cell (World.block_lt_of_cell? w8 _ e4)).trans e4⟩ (fun hHeld => ?_)
                  clear hK K
                  refine norm_ (a' := ?_) ?_ ?_
                  rotate_left
                  · show Act.put _ (some 75) _ = _
                    simp only [Act.put, List.setIfInBounds_toArray, List.set_cons_zero, List.set_cons_succ, i64_w, i32_w]
                    rfl
                  refine one_ (i := 10) (N := some 76) #[true, true, true, true, true, true, true, true, true, true, true, false, false] rfl rfl (by kernel_rfl) (by decide) (fun K hK => ?_)
                  refine goes_ Tryd.func24 (by kernel_rfl) rfl #[.agg #[.int .i64 rx.n0, .int .i64 rx.n1, .string rx.t, .slice rx.A rx.an rx.ac, .slice rx.B rx.bn rx.bc], .string kEnv, .agg #[.int .i64 r9.n0, .int .i64 r9.n1, .string r9.t, .slice r9.A r9.an r9.ac, .slice r9.B r9.bn r9.bc]] (by rfl) rfl rfl (by simp only [List.map_toArray, List.map_cons, List.map_nil]; rfl) ?_
                  with_reducible refine (WithC.use HWC.out (below_then HB8.out HB8.out.size HC9.out) HD9.out).mono ?_
                  rintro e w10 ⟨⟨r10, rfl, hd10⟩, hb10⟩
                  refine ⟨_, rfl, ?_⟩
                  have HC10 := Aside0.mk (below_then HC9.out HC9.out.size hb10)
                  have HD10 := Aside0.mk hd10
                  clear hb10 hd10
                  refine hK.out _ _ ⟨(HC10.out.cell (World.block_lt_of_cell? w8 _ o0)).trans o0, (HC10.out.cell (World.block_lt_of_cell? w8 _ o1)).trans o1, (HC10.out.cell (World.block_lt_of_cell? w8 _ o2)).trans o2, (HC10.out.cell (World.block_lt_of_cell? w8 _ o3)).trans o3, (HC10.out.cell (World.block_lt_of_cell? w8 _ o4)).trans o4, (HC10.out.cell (World.block_lt_of_cell? w8 _ hkc)).trans hkc, (HC10.out.cell (World.block_lt_of_cell? w8 _ y0)).trans y0, (HC10.out.cell (World.block_lt_of_cell? w8 _ y1)).trans y1, (HC10.out.cell (World.block_lt_of_cell? w8 _ y2)).trans y2, (HC10.out.cell (World.block_lt_of_cell? w8 _ y3)).trans y3, (HC10.out.cell (World.block_lt_of_cell? w8 _ y4)).trans y4, (HC10.out.cell (World.block_lt_of_cell? w8 _ e0)).trans e0, (HC10.out.cell (World.block_lt_of_cell? w8 _ e1)).trans e1, (HC10.out.cell (World.block_lt_of_cell? w8 _ e2)).trans e2, (HC10.out.cell (World.block_lt_of_cell? w8 _ e3)).trans e3, (HC10.out.cell (World.block_lt_of_cell? w8 _ e4)).trans e4⟩ (fun hHeld => ?_)
                  clear hK K
                  refine norm_ (a' := ?_) ?_ ?_
                  rotate_left
                  · show Act.put _ (some 76) _ = _
                    simp only [Act.put, List.setIfInBounds_toArray, List.set_cons_zero, List.set_cons_succ, i64_w, i32_w]
                    rfl
                  refine one_ (i := 11) (N := some 77) #[true, true, true, true, true, true, true, true, true, true, true, true, false] rfl rfl (by kernel_rfl) (by decide) (fun K hK => ?_)
                  refine goes_ Tryd.func24 (by kernel_rfl) rfl #[.agg #[.int .i64 rl.n0, .int .i64 rl.n1, .string rl.t, .slice (some adk) n rl.ac, .slice (some ade) n rl.bc], .string key, .agg #[.int .i64 r10.n0, .int .i64 r10.n1, .string r10.t, .slice r10.A r10.an r10.ac, .slice r10.B r10.bn r10.bc]] (by rfl) rfl rfl (by simp only [List.map_toArray, List.map_cons, List.map_nil]; rfl) ?_
                  with_reducible refine (WithC.use HWL.out (below_then HB8.out HB8.out.size HC10.out) HD10.out).mono ?_
                  rintro e w11 ⟨⟨r11, rfl, hd11⟩, hb11⟩
                  refine ⟨_, rfl, ?_⟩
                  have HC11 := Aside0.mk (below_then HC10.out HC10.out.size hb11)
                  have HD11 := Aside0.mk hd11
                  clear hb11 hd11
                  refine hK.out _ _ ⟨(HC11.out.cell (World.block_lt_of_cell? w8 _ o0)).trans o0, (HC11.out.cell (World.block_lt_of_cell? w8 _ o1)).trans o1, (HC11.out.cell (World.block_lt_of_cell? w8 _ o2)).trans o2, (HC11.out.cell (World.block_lt_of_cell? w8 _ o3)).trans o3, (HC11.out.cell (World.block_lt_of_cell? w8 _ o4)).trans o4, (HC11.out.cell (World.block_lt_of_cell? w8 _ hkc)).trans hkc, (HC11.out.cell (World.block_lt_of_cell? w8 _ y0)).trans y0, (HC11.out.cell (World.block_lt_of_cell? w8 _ y1)).trans y1, (HC11.out.cell (World.block_lt_of_cell? w8 _ y2)).trans y2, (HC11.out.cell (World.block_lt_of_cell? w8 _ y3)).trans y3, (HC11.out.cell (World.block_lt_of_cell? w8 _ y4)).trans y4, (HC11.out.cell (World.block_lt_of_cell? w8 _ e0)).trans e0, (HC11.out.cell (World.block_lt_of_cell? w8 _ e1)).trans e1, (HC11.out.cell (World.block_lt_of_cell? w8 _ e2)).trans e2, (HC11.out.cell (World.block_lt_of_cell? w8 _ e3)).trans e3, (HC11.out.cell (World.block_lt_of_cell? w8 _ e4)).trans e4⟩ (fun hHeld => ?_)
                  clear hK K
                  refine norm_ (a' := ?_) ?_ ?_
                  rotate_left
                  · show Act.put _ (some 77) _ = _
                    simp only [Act.put, List.setIfInBounds_toArray, List.set_cons_zero, List.set_cons_succ, i64_w, i32_w]
                    rfl
                  refine last_ (i := 12) (N := none) #[true, true, true, true, true, true, true, true, true, true, true, true, true] rfl rfl (by kernel_rfl) (by decide) (fun K hK => ?_)
                  refine store_step (cur := #[.int .i64 rl.n0, .int .i64 rl.n1, .string rl.t, .slice (some adk) n rl.ac, .slice (some ade) n rl.bc]) (e := 25) (g := gl) 25 _ _ (.agg #[.int .i64 r11.n0, .int .i64 r11.n1, .string r11.t, .slice r11.A r11.an r11.ac, .slice r11.B r11.bn r11.bc]) [.int .i64 r11.n0, .int .i64 r11.n1, .string r11.t, .slice r11.A r11.an r11.ac, .slice r11.B r11.bn r11.bc] (by rfl) rfl rfl rfl rfl ((HC11.out.block gl (blk_lt HOB8.out)).trans HOB8.out) rfl (show (Tryd.prog.info? 25).map (·.size) = some 5 by kernel_rfl) rfl (by simp [Value.oneCell']) ?_
                  intro w12 h12 hg12
                  have H12 := Aside0.mk h12
                  have HG12 := Aside0.mk hg12
                  clear h12 hg12
                  refine hK.out _ _ ?_
                  clear hK K
                  refine done_ (by kernel_rfl) ?_
                  
                  go_wp2
                  go_roundw
                  case rel =>
                    have hsz := HRL.out.size
                    have hs8 := HB8.out.size
                    have hsc := HC11.out.size
                    have hd12 : DeepP (fun k => k < w.heap.size ∨ gl < k) w12 (lS (envE l) s (i + 1)) r11 := by
                      have := HD11.out
                      rw [HFE.out, HNEXT.out] at this
                      exact this.kept (fun k hk hlt' => HG12.out.block k hlt' (fun e => by injection e with e; have := HGL.out; rcases hk with hk | hk <;> omega))
                    obtain ⟨_, _, _, _, h1, _, _, h2, _, _, _⟩ := hd12.rows
                    refine ⟨i + 1, r11, hlt, by go_num, ⟨?_, hd12, HOK.out HOY.out, ((HRL.out.bel.trans (HB8.out.mono (Nat.le_of_lt hsz))).trans (HC11.out.mono (by omega))).grown HG12.out (by omega) (fun k e => by injection e with e; omega), by have := HG12.out.size; omega⟩⟩
                    have := H12.out
                    rwa [h1, h2, lS_len, HN4.out, show (lS (envE l) s (i + 1)).f3.length = n from HN.out.symm] at this
                  case measure => first | exact msF hlt | (rw [wk]; exact msF hlt)
          · obtain rfl : i = n := by omega
            have hlt0 : ¬ ((i : Int) < (i : Int)) := Int.lt_irrefl _
            have hx := (HRL.out.bel.block w.heap.size (by have := HGL.out; omega)).trans HX3.out
            have hre := (HRL.out.bel.block (w.heap.size + 1) (by have := HGL.out; omega)).trans HRE3.out
            have HREB := Aside0.mk hre
            have x0 : wb.cell? ⟨w.heap.size, 0, none⟩ = some (.int .i64 r0.n0) := (blk_cell hx 0).trans rfl
            have x1 : wb.cell? ⟨w.heap.size, 1, none⟩ = some (.int .i64 r0.n1) := (blk_cell hx 1).trans rfl
            have x2 : wb.cell? ⟨w.heap.size, 2, none⟩ = some (.string r0.t) := (blk_cell hx 2).trans rfl
            have x3 : wb.cell? ⟨w.heap.size, 3, none⟩ = some (.slice r0.A r0.an r0.ac) := (blk_cell hx 3).trans rfl
            have x4 : wb.cell? ⟨w.heap.size, 4, none⟩ = some (.slice r0.B r0.bn r0.bc) := (blk_cell hx 4).trans rfl
            obtain ⟨_, -, -, -, hran, -, -, hrbn, -, -, -⟩ := HRL.out.deep.rows
            have hall : ∀ y ∈ s.f4, OkSrv y := by have := HRL.out.ok; rwa [← HN4.out, List.take_length] at this
            have hend := HEND.out wb rl HBW.out HRL.out.size HRL.out.deep hall
            rw [show rl.an = i from hran.trans HN.out.symm, show rl.bn = i by rw [hrbn, lS_len]; exact HN4.out] at hend
            have HE := Lib.hid hend
            clear hx hre hend hall hran hrbn
            go_wp2_with fail
            refine HE.out.mono ?_
            clear x0 x1 x2 x3 x4 o0 o1 o2 o3 o4
            rintro e w9 ⟨⟨r', rfl, hd', hok⟩, hb9⟩
            have hre := blk_below HREB.out hb9
            have n0 : w9.cell? ⟨w.heap.size + 1, 0, none⟩ = some (.int .i64 0) := (blk_cell hre 0).trans rfl
            have n1 : w9.cell? ⟨w.heap.size + 1, 1, none⟩ = some (.int .i64 0) := (blk_cell hre 1).trans rfl
            have n2 : w9.cell? ⟨w.heap.size + 1, 2, none⟩ = some (.string ⟨#[]⟩) := (blk_cell hre 2).trans rfl
            have n3 : w9.cell? ⟨w.heap.size + 1, 3, none⟩ = some (.slice none 0 0) := (blk_cell hre 3).trans rfl
            have n4 : w9.cell? ⟨w.heap.size + 1, 4, none⟩ = some (.slice none 0 0) := (blk_cell hre 4).trans rfl
            have f0 := blk_frozen hre 0
            have f1 := blk_frozen hre 1
            have f2 := blk_frozen hre 2
            have f3 := blk_frozen hre 3
            have f4 := blk_frozen hre 4
            have HD9 := Aside0.mk hd'
            have HOK9 := Lib.hid hok
            have HB9 : Aside0 (Below w.heap.size w w9) := ⟨HBW.out.trans (hb9.mono HBW.out.size)⟩
            clear hd' hok hb9 hre
            go_wp2
            refine bodyPost_ret (v := .tuple #[.agg #[.int .i64 r'.n0, .int .i64 r'.n1, .string r'.t, .slice r'.A r'.an r'.ac, .slice r'.B r'.bn r'.bc], .bool true]) (by simp [results, Tryd.results16, go_sem, *]) rfl ?_
            exact ⟨r', true, rfl, below5 HB9.out _ (Nat.le_succ _) _ _ _ _ _, fun _ => ⟨HOK9.out, HNAMES.out, (HD9.out.kept (fun k hk _ => far5 (by have := HGL.out; rcases hk with hk | hk <;> omega) _ _ _ _ _)).parts⟩⟩
end Go.Proofs.YtgeamhmenmomhaaDoor.A
