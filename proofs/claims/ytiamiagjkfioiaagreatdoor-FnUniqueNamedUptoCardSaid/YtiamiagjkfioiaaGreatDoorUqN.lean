/- Joined texts. -/
import Derived.Test.YtiamiagjkfioiaaGreatDoorDeepM
import Derived.Test.YtiamiagjkfioiaaGreatDoorFitM
import Derived.Test.YtiamiagjkfioiaaGreatDoorPTx4
import Derived.Test.YtiamiagjkfioiaaGreatDoorMg
import Derived.Test.YtiamiagjkfioiaaGreatDoorUqS
import Derived.Test.YtiamiagjkfioiaaGreatDoorUqE
/- Walks and facts on values with their cells: spec.Get, spec.With of any key, laws.zzFits1, spec.Fit (printed by gen_need.py). -/
namespace Go.Proofs.YtiamiagjkfioiaaGreatDoor.A
set_option linter.unusedVariables false
set_option linter.unusedSimpArgs false
set_option linter.unusedSectionVars false
open Go.RowKit Go.Proofs.YtiamiagjkfioiaaGreatDoorW.PrintWords Go.Proofs.YtiamiagjkfioiaaGreatDoorW.PrintLast Go.Proofs.YtiamiagjkfioiaaGreatDoorW.PrintMore Go.Proofs.YtiamiagjkfioiaaGreatDoor.PT Go.Proofs.YtiamiagjkfioiaaGreatDoor.L Go.Proofs.YtiamiagjkfioiaaGreatDoor.SM

theorem wrapT1 (i : Nat) (h : i < 4611686018427387904) : wrap64 ((i : Int) + 1) = ((i + 1 : Nat) : Int) := by unfold wrap64; omega
theorem fits2_loop (l : List ByteArray) (hb : l.length ≤ 2147483647) : ∀ d j, j + d = l.length → ∃ r, laws_zzFits2.l0 (d + 1) l (l.length : Int) (j : Int) = some r
  | 0, j, hj => ⟨true, by simp only [laws_zzFits2.l0]; rw [if_neg (by omega)]⟩
  | d + 1, j, hj => by
    obtain ⟨r, hr⟩ := fits2_loop l hb d (j + 1) (by omega)
    rw [laws_zzFits2.l0, if_pos (by omega), if_pos (by omega), if_pos (by omega)]
    split
    · exact ⟨_, rfl⟩
    · exact ⟨r, by rw [wrapT1 _ (by omega)]; exact hr⟩
/-- where a key stands among rising keys -/
theorem place_at {ks : List ByteArray} (ha : Ord.Asc id ks) {i : Nat} (hi : i < ks.length) : placeN (ks[i]'hi) ks = i ∧ placeB (ks[i]'hi) ks = true := by
  induction ks generalizing i with
  | nil => cases hi
  | cons y l ih =>
    have h1 := (List.pairwise_cons.1 ha).1
    have h2 := (List.pairwise_cons.1 ha).2
    rcases i with _ | i
    · have e : Op.bytesLess y.toList y.toList = false := Ord.lt_irrefl y
      show placeN y (y :: l) = 0 ∧ placeB y (y :: l) = true
      simp [placeN, placeB, e]
    · have hi' : i < l.length := by simpa using hi
      have e : Op.bytesLess y.toList (l[i]'hi').toList = true := h1 _ (List.getElem_mem hi')
      obtain ⟨h3, h4⟩ := ih h2 hi'
      show placeN (l[i]'hi') (y :: l) = i + 1 ∧ placeB (l[i]'hi') (y :: l) = true
      simp [placeN, placeB, e, h3, h4]
theorem place_in {key : ByteArray} : ∀ {ks : List ByteArray}, placeB key ks = true → ∃ h : placeN key ks < ks.length, ks[placeN key ks]'h = key
  | [], h => by cases h
  | y :: l, h => by
    unfold placeB at h
    split at h
    · rename_i c
      obtain ⟨h1, h2⟩ := place_in (ks := l) h
      have e : placeN key (y :: l) = placeN key l + 1 := by simp [placeN, c]
      exact ⟨by rw [e]; simpa using h1, by simp only [e]; simpa using h2⟩
    · rename_i c
      have e : placeN key (y :: l) = 0 := by simp [placeN, c]
      exact ⟨by rw [e]; simp, by simp only [e]; exact Ord.toList_inj (by simpa using h)⟩
theorem place_not {key : ByteArray} {ks : List ByteArray} (ha : Ord.Asc id ks) (h : placeB key ks = false) : key ∉ ks := fun hk => by
  obtain ⟨i, hi, rfl⟩ := List.mem_iff_getElem.1 hk
  rw [(place_at ha hi).2] at h
  cases h
theorem at_R {w : World} {B : Option Addr} {n : Nat} {rs : List RV} (h : Kd.C kR w B n rs) (i : Nat) (hi : i < n) (hr : i < rs.length) : ∃ ad, B = some ad ∧ w.cell? (ad.add (i * 5)) = some (.int .i64 (rs[i]'hr).n0) ∧ w.cell? ⟨(ad.add (i * 5)).block, (ad.add (i * 5)).off + 1, none⟩ = some (.int .i64 (rs[i]'hr).n1) ∧ w.cell? ⟨(ad.add (i * 5)).block, (ad.add (i * 5)).off + 2, none⟩ = some (.string (rs[i]'hr).t) ∧ w.cell? ⟨(ad.add (i * 5)).block, (ad.add (i * 5)).off + 3, none⟩ = some (.slice (rs[i]'hr).A (rs[i]'hr).an (rs[i]'hr).ac) ∧ w.cell? ⟨(ad.add (i * 5)).block, (ad.add (i * 5)).off + 4, none⟩ = some (.slice (rs[i]'hr).B (rs[i]'hr).bn (rs[i]'hr).bc) := by
  obtain ⟨ad, c, e, _, hK, hc0⟩ := Kd.C_get h RV.zero (i : Int) (by omega) (by omega)
  have hc : ∀ j u, c[j]? = some u → w.cell? (ad.add (i * 5 + j)) = some u := fun j u h => by
    have h2 := hc0 j u h
    simp only [Int.toNat_natCast] at h2
    exact h2
  have hq : (rs.getD i RV.zero) = rs[i]'hr := by simp [List.getD_eq_getElem?_getD, List.getElem?_eq_getElem hr]
  have hK' : c = (rs[i]'hr).cs := by
    have h2 : c = (rs.getD ((i : Int)).toNat RV.zero).cs := hK
    rw [Int.toNat_natCast, hq] at h2
    exact h2
  subst hK'
  exact ⟨ad, e, hc 0 _ rfl, by rw [← add_field _ _ 1 (by omega)]; exact hc 1 _ rfl, by rw [← add_field _ _ 2 (by omega)]; exact hc 2 _ rfl, by rw [← add_field _ _ 3 (by omega)]; exact hc 3 _ rfl, by rw [← add_field _ _ 4 (by omega)]; exact hc 4 _ rfl⟩
theorem fineS_map {x : SV} (h : FineS x) (h5 : x.f0 = 5) : x = ⟨5, 0, be, x.f3, x.f4⟩ ∧ Ord.Asc id x.f3 ∧ x.f4.length = x.f3.length ∧ x.f4.length ≤ 1099511627776 ∧ ∀ (i : Nat) (hi : i < x.f4.length), FineS (x.f4[i]'hi) := by
  cases h with
  | map ha hl hb he => exact ⟨rfl, ha, hl, hb, he⟩
  | nil => cases h5
  | bool _ => cases h5
  | int _ => cases h5
  | text _ => cases h5
  | list _ _ => cases h5
theorem All2.set {α β : Type} {R : α → β → Prop} {xs : List α} {ys : List β} (h : All2 R xs ys) (j : Nat) {x : α} {y : β} (hx : R x y) : All2 R (xs.set j x) (ys.set j y) := by
  refine ⟨by simp [h.1], fun i h1 h2 => ?_⟩
  rw [List.length_set] at h1 h2
  by_cases e : j = i
  · subst e; simpa using hx
  · rw [List.getElem_set_ne e, List.getElem_set_ne e]; exact h.2 i h1 h2
theorem withL_len {α : Type} (key : ByteArray) (ks : List ByteArray) (vs : List α) (x : α) (h : vs.length = ks.length) : (withL key ks vs x).length = (withKs key ks).length := by
  have := placeN_le key ks
  unfold withKs withL
  split
  · rw [List.length_set, h]
  · simp only [List.length_append, List.length_take, List.length_cons, List.length_drop]
    omega
end Go.Proofs.YtiamiagjkfioiaaGreatDoor.A
/- spec.M of one pair, laws.mergeOne; spec.Says of the model of one environment answers (printed by gen_uqm.py). -/
namespace Go.Proofs.YtiamiagjkfioiaaGreatDoor.A
set_option linter.unusedVariables false
set_option linter.unusedSimpArgs false
set_option linter.unusedSectionVars false
open Go.RowKit Go.Proofs.YtiamiagjkfioiaaGreatDoorW.PrintWords Go.Proofs.YtiamiagjkfioiaaGreatDoorW.PrintLast Go.Proofs.YtiamiagjkfioiaaGreatDoorW.PrintMore Go.Proofs.YtiamiagjkfioiaaGreatDoor.PT Go.Proofs.YtiamiagjkfioiaaGreatDoor.L Go.Proofs.YtiamiagjkfioiaaGreatDoor.SM

def oneS (k : ByteArray) (x : SV) : SV := ⟨5, 0, be, [k], [x]⟩
def textsS (ss : List ByteArray) : SV := ⟨4, 0, be, [], ss.map tS⟩
theorem fineS_one {k : ByteArray} {x : SV} (h : FineS x) : FineS (oneS k x) := .map (List.pairwise_singleton _ _) rfl (by show 1 ≤ _; omega) (fun i hi => by
  have : i = 0 := by simp at hi; exact hi
  subst this; exact h)
theorem fineS_texts {ss : List ByteArray} (h : ss.length ≤ 1099511627776) : FineS (textsS ss) := .list (by rw [List.length_map]; exact h) (fun i hi => by rw [List.getElem_map]; exact .text _)
theorem far5_ {w : World} {g k : Nat} (hk : k ≠ g) (u0 u1 u2 u3 u4 : Value) :
    (((((w.setCell ⟨g, 0, none⟩ u0).setCell ⟨g, 1, none⟩ u1).setCell ⟨g, 2, none⟩ u2).setCell ⟨g, 3, none⟩ u3).setCell ⟨g, 4, none⟩ u4).heap[k]? = w.heap[k]? := by
  rw [Below.heap_setCell _ _ _ _ (by show k ≠ g; exact hk), Below.heap_setCell _ _ _ _ (by show k ≠ g; exact hk), Below.heap_setCell _ _ _ _ (by show k ≠ g; exact hk), Below.heap_setCell _ _ _ _ (by show k ≠ g; exact hk), Below.heap_setCell _ _ _ _ (by show k ≠ g; exact hk)]
theorem M_one {P : Nat → Prop} {w : World} {k : ByteArray} {x : SV} {r : RV} (hd : DeepP P w x r) (hP : ∀ n, w.heap.size ≤ n → P n) (ad : Addr) (h0 : w.cell? (ad.add 0) = some (.iface 9 (.string k))) (h1 : w.cell? (ad.add 1) = some (.iface 26 r.val)) :
    Calls Tryz.prog 9 #[.slice (some ad) 2 2] w fun e w' => (∃ r' : RV, e = .returned r'.val ∧ DeepP P w' (oneS k x) r') ∧ Below w.heap.size w w' := by
  refine (spec_M [(k, r)] ad 2 w (fun j hj => ?_) rfl (show 1 ≤ _ by omega)).mono ?_
  · have : j = 0 := by simp at hj; exact hj
    subst this
    exact ⟨h0, h1⟩
  · have e1 : (MMq [(k, r)]).1 = [k] := rfl
    have e2 : (MMq [(k, r)]).2 = [r] := rfl
    rw [e1, e2]
    rintro e w' ⟨A, c, A', c', rfl, h3, g3, h4, g4, f3, f4, hbl⟩
    refine ⟨⟨⟨5, 0, be, A, 1, c, A', 1, c'⟩, rfl, ?_⟩, hbl⟩
    exact .mk (rs := [r]) rfl rfl rfl rfl h3 g3 (fun _ ad e => hP _ (f3 ad e)) rfl h4 rfl g4 (fun _ ad e => hP _ (f4 ad e)) (fun i q1 q2 => by
      have : i = 0 := by simp at q2; exact q2
      subst this
      exact hd.below_ hbl)
set_option maxHeartbeats 2000000 in
set_option maxRecDepth 100000 in
theorem laws_mergeOne {P : Nat → Prop} {w : World} {x : SV} {r : RV} (hd : DeepP P w x r) (hP : ∀ n, w.heap.size ≤ n → P n) :
    Calls Tryz.prog 8 #[.agg #[.int .i64 r.n0, .int .i64 r.n1, .string r.t, .slice r.A r.an r.ac, .slice r.B r.bn r.bc]] w fun e w' => (∃ r' : RV, e = .returned r'.val ∧ DeepP P w' (oneS kServ (oneS kS1 x)) r') ∧ Below w.heap.size w w' := by
  obtain ⟨W0, hW0⟩ : ∃ W0 : World, W0 = (w.alloc (Obj.cells #[.int .i64 r.n0, .int .i64 r.n1, .string r.t, .slice r.A r.an r.ac, .slice r.B r.bn r.bc] 26)).alloc (Obj.cells #[.int .i64 0, .int .i64 0, .string ⟨#[]⟩, .slice none 0 0, .slice none 0 0] 26) := ⟨_, rfl⟩
  have hb0 : Below w.heap.size w W0 := by rw [hW0]; exact ((Below.refl _ _).alloc (Nat.le_refl _) _).alloc (by simp) _
  have hbx : W0.heap[w.heap.size]? = some (.cells #[.int .i64 r.n0, .int .i64 r.n1, .string r.t, .slice r.A r.an r.ac, .slice r.B r.bn r.bc] 26 (0, 0)) := by rw [hW0]; exact heap_oldI (new_atI rfl)
  have HRE : Aside0 (W0.heap[w.heap.size + 1]? = some (.cells #[.int .i64 0, .int .i64 0, .string ⟨#[]⟩, .slice none 0 0, .slice none 0 0] 26 (0, 0))) := ⟨by rw [hW0]; exact new_atI (by simp)⟩
  have HS0 : Hid (W0.heap.size = w.heap.size + 2) := Lib.hid (by rw [hW0]; simp)
  have HD0 : Aside0 (DeepP (fun n => P n ∧ n ≠ w.heap.size + 1) W0 x r) := ⟨(hd.imp (fun n hn hlt => ⟨hn, by omega⟩)).below_ hb0⟩
  have HP0 : Hid (∀ n, W0.heap.size ≤ n → P n ∧ n ≠ w.heap.size + 1) := Lib.hid (fun n hn => by have h1 := HS0.out; exact ⟨hP n (by omega), by omega⟩)
  have HB0 := Aside0.mk hb0
  have HW0 := Lib.hid hW0
  have m0 : W0.cell? ⟨w.heap.size, 0, none⟩ = some (.int .i64 r.n0) := (blk_cell hbx 0).trans rfl
  have m1 : W0.cell? ⟨w.heap.size, 1, none⟩ = some (.int .i64 r.n1) := (blk_cell hbx 1).trans rfl
  have m2 : W0.cell? ⟨w.heap.size, 2, none⟩ = some (.string r.t) := (blk_cell hbx 2).trans rfl
  have m3 : W0.cell? ⟨w.heap.size, 3, none⟩ = some (.slice r.A r.an r.ac) := (blk_cell hbx 3).trans rfl
  have m4 : W0.cell? ⟨w.heap.size, 4, none⟩ = some (.slice r.B r.bn r.bc) := (blk_cell hbx 4).trans rfl
  clear hb0 hW0 hbx hd hP
  go_enter Tryz.func8, Tryz.ntmps8
  go_upto_region 1 with fail
  rw [← HW0.out]
  go_wp2_with fail
  obtain ⟨W1, hW1⟩ : ∃ W1 : World, W1 = W0.alloc (Obj.cells #[.iface 9 (.string kS1), .iface 26 (.agg #[.int .i64 r.n0, .int .i64 r.n1, .string r.t, .slice r.A r.an r.ac, .slice r.B r.bn r.bc])] 20) := ⟨_, rfl⟩
  have hb1 : Below W0.heap.size W0 W1 := by rw [hW1]; exact (Below.refl _ _).alloc (Nat.le_refl _) _
  have hg1 : W1.heap[W0.heap.size]? = some (.cells #[.iface 9 (.string kS1), .iface 26 (.agg #[.int .i64 r.n0, .int .i64 r.n1, .string r.t, .slice r.A r.an r.ac, .slice r.B r.bn r.bc])] 20 (0, 0)) := by rw [hW1]; exact new_atI rfl
  have HM := Lib.hid (M_one (k := kS1) (HD0.out.below_ hb1) (fun n hn => HP0.out n (Nat.le_trans hb1.size hn)) ⟨W0.heap.size, 0, none⟩ ((blk_cell hg1 0).trans rfl) ((blk_cell hg1 1).trans rfl))
  have HB1 := Aside0.mk hb1
  have HW1 := Lib.hid hW1
  clear hb1 hg1 hW1 m0 m1 m2 m3 m4
  rw [← HW1.out]
  refine HM.out.mono ?_
  rintro e w2 ⟨⟨r2, rfl, hd2⟩, hb2⟩
  have HD2 := Aside0.mk hd2
  have HB2 := Aside0.mk (below_then HB1.out HB1.out.size hb2)
  clear hd2 hb2
  unfold RV.val
  go_wp2_with fail
  obtain ⟨W3, hW3⟩ : ∃ W3 : World, W3 = w2.alloc (Obj.cells #[.iface 9 (.string kServ), .iface 26 (.agg #[.int .i64 r2.n0, .int .i64 r2.n1, .string r2.t, .slice r2.A r2.an r2.ac, .slice r2.B r2.bn r2.bc])] 20) := ⟨_, rfl⟩
  have hb3 : Below w2.heap.size w2 W3 := by rw [hW3]; exact (Below.refl _ _).alloc (Nat.le_refl _) _
  have hg3 : W3.heap[w2.heap.size]? = some (.cells #[.iface 9 (.string kServ), .iface 26 (.agg #[.int .i64 r2.n0, .int .i64 r2.n1, .string r2.t, .slice r2.A r2.an r2.ac, .slice r2.B r2.bn r2.bc])] 20 (0, 0)) := by rw [hW3]; exact new_atI rfl
  have HM3 := Lib.hid (M_one (k := kServ) (HD2.out.below_ hb3) (fun n hn => HP0.out n (Nat.le_trans HB2.out.size (Nat.le_trans hb3.size hn))) ⟨w2.heap.size, 0, none⟩ ((blk_cell hg3 0).trans rfl) ((blk_cell hg3 1).trans rfl))
  have HB3 := Aside0.mk (below_then HB2.out HB2.out.size hb3)
  have HW3 := Lib.hid hW3
  clear hb3 hg3 hW3
  rw [← HW3.out]
  refine HM3.out.mono ?_
  rintro e w4 ⟨⟨r4, rfl, hd4⟩, hb4⟩
  have HD4 := Aside0.mk hd4
  have HB4 := Aside0.mk (below_then HB3.out HB3.out.size hb4)
  have hre := blk_below HRE.out HB4.out
  have n0 : w4.cell? ⟨w.heap.size + 1, 0, none⟩ = some (.int .i64 0) := (blk_cell hre 0).trans rfl
  have n1 : w4.cell? ⟨w.heap.size + 1, 1, none⟩ = some (.int .i64 0) := (blk_cell hre 1).trans rfl
  have n2 : w4.cell? ⟨w.heap.size + 1, 2, none⟩ = some (.string ⟨#[]⟩) := (blk_cell hre 2).trans rfl
  have n3 : w4.cell? ⟨w.heap.size + 1, 3, none⟩ = some (.slice none 0 0) := (blk_cell hre 3).trans rfl
  have n4 : w4.cell? ⟨w.heap.size + 1, 4, none⟩ = some (.slice none 0 0) := (blk_cell hre 4).trans rfl
  have f0 := blk_frozen hre 0
  have f1 := blk_frozen hre 1
  have f2 := blk_frozen hre 2
  have f3 := blk_frozen hre 3
  have f4 := blk_frozen hre 4
  clear hd4 hb4 hre
  unfold RV.val
  go_wp2
  refine bodyPost_ret (v := .agg #[.int .i64 r4.n0, .int .i64 r4.n1, .string r4.t, .slice r4.A r4.an r4.ac, .slice r4.B r4.bn r4.bc]) (by simp [results, Tryz.results8, go_sem, *]) rfl ?_
  refine ⟨⟨r4, rfl, (HD4.out.kept (fun n hn _ => ?_)).imp (fun n hn _ => hn.1)⟩, below5 (HB0.out.trans (HB4.out.mono HB0.out.size)) _ (Nat.le_succ _) _ _ _ _ _⟩
  exact far5_ hn.2 _ _ _ _ _
theorem C_lit {w : World} {g : Nat} {t : TypeId} (l : List ByteArray) (h : w.heap[g]? = some (.cells (l.map Value.string).toArray t (0, 0))) (hl : l.length ≤ 1000) : Kd.C Kd.string w (some ⟨g, 0, none⟩) l.length l := by
  refine ⟨rfl, by omega, fun _ => ⟨_, rfl, fun j q hj => ⟨[.string q], rfl, rfl, fun i u hi => ?_⟩⟩⟩
  have hi0 : i = 0 ∧ u = .string q := by
    cases i with
    | zero => injection hi with hi; exact ⟨rfl, hi.symm⟩
    | succ i => simp at hi
  obtain ⟨rfl, rfl⟩ := hi0
  show w.cell? (Addr.add ⟨g, 0, none⟩ (j * 1 + 0)) = _
  rw [Nat.mul_one, Nat.add_zero]
  have : w.cell? (Addr.add ⟨g, 0, none⟩ j) = w.cell? ⟨g, j, none⟩ := by
    unfold Addr.add
    split
    · rename_i e; subst e; rfl
    · simp
  rw [this]
  have h2 := blk_cell h j
  rw [h2]
  simp [List.getElem?_map, hj]
theorem sayIn_lit {w : World} (s : ByteArray) (l : List ByteArray) (b : Bool) (t : TypeId) (hl : l.length ≤ 1000) (hb : spec_sayIn.f 100 s l = some b) : Calls Tryz.prog 55 #[.string s, .slice (some ⟨w.heap.size, 0, none⟩) l.length l.length] (w.alloc (Obj.cells (l.map Value.string).toArray t)) fun e w' => e = .returned (.bool b) ∧ Below w.heap.size w w' :=
  (spec_sayIn.calls 100 s (some ⟨w.heap.size, 0, none⟩) l.length l b _ (C_lit l (new_atI rfl) hl) (Nat.le_refl _) hb).mono fun e w' h => ⟨h.1, below_then ((Below.refl _ _).alloc (Nat.le_refl _) _) (by simp) h.2.below⟩
theorem spec_sayPairs (ss : List ByteArray) (hl : ss.length ≤ 1048576) (hs : ∀ s ∈ ss, s.size ≤ 1099511627776) {w : World} {v : Value} (hv : MadeS (textsS ss) w v) : Calls Tryz.prog 60 #[v] w fun e w' => (∃ b, e = .returned (.bool b)) ∧ Below w.heap.size w w' := by
  obtain ⟨A3, c3, A4, c4, rfl, h3, g3, h4, g4⟩ := hv
  obtain ⟨K, b, hb⟩ := (pairsF ss hl hs).get
  exact (spec_sayPairs.calls K 4 0 be A3 c3 [] A4 c4 (ss.map tS) b w g3 h3 g4 h4 hb).mono fun e w' h => ⟨⟨b, h.1⟩, h.2⟩
set_option maxHeartbeats 2000000 in
set_option maxRecDepth 100000 in
theorem spec_sayAttr (ss : List ByteArray) (hl : ss.length ≤ 1048576) (hs : ∀ s ∈ ss, s.size ≤ 1099511627776) {w : World} {v : Value} (hv : MadeS (textsS ss) w v) : Calls Tryz.prog 45 #[.string kEnvi, v] w fun e w' => (∃ b, e = .returned (.bool b)) ∧ Below w.heap.size w w' := by
  obtain ⟨A3, c3, A4, c4, rfl, h3, g3, h4, g4⟩ := hv
  have hn : (textsS ss).f4.length = ss.length := by simp [textsS]
  have he : cellsS (textsS ss) A3 c3 A4 c4 = .agg #[.int .i64 4, .int .i64 0, .string ⟨#[]⟩, .slice A3 0 c3, .slice A4 ss.length c4] := by unfold cellsS; rw [hn]; rfl
  have hm : MadeS (textsS ss) w (.agg #[.int .i64 4, .int .i64 0, .string ⟨#[]⟩, .slice A3 0 c3, .slice A4 ss.length c4]) := by rw [← he]; exact ⟨A3, c3, A4, c4, rfl, h3, g3, h4, g4⟩
  rw [he]
  obtain ⟨W0, hW0⟩ : ∃ W0 : World, W0 = w.alloc (Obj.cells #[.int .i64 4, .int .i64 0, .string ⟨#[]⟩, .slice A3 0 c3, .slice A4 ss.length c4] 26) := ⟨_, rfl⟩
  have hb0 : Below w.heap.size w W0 := by rw [hW0]; exact (Below.refl _ _).alloc (Nat.le_refl _) _
  have HBX : Aside0 (W0.heap[w.heap.size]? = some (.cells #[.int .i64 4, .int .i64 0, .string ⟨#[]⟩, .slice A3 0 c3, .slice A4 ss.length c4] 26 (0, 0))) := ⟨by rw [hW0]; exact new_atI rfl⟩
  have HPR := Lib.hid (fun (W : World) (hW : Below W0.heap.size W0 W) => spec_sayPairs ss hl hs (hm.below_ (hb0.trans (hW.mono hb0.size))))
  have HB0 := Aside0.mk hb0
  have HW0 := Lib.hid hW0
  clear hm he hn h3 g3 h4 g4 hb0 hW0 hl hs
  go_enter Tryz.func45, Tryz.ntmps45
  go_upto_region 1 with fail
  rw [← HW0.out]
  go_wp2_with fail
  refine (sayIn_lit (w := W0) kEnvi [⟨#[105, 109, 97, 103, 101]⟩, ⟨#[117, 115, 101, 114]⟩, ⟨#[104, 111, 115, 116, 110, 97, 109, 101]⟩, ⟨#[100, 111, 109, 97, 105, 110, 110, 97, 109, 101]⟩, ⟨#[119, 111, 114, 107, 105, 110, 103, 95, 100, 105, 114]⟩, ⟨#[99, 111, 110, 116, 97, 105, 110, 101, 114, 95, 110, 97, 109, 101]⟩, ⟨#[114, 101, 115, 116, 97, 114, 116]⟩, ⟨#[112, 108, 97, 116, 102, 111, 114, 109]⟩, ⟨#[115, 116, 111, 112, 95, 115, 105, 103, 110, 97, 108]⟩, ⟨#[114, 117, 110, 116, 105, 109, 101]⟩] false 9 (by decide) (by kernel_rfl)).mono ?_
  rintro e w1 ⟨rfl, hb1⟩
  have HB1 := Aside0.mk hb1
  clear hb1
  go_wp2_with fail
  refine (sayIn_lit (w := w1) kEnvi [⟨#[112, 114, 105, 118, 105, 108, 101, 103, 101, 100]⟩, ⟨#[114, 101, 97, 100, 95, 111, 110, 108, 121]⟩, ⟨#[105, 110, 105, 116]⟩, ⟨#[116, 116, 121]⟩, ⟨#[115, 116, 100, 105, 110, 95, 111, 112, 101, 110]⟩] false 9 (by decide) (by kernel_rfl)).mono ?_
  rintro e w2 ⟨rfl, hb2⟩
  have HB2 := Aside0.mk (below_then HB1.out HB1.out.size hb2)
  clear hb2
  go_wp2_with fail
  refine (sayIn_lit (w := w2) kEnvi [⟨#[99, 97, 112, 95, 97, 100, 100]⟩, ⟨#[99, 97, 112, 95, 100, 114, 111, 112]⟩, ⟨#[100, 110, 115]⟩, ⟨#[100, 110, 115, 95, 115, 101, 97, 114, 99, 104]⟩, ⟨#[100, 110, 115, 95, 111, 112, 116]⟩, ⟨#[115, 101, 99, 117, 114, 105, 116, 121, 95, 111, 112, 116]⟩, ⟨#[115, 101, 99, 114, 101, 116, 115]⟩, ⟨#[99, 111, 110, 102, 105, 103, 115]⟩] false 9 (by decide) (by kernel_rfl)).mono ?_
  rintro e w3 ⟨rfl, hb3⟩
  have HB3 := Aside0.mk (below_then HB2.out HB2.out.size hb3)
  clear hb3
  go_wp2_with fail
  refine (spec_sayNamed.calls 100 kEnvi true w3 (by kernel_rfl)).mono ?_
  rintro e w4 ⟨rfl, hb4⟩
  have HB4 := Aside0.mk (below_then HB3.out HB3.out.size hb4)
  have hx := blk_below HBX.out HB4.out
  have x0 : w4.cell? ⟨w.heap.size, 0, none⟩ = some (.int .i64 4) := (blk_cell hx 0).trans rfl
  have x1 : w4.cell? ⟨w.heap.size, 1, none⟩ = some (.int .i64 0) := (blk_cell hx 1).trans rfl
  have x2 : w4.cell? ⟨w.heap.size, 2, none⟩ = some (.string ⟨#[]⟩) := (blk_cell hx 2).trans rfl
  have x3 : w4.cell? ⟨w.heap.size, 3, none⟩ = some (.slice A3 0 c3) := (blk_cell hx 3).trans rfl
  have x4 : w4.cell? ⟨w.heap.size, 4, none⟩ = some (.slice A4 ss.length c4) := (blk_cell hx 4).trans rfl
  clear hb4 hx
  go_wp2_with fail
  refine (HPR.out w4 HB4.out).mono ?_
  clear x0 x1 x2 x3 x4
  rintro e w5 ⟨⟨b, rfl⟩, hb5⟩
  have HB5 := Aside0.mk (below_then HB4.out HB4.out.size hb5)
  clear hb5
  go_wp2
  go_ret
  exact ⟨⟨b, rfl⟩, HB0.out.trans (HB5.out.mono HB0.out.size)⟩
end Go.Proofs.YtiamiagjkfioiaaGreatDoor.A
/- spec.SaysService, spec.Says of a model of one service answer; impl.Unicity (printed by gen_uqn.py). -/
namespace Go.Proofs.YtiamiagjkfioiaaGreatDoor.A
set_option linter.unusedVariables false
set_option linter.unusedSimpArgs false
set_option linter.unusedSectionVars false
open Go.RowKit Go.Proofs.YtiamiagjkfioiaaGreatDoorW.PrintWords Go.Proofs.YtiamiagjkfioiaaGreatDoorW.PrintLast Go.Proofs.YtiamiagjkfioiaaGreatDoorW.PrintMore Go.Proofs.YtiamiagjkfioiaaGreatDoor.PT Go.Proofs.YtiamiagjkfioiaaGreatDoor.L Go.Proofs.YtiamiagjkfioiaaGreatDoor.SM

set_option maxHeartbeats 4000000 in
set_option maxRecDepth 100000 in
theorem spec_SaysService {P : Nat → Prop} {w : World} {x : SV} {r : RV} (hd : DeepP P w x r) (hle : x.f3.length ≤ x.f4.length) (hnb : x.f3.length ≤ 1048576)
    (hat : ∀ (i : Nat) (h3 : i < x.f3.length) (h4 : i < x.f4.length) (W : World) (u : Value), MadeS (x.f4[i]'h4) W u → Calls Tryz.prog 45 #[.string (x.f3[i]'h3), u] W fun e w' => (∃ b, e = .returned (.bool b)) ∧ Below W.heap.size W w') :
    Calls Tryz.prog 29 #[.agg #[.int .i64 r.n0, .int .i64 r.n1, .string r.t, .slice r.A r.an r.ac, .slice r.B r.bn r.bc]] w fun e w' => (∃ b, e = .returned (.bool b)) ∧ Below w.heap.size w w' := by
  obtain ⟨rs, es0, -, -, esn, -, esk, esm, -, esr, esa⟩ := hd.rows
  obtain ⟨s0, s1, st, sA, n, sc, sB, m, sd⟩ := r
  dsimp only at es0 esn esk esm esr ⊢
  obtain ⟨W0, hW0⟩ : ∃ W0 : World, W0 = w.alloc (Obj.cells #[.int .i64 s0, .int .i64 s1, .string st, .slice sA n sc, .slice sB m sd] 26) := ⟨_, rfl⟩
  have hb0 : Below w.heap.size w W0 := by rw [hW0]; exact (Below.refl _ _).alloc (Nat.le_refl _) _
  have HBX : Aside0 (W0.heap[w.heap.size]? = some (.cells #[.int .i64 s0, .int .i64 s1, .string st, .slice sA n sc, .slice sB m sd] 26 (0, 0))) := ⟨by rw [hW0]; exact new_atI rfl⟩
  have HN : Hid (n = x.f3.length) := Lib.hid esn
  have HM : Hid (m = x.f4.length) := Lib.hid esm
  have HLE := Lib.hid hle
  have HNB : Hid (n ≤ 1048576) := Lib.hid (by rw [esn]; exact hnb)
  have HRL : Hid (rs.length = x.f4.length) := Lib.hid esa.1.symm
  have HSK := Aside0.mk esk
  have HSR := Aside0.mk esr
  have HSA := Aside0.mk esa
  have HAT := Lib.hid hat
  have HB0 := Aside0.mk hb0
  have HW0 := Lib.hid hW0
  clear es0 esn esk esm esr esa hd hle hnb hat hb0 hW0
  go_enter Tryz.func29, Tryz.ntmps29
  go_upto_region 1 with fail
  rw [← HW0.out]
  go_wp2
  go_loopw [3] (fun v3 wr => ∃ i : Nat, i ≤ n ∧ v3 = .int .i64 i ∧ Aside0 (Below W0.heap.size W0 wr)) (fun v3 _ => n - (intOf v3).toNat)
  case atStart => exact ⟨0, Nat.zero_le _, rfl, ⟨Below.refl _ _⟩⟩
  case round =>
    obtain ⟨i, hi, rfl, HL⟩ := hrel
    have HBW : Aside0 (Below w.heap.size w wr) := ⟨HB0.out.trans (HL.out.mono HB0.out.size)⟩
    have hx := blk_below HBX.out HL.out
    have x0 : wr.cell? ⟨w.heap.size, 0, none⟩ = some (.int .i64 s0) := (blk_cell hx 0).trans rfl
    have x3 : wr.cell? ⟨w.heap.size, 3, none⟩ = some (.slice sA n sc) := (blk_cell hx 3).trans rfl
    have x4 : wr.cell? ⟨w.heap.size, 4, none⟩ = some (.slice sB m sd) := (blk_cell hx 4).trans rfl
    clear hx
    by_cases hlt : i < n
    · have i0 : (0 : Int) ≤ (i : Int) := Int.natCast_nonneg _
      have i1 : (i : Int) < (n : Int) := Int.ofNat_lt.2 hlt
      have h3 : i < x.f3.length := by rw [← HN.out]; exact hlt
      have h4 : i < x.f4.length := Nat.lt_of_lt_of_le h3 HLE.out
      have hr : i < rs.length := by rw [HRL.out]; exact h4
      obtain ⟨adk, eK, hk0⟩ := Kd.at_string HSK.out (i : Int) i0 (by rw [← HN.out]; exact i1)
      obtain ⟨ade, eA, he0, he1, he2, he3, he4⟩ := at_R HSR.out i hr hr
      obtain ⟨q, hq⟩ : ∃ q, q = rs[i]'hr := ⟨_, rfl⟩
      obtain ⟨key, hkey⟩ : ∃ key, key = x.f3[i]'h3 := ⟨_, rfl⟩
      rw [rdK h3, Int.toNat_natCast, ← hkey] at hk0
      rw [← hq] at he0 he1 he2 he3 he4
      have tr : ∀ {p : Addr} {u : Value}, w.cell? p = some u → wr.cell? p = some u := fun h => (HBW.out.cell (World.block_lt_of_cell? w _ h)).trans h
      replace hk0 := tr hk0
      replace he0 := tr he0
      replace he1 := tr he1
      replace he2 := tr he2
      replace he3 := tr he3
      replace he4 := tr he4
      have hdq : DeepP P wr (x.f4[i]'h4) q := by rw [hq]; exact (HSA.out.2 i h4 hr).below_ HBW.out
      have i2 : (i : Int) < (m : Int) := Int.ofNat_lt.2 (by rw [HM.out]; exact h4)
      have HCA := Lib.hid (fun (W : World) (hW : Below wr.heap.size wr W) => HAT.out i h3 h4 W _ ((hdq.below_ hW).parts))
      rw [← hkey] at HCA
      unfold RV.val at HCA
      have wk := wrF hlt (Nat.le_trans HNB.out (by decide))
      subst eK
      subst eA
      clear tr h3 h4 hr hq hkey hdq
      go_upto_region 4 with fail
      refine start_ (n := 12) (S := fun w' => w'.cell? ⟨w.heap.size, 0, none⟩ = some (.int .i64 s0) ∧ w'.cell? ⟨w.heap.size, 3, none⟩ = some (.slice (some adk) n sc) ∧ w'.cell? ⟨w.heap.size, 4, none⟩ = some (.slice (some ade) m sd) ∧ w'.cell? (adk.add i) = some (.string key) ∧ w'.cell? (ade.add (i * 5)) = some (.int .i64 q.n0) ∧ w'.cell? ⟨(ade.add (i * 5)).block, (ade.add (i * 5)).off + 1, none⟩ = some (.int .i64 q.n1) ∧ w'.cell? ⟨(ade.add (i * 5)).block, (ade.add (i * 5)).off + 2, none⟩ = some (.string q.t) ∧ w'.cell? ⟨(ade.add (i * 5)).block, (ade.add (i * 5)).off + 3, none⟩ = some (.slice q.A q.an q.ac) ∧ w'.cell? ⟨(ade.add (i * 5)).block, (ade.add (i * 5)).off + 4, none⟩ = some (.slice q.B q.bn q.bc)) (ds := []) #[false, false, false, false, false, false, false, false, false, false, false, false] (by kernel_rfl) rfl rfl ⟨x0, x3, x4, hk0, he0, he1, he2, he3, he4⟩ (fun hHeld => ?_)
      refine pure_ (i := 0) (N := some 11) (v := ?_) (a' := ?_) #[true, false, false, false, false, false, false, false, false, false, false, false] rfl rfl (by kernel_rfl) (fun _ _ _ h => h) (Or.inl ⟨by rfl, ?_⟩) ?_ ?_
      rotate_left
      · intro w'
        go_simp
        with_reducible rfl
      rotate_left
      · simp only [Act.put, List.setIfInBounds_toArray, List.set_cons_zero, List.set_cons_succ, i64_w, i32_w]
        rfl
      refine pure_ (i := 2) (N := some 13) (v := ?_) (a' := ?_) #[true, false, true, false, false, false, false, false, false, false, false, false] rfl rfl (by kernel_rfl) (fun _ _ _ h => h) (Or.inl ⟨by rfl, ?_⟩) ?_ ?_
      rotate_left
      · intro w'
        go_simp
        with_reducible rfl
      rotate_left
      · simp only [Act.put, List.setIfInBounds_toArray, List.set_cons_zero, List.set_cons_succ, i64_w, i32_w]
        rfl
      refine pure_ (i := 5) (N := some 16) (v := ?_) (a' := ?_) #[true, false, true, false, false, true, false, false, false, false, false, false] rfl rfl (by kernel_rfl) (fun _ _ _ h => h) (Or.inl ⟨by rfl, ?_⟩) ?_ ?_
      rotate_left
      · intro w'
        go_simp
        with_reducible rfl
      rotate_left
      · simp only [Act.put, List.setIfInBounds_toArray, List.set_cons_zero, List.set_cons_succ, i64_w, i32_w]
        rfl
      refine pure_ (i := 7) (N := some 18) (v := ?_) (a' := ?_) #[true, false, true, false, false, true, false, true, false, false, false, false] rfl rfl (by kernel_rfl) (fun _ _ _ h => h) (Or.inl ⟨by rfl, ?_⟩) ?_ ?_
      rotate_left
      · intro w'
        go_simp
        with_reducible rfl
      rotate_left
      · simp only [Act.put, List.setIfInBounds_toArray, List.set_cons_zero, List.set_cons_succ, i64_w, i32_w]
        rfl
      refine take_ (i := 1) (N := some 12) (v := ?_) (a' := ?_) #[true, true, true, false, false, true, false, true, false, false, false, false] rfl rfl (by kernel_rfl) (fun _ _ _ h => h) (Or.inl ⟨by rfl, ?_⟩) hHeld ?_ ?_
      rotate_left
      · rintro w' ⟨s0, s1, s2, s3, s4, s5, s6, s7, s8⟩
        go_simp
        with_reducible rfl
      rotate_left
      · simp only [Act.put, List.setIfInBounds_toArray, List.set_cons_zero, List.set_cons_succ, i64_w, i32_w]
        rfl
      refine pure_ (i := 3) (N := some 14) (v := ?_) (a' := ?_) #[true, true, true, true, false, true, false, true, false, false, false, false] rfl rfl (by kernel_rfl) (fun _ _ _ h => h) (Or.inl ⟨by rfl, ?_⟩) ?_ ?_
      rotate_left
      · intro w'
        go_simp
        with_reducible rfl
      rotate_left
      · simp only [Act.put, List.setIfInBounds_toArray, List.set_cons_zero, List.set_cons_succ, i64_w, i32_w]
        rfl
      refine take_ (i := 4) (N := some 15) (v := ?_) (a' := ?_) #[true, true, true, true, true, true, false, true, false, false, false, false] rfl rfl (by kernel_rfl) (fun _ _ _ h => h) (Or.inl ⟨by rfl, ?_⟩) hHeld ?_ ?_
      rotate_left
      · rintro w' ⟨s0, s1, s2, s3, s4, s5, s6, s7, s8⟩
        go_simp
        with_reducible rfl
      rotate_left
      · simp only [Act.put, List.setIfInBounds_toArray, List.set_cons_zero, List.set_cons_succ, i64_w, i32_w]
        rfl
      refine take_ (i := 6) (N := some 17) (v := ?_) (a' := ?_) #[true, true, true, true, true, true, true, true, false, false, false, false] rfl rfl (by kernel_rfl) (fun _ _ _ h => h) (Or.inl ⟨by rfl, ?_⟩) hHeld ?_ ?_
      rotate_left
      · rintro w' ⟨s0, s1, s2, s3, s4, s5, s6, s7, s8⟩
        go_simp
        with_reducible rfl
      rotate_left
      · simp only [Act.put, List.setIfInBounds_toArray, List.set_cons_zero, List.set_cons_succ, i64_w, i32_w]
        rfl
      refine pure_ (i := 8) (N := some 19) (v := ?_) (a' := ?_) #[true, true, true, true, true, true, true, true, true, false, false, false] rfl rfl (by kernel_rfl) (fun _ _ _ h => h) (Or.inl ⟨by rfl, ?_⟩) ?_ ?_
      rotate_left
      · intro w'
        go_simp
        with_reducible rfl
      rotate_left
      · simp only [Act.put, List.setIfInBounds_toArray, List.set_cons_zero, List.set_cons_succ, i64_w, i32_w]
        rfl
      refine take_ (i := 9) (N := some 20) (v := ?_) (a' := ?_) #[true, true, true, true, true, true, true, true, true, true, false, false] rfl rfl (by kernel_rfl) (fun _ _ _ h => h) (Or.inl ⟨by rfl, ?_⟩) hHeld ?_ ?_
      rotate_left
      · rintro w' ⟨s0, s1, s2, s3, s4, s5, s6, s7, s8⟩
        go_simp
        with_reducible rfl
      rotate_left
      · simp only [Act.put, List.setIfInBounds_toArray, List.set_cons_zero, List.set_cons_succ, i64_w, i32_w]
        rfl
      refine one_ (i := 10) (N := some 21) #[true, true, true, true, true, true, true, true, true, true, true, false] rfl rfl (by kernel_rfl) (by decide) (fun K hK => ?_)
      refine goes_ Tryz.func45 (by kernel_rfl) rfl #[.string key, .agg #[.int .i64 q.n0, .int .i64 q.n1, .string q.t, .slice q.A q.an q.ac, .slice q.B q.bn q.bc]] (by rfl) rfl rfl (by simp only [List.map_toArray, List.map_cons, List.map_nil]; rfl) ?_
      with_reducible refine (HCA.out wr.drew (below_drew1 (Below.refl _ _))).mono ?_
      rintro e w8 ⟨⟨b, rfl⟩, hb8⟩
      refine ⟨_, rfl, ?_⟩
      have hc8 : Below wr.heap.size wr w8 := below_un hb8
      have HC8 := Aside0.mk hc8
      clear hb8 hc8
      refine hK.out _ _ ⟨(HC8.out.cell (World.block_lt_of_cell? wr _ x0)).trans x0, (HC8.out.cell (World.block_lt_of_cell? wr _ x3)).trans x3, (HC8.out.cell (World.block_lt_of_cell? wr _ x4)).trans x4, (HC8.out.cell (World.block_lt_of_cell? wr _ hk0)).trans hk0, (HC8.out.cell (World.block_lt_of_cell? wr _ he0)).trans he0, (HC8.out.cell (World.block_lt_of_cell? wr _ he1)).trans he1, (HC8.out.cell (World.block_lt_of_cell? wr _ he2)).trans he2, (HC8.out.cell (World.block_lt_of_cell? wr _ he3)).trans he3, (HC8.out.cell (World.block_lt_of_cell? wr _ he4)).trans he4⟩ (fun hHeld => ?_)
      clear hK K
      refine norm_ (a' := ?_) ?_ ?_
      rotate_left
      · show Act.put _ (some 21) _ = _
        simp only [Act.put, List.setIfInBounds_toArray, List.set_cons_zero, List.set_cons_succ, i64_w, i32_w]
        rfl
      refine pure_ (i := 11) (N := some 22) (v := ?_) (a' := ?_) #[true, true, true, true, true, true, true, true, true, true, true, true] rfl rfl (by kernel_rfl) (fun _ _ _ h => h) (Or.inl ⟨by rfl, ?_⟩) ?_ ?_
      rotate_left
      · intro w'
        go_simp
        with_reducible rfl
      rotate_left
      · simp only [Act.put, List.setIfInBounds_toArray, List.set_cons_zero, List.set_cons_succ, i64_w, i32_w]
        rfl
      refine done_ (by kernel_rfl) ?_
      
      cases b with
      | false =>
        go_wp2
        go_ret
        exact ⟨⟨_, rfl⟩, HBW.out.trans (HC8.out.mono HBW.out.size)⟩
      | true =>
        go_wp2
        go_roundw
        case rel => exact ⟨i + 1, hlt, by go_num, ⟨HL.out.trans (HC8.out.mono HL.out.size)⟩⟩
        case measure => first | exact msF hlt | (rw [wk]; exact msF hlt)
    · obtain rfl : i = n := by omega
      have hlt0 : ¬ ((i : Int) < (i : Int)) := Int.lt_irrefl _
      go_wp2
      go_ret
      refine ⟨?_, HBW.out⟩
      generalize (s0 == 5) = bb
      cases bb
      · exact .inl rfl
      · exact .inr rfl
set_option maxHeartbeats 8000000 in
set_option maxRecDepth 100000 in
theorem spec_Says1 {P : Nat → Prop} {w : World} {x : SV} {r : RV} (hd : DeepP P w (oneS kServ (oneS kS1 x)) r)
    (hsv : ∀ (W : World) (u : Value), MadeS x W u → Calls Tryz.prog 29 #[u] W fun e w' => (∃ b, e = .returned (.bool b)) ∧ Below W.heap.size W w') :
    Calls Tryz.prog 11 #[.agg #[.int .i64 r.n0, .int .i64 r.n1, .string r.t, .slice r.A r.an r.ac, .slice r.B r.bn r.bc]] w fun e w' => (∃ b, e = .returned (.bool b)) ∧ Below w.heap.size w w' := by
  obtain ⟨rs, es0, -, -, esn, -, esk, esm, -, esr, esa⟩ := hd.rows
  obtain ⟨s0, s1, st, sA, n, sc, sB, m, sd⟩ := r
  dsimp only at es0 esn esk esm esr ⊢
  obtain ⟨W0, hW0⟩ : ∃ W0 : World, W0 = w.alloc (Obj.cells #[.int .i64 s0, .int .i64 s1, .string st, .slice sA n sc, .slice sB m sd] 26) := ⟨_, rfl⟩
  have hb0 : Below w.heap.size w W0 := by rw [hW0]; exact (Below.refl _ _).alloc (Nat.le_refl _) _
  have HBX : Aside0 (W0.heap[w.heap.size]? = some (.cells #[.int .i64 s0, .int .i64 s1, .string st, .slice sA n sc, .slice sB m sd] 26 (0, 0))) := ⟨by rw [hW0]; exact new_atI rfl⟩
  have HN : Hid (n = (oneS kServ (oneS kS1 x)).f3.length) := Lib.hid esn
  have HM : Hid (m = (oneS kServ (oneS kS1 x)).f4.length) := Lib.hid esm
  have HLE : Hid ((oneS kServ (oneS kS1 x)).f3.length ≤ (oneS kServ (oneS kS1 x)).f4.length) := Lib.hid (Nat.le_refl 1)
  have HNB : Hid (n ≤ 1048576) := Lib.hid (by rw [esn]; show 1 ≤ _; omega)
  have HRL : Hid (rs.length = (oneS kServ (oneS kS1 x)).f4.length) := Lib.hid esa.1.symm
  have HSK := Aside0.mk esk
  have HSR := Aside0.mk esr
  have HSA := Aside0.mk esa
  have HSV := Lib.hid hsv
  have HB0 := Aside0.mk hb0
  have HW0 := Lib.hid hW0
  clear es0 esn esk esm esr esa hd hsv hb0 hW0
  go_enter Tryz.func11, Tryz.ntmps11
  go_upto_region 1 with fail
  rw [← HW0.out]
  go_wp2
  go_loopw [3] (fun v3 wr => ∃ i : Nat, i ≤ n ∧ v3 = .int .i64 i ∧ Aside0 (Below W0.heap.size W0 wr)) (fun v3 _ => n - (intOf v3).toNat)
  case atStart => exact ⟨0, Nat.zero_le _, rfl, ⟨Below.refl _ _⟩⟩
  case round =>
    obtain ⟨i, hi, rfl, HL⟩ := hrel
    have HBW : Aside0 (Below w.heap.size w wr) := ⟨HB0.out.trans (HL.out.mono HB0.out.size)⟩
    have hx := blk_below HBX.out HL.out
    have HXW := Aside0.mk hx
    have x0 : wr.cell? ⟨w.heap.size, 0, none⟩ = some (.int .i64 s0) := (blk_cell hx 0).trans rfl
    have x3 : wr.cell? ⟨w.heap.size, 3, none⟩ = some (.slice sA n sc) := (blk_cell hx 3).trans rfl
    have x4 : wr.cell? ⟨w.heap.size, 4, none⟩ = some (.slice sB m sd) := (blk_cell hx 4).trans rfl
    clear hx
    by_cases hlt : i < n
    · have i0 : (0 : Int) ≤ (i : Int) := Int.natCast_nonneg _
      have i1 : (i : Int) < (n : Int) := Int.ofNat_lt.2 hlt
      have h3 : i < (oneS kServ (oneS kS1 x)).f3.length := by rw [← HN.out]; exact hlt
      have h4 : i < (oneS kServ (oneS kS1 x)).f4.length := Nat.lt_of_lt_of_le h3 HLE.out
      have hr : i < rs.length := by rw [HRL.out]; exact h4
      obtain ⟨adk, eK, hk0⟩ := Kd.at_string HSK.out (i : Int) i0 (by rw [← HN.out]; exact i1)
      obtain ⟨ade, eA, he0, he1, he2, he3, he4⟩ := at_R HSR.out i hr hr
      obtain ⟨q, hq⟩ : ∃ q, q = rs[i]'hr := ⟨_, rfl⟩
      obtain ⟨key, hkey⟩ : ∃ key, key = (oneS kServ (oneS kS1 x)).f3[i]'h3 := ⟨_, rfl⟩
      rw [rdK h3, Int.toNat_natCast, ← hkey] at hk0
      rw [← hq] at he0 he1 he2 he3 he4
      have tr : ∀ {p : Addr} {u : Value}, w.cell? p = some u → wr.cell? p = some u := fun h => (HBW.out.cell (World.block_lt_of_cell? w _ h)).trans h
      replace hk0 := tr hk0
      replace he0 := tr he0
      replace he1 := tr he1
      replace he2 := tr he2
      replace he3 := tr he3
      replace he4 := tr he4
      have hdq : DeepP P wr ((oneS kServ (oneS kS1 x)).f4[i]'h4) q := by rw [hq]; exact (HSA.out.2 i h4 hr).below_ HBW.out
      have i2 : (i : Int) < (m : Int) := Int.ofNat_lt.2 (by rw [HM.out]; exact h4)
      have wk := wrF hlt (Nat.le_trans HNB.out (by decide))
      have hi0 : i = 0 := by have h3' : i < 1 := h3; omega
      have hkv : key = kServ := by rw [hkey]; subst hi0; rfl
      have hdq2 : DeepP P wr (oneS kS1 x) q := by
        have : (oneS kServ (oneS kS1 x)).f4[i]'h4 = oneS kS1 x := by subst hi0; rfl
        rw [← this]; exact hdq
      obtain ⟨qs, et0, -, -, etn, -, etk, etm, -, etr, eta⟩ := hdq2.rows
      obtain ⟨q0, q1, qt, qA, kn, qc, qB, km, qd⟩ := q
      dsimp only at et0 etn etk etm etr he0 he1 he2 he3 he4 ⊢
      have ht0 : q0 = 5 := et0
      subst ht0
      have HKN : Hid (kn = 1) := Lib.hid etn
      have HKM : Hid (km = 1) := Lib.hid etm
      have HQL : Hid (qs.length = 1) := Lib.hid eta.1.symm
      have HQK := Aside0.mk etk
      have HQR := Aside0.mk etr
      have HQA := Aside0.mk eta
      have HI0 := Lib.hid hi0
      clear hkey hq
      subst hkv
      subst eK
      subst eA
      clear tr h3 h4 hr hdq hdq2 et0 etn etk etm etr eta hi0
      go_upto_region 4 with fail
      refine start_ (n := 13) (S := fun w' => w'.cell? ⟨w.heap.size, 0, none⟩ = some (.int .i64 s0) ∧ w'.cell? ⟨w.heap.size, 3, none⟩ = some (.slice (some adk) n sc) ∧ w'.cell? ⟨w.heap.size, 4, none⟩ = some (.slice (some ade) m sd) ∧ w'.cell? (adk.add i) = some (.string kServ) ∧ w'.cell? (ade.add (i * 5)) = some (.int .i64 5) ∧ w'.cell? ⟨(ade.add (i * 5)).block, (ade.add (i * 5)).off + 1, none⟩ = some (.int .i64 q1) ∧ w'.cell? ⟨(ade.add (i * 5)).block, (ade.add (i * 5)).off + 2, none⟩ = some (.string qt) ∧ w'.cell? ⟨(ade.add (i * 5)).block, (ade.add (i * 5)).off + 3, none⟩ = some (.slice qA kn qc) ∧ w'.cell? ⟨(ade.add (i * 5)).block, (ade.add (i * 5)).off + 4, none⟩ = some (.slice qB km qd)) (ds := [12]) #[false, false, false, false, false, false, false, false, false, false, false, false, false] (by kernel_rfl) rfl rfl ⟨x0, x3, x4, hk0, he0, he1, he2, he3, he4⟩ (fun hHeld => ?_)
      refine pure_ (i := 0) (N := some 14) (v := ?_) (a' := ?_) #[true, false, false, false, false, false, false, false, false, false, false, false, false] rfl rfl (by kernel_rfl) (fun _ _ _ h => h) (Or.inl ⟨by rfl, ?_⟩) ?_ ?_
      rotate_left
      · intro w'
        go_simp
        with_reducible rfl
      rotate_left
      · simp only [Act.put, List.setIfInBounds_toArray, List.set_cons_zero, List.set_cons_succ, i64_w, i32_w]
        rfl
      refine pure_ (i := 2) (N := some 16) (v := ?_) (a' := ?_) #[true, false, true, false, false, false, false, false, false, false, false, false, false] rfl rfl (by kernel_rfl) (fun _ _ _ h => h) (Or.inl ⟨by rfl, ?_⟩) ?_ ?_
      rotate_left
      · intro w'
        go_simp
        with_reducible rfl
      rotate_left
      · simp only [Act.put, List.setIfInBounds_toArray, List.set_cons_zero, List.set_cons_succ, i64_w, i32_w]
        rfl
      refine pure_ (i := 5) (N := some 19) (v := ?_) (a' := ?_) #[true, false, true, false, false, true, false, false, false, false, false, false, false] rfl rfl (by kernel_rfl) (fun _ _ _ h => h) (Or.inl ⟨by rfl, ?_⟩) ?_ ?_
      rotate_left
      · intro w'
        go_simp
        with_reducible rfl
      rotate_left
      · simp only [Act.put, List.setIfInBounds_toArray, List.set_cons_zero, List.set_cons_succ, i64_w, i32_w]
        rfl
      refine pure_ (i := 7) (N := some 21) (v := ?_) (a' := ?_) #[true, false, true, false, false, true, false, true, false, false, false, false, false] rfl rfl (by kernel_rfl) (fun _ _ _ h => h) (Or.inl ⟨by rfl, ?_⟩) ?_ ?_
      rotate_left
      · intro w'
        go_simp
        with_reducible rfl
      rotate_left
      · simp only [Act.put, List.setIfInBounds_toArray, List.set_cons_zero, List.set_cons_succ, i64_w, i32_w]
        rfl
      refine take_ (i := 1) (N := some 15) (v := ?_) (a' := ?_) #[true, true, true, false, false, true, false, true, false, false, false, false, false] rfl rfl (by kernel_rfl) (fun _ _ _ h => h) (Or.inl ⟨by rfl, ?_⟩) hHeld ?_ ?_
      rotate_left
      · rintro w' ⟨s0, s1, s2, s3, s4, s5, s6, s7, s8⟩
        go_simp
        with_reducible rfl
      rotate_left
      · simp only [Act.put, List.setIfInBounds_toArray, List.set_cons_zero, List.set_cons_succ, i64_w, i32_w]
        rfl
      refine pure_ (i := 3) (N := some 17) (v := ?_) (a' := ?_) #[true, true, true, true, false, true, false, true, false, false, false, false, false] rfl rfl (by kernel_rfl) (fun _ _ _ h => h) (Or.inl ⟨by rfl, ?_⟩) ?_ ?_
      rotate_left
      · intro w'
        go_simp
        with_reducible rfl
      rotate_left
      · simp only [Act.put, List.setIfInBounds_toArray, List.set_cons_zero, List.set_cons_succ, i64_w, i32_w]
        rfl
      refine take_ (i := 4) (N := some 18) (v := ?_) (a' := ?_) #[true, true, true, true, true, true, false, true, false, false, false, false, false] rfl rfl (by kernel_rfl) (fun _ _ _ h => h) (Or.inl ⟨by rfl, ?_⟩) hHeld ?_ ?_
      rotate_left
      · rintro w' ⟨s0, s1, s2, s3, s4, s5, s6, s7, s8⟩
        go_simp
        with_reducible rfl
      rotate_left
      · simp only [Act.put, List.setIfInBounds_toArray, List.set_cons_zero, List.set_cons_succ, i64_w, i32_w]
        rfl
      refine take_ (i := 6) (N := some 20) (v := ?_) (a' := ?_) #[true, true, true, true, true, true, true, true, false, false, false, false, false] rfl rfl (by kernel_rfl) (fun _ _ _ h => h) (Or.inl ⟨by rfl, ?_⟩) hHeld ?_ ?_
      rotate_left
      · rintro w' ⟨s0, s1, s2, s3, s4, s5, s6, s7, s8⟩
        go_simp
        with_reducible rfl
      rotate_left
      · simp only [Act.put, List.setIfInBounds_toArray, List.set_cons_zero, List.set_cons_succ, i64_w, i32_w]
        rfl
      refine pure_ (i := 8) (N := some 22) (v := ?_) (a' := ?_) #[true, true, true, true, true, true, true, true, true, false, false, false, false] rfl rfl (by kernel_rfl) (fun _ _ _ h => h) (Or.inl ⟨by rfl, ?_⟩) ?_ ?_
      rotate_left
      · intro w'
        go_simp
        with_reducible rfl
      rotate_left
      · simp only [Act.put, List.setIfInBounds_toArray, List.set_cons_zero, List.set_cons_succ, i64_w, i32_w]
        rfl
      refine take_ (i := 9) (N := some 23) (v := ?_) (a' := ?_) #[true, true, true, true, true, true, true, true, true, true, false, false, false] rfl rfl (by kernel_rfl) (fun _ _ _ h => h) (Or.inl ⟨by rfl, ?_⟩) hHeld ?_ ?_
      rotate_left
      · rintro w' ⟨s0, s1, s2, s3, s4, s5, s6, s7, s8⟩
        go_simp
        with_reducible rfl
      rotate_left
      · simp only [Act.put, List.setIfInBounds_toArray, List.set_cons_zero, List.set_cons_succ, i64_w, i32_w]
        rfl
      refine one_ (i := 10) (N := some 5) #[true, true, true, true, true, true, true, true, true, true, true, false, false] rfl rfl (by kernel_rfl) (by decide) (fun K hK => ?_)
      refine value_ (w1 := ?_) (v := ?_) (by rfl) rfl ?_ ?_
      rotate_left 2
      · go_simp
        constructor
        · rfl
        · rfl
      refine hK.out _ _ ⟨((below_drew1 ((Below.refl wr.heap.size wr).alloc (Nat.le_refl _) (Obj.cells #[.int .i64 0, .int .i64 0, .string ⟨#[]⟩, .slice none 0 0, .slice none 0 0] 26))).cell (World.block_lt_of_cell? wr _ x0)).trans x0, ((below_drew1 ((Below.refl wr.heap.size wr).alloc (Nat.le_refl _) (Obj.cells #[.int .i64 0, .int .i64 0, .string ⟨#[]⟩, .slice none 0 0, .slice none 0 0] 26))).cell (World.block_lt_of_cell? wr _ x3)).trans x3, ((below_drew1 ((Below.refl wr.heap.size wr).alloc (Nat.le_refl _) (Obj.cells #[.int .i64 0, .int .i64 0, .string ⟨#[]⟩, .slice none 0 0, .slice none 0 0] 26))).cell (World.block_lt_of_cell? wr _ x4)).trans x4, ((below_drew1 ((Below.refl wr.heap.size wr).alloc (Nat.le_refl _) (Obj.cells #[.int .i64 0, .int .i64 0, .string ⟨#[]⟩, .slice none 0 0, .slice none 0 0] 26))).cell (World.block_lt_of_cell? wr _ hk0)).trans hk0, ((below_drew1 ((Below.refl wr.heap.size wr).alloc (Nat.le_refl _) (Obj.cells #[.int .i64 0, .int .i64 0, .string ⟨#[]⟩, .slice none 0 0, .slice none 0 0] 26))).cell (World.block_lt_of_cell? wr _ he0)).trans he0, ((below_drew1 ((Below.refl wr.heap.size wr).alloc (Nat.le_refl _) (Obj.cells #[.int .i64 0, .int .i64 0, .string ⟨#[]⟩, .slice none 0 0, .slice none 0 0] 26))).cell (World.block_lt_of_cell? wr _ he1)).trans he1, ((below_drew1 ((Below.refl wr.heap.size wr).alloc (Nat.le_refl _) (Obj.cells #[.int .i64 0, .int .i64 0, .string ⟨#[]⟩, .slice none 0 0, .slice none 0 0] 26))).cell (World.block_lt_of_cell? wr _ he2)).trans he2, ((below_drew1 ((Below.refl wr.heap.size wr).alloc (Nat.le_refl _) (Obj.cells #[.int .i64 0, .int .i64 0, .string ⟨#[]⟩, .slice none 0 0, .slice none 0 0] 26))).cell (World.block_lt_of_cell? wr _ he3)).trans he3, ((below_drew1 ((Below.refl wr.heap.size wr).alloc (Nat.le_refl _) (Obj.cells #[.int .i64 0, .int .i64 0, .string ⟨#[]⟩, .slice none 0 0, .slice none 0 0] 26))).cell (World.block_lt_of_cell? wr _ he4)).trans he4⟩ (fun hHeld => ?_)
      clear hK K
      refine norm_ (a' := ?_) ?_ ?_
      rotate_left
      · show Act.put _ (some 5) _ = _
        simp only [Act.put, List.setIfInBounds_toArray, List.set_cons_zero, List.set_cons_succ, i64_w, i32_w]
        rfl
      refine pure_ (i := 11) (N := some 4) (v := ?_) (a' := ?_) #[true, true, true, true, true, true, true, true, true, true, true, true, false] rfl rfl (by kernel_rfl) (fun _ _ _ h => h) (Or.inl ⟨by rfl, ?_⟩) ?_ ?_
      rotate_left
      · intro w'
        go_simp
        with_reducible rfl
      rotate_left
      · simp only [Act.put, List.setIfInBounds_toArray, List.set_cons_zero, List.set_cons_succ, i64_w, i32_w]
        rfl
      refine last_ (i := 12) (N := none) #[true, true, true, true, true, true, true, true, true, true, true, true, true] rfl rfl (by kernel_rfl) (by decide) (fun K hK => ?_)
      refine store_step (cur := #[.int .i64 0, .int .i64 0, .string ⟨#[]⟩, .slice none 0 0, .slice none 0 0]) (e := 26) (g := wr.heap.size) 26 _ _ (.agg #[.int .i64 5, .int .i64 q1, .string qt, .slice qA kn qc, .slice qB km qd]) [.int .i64 5, .int .i64 q1, .string qt, .slice qA kn qc, .slice qB km qd] (by rfl) rfl rfl rfl rfl (new_atI rfl) rfl (show (Tryz.prog.info? 26).map (·.size) = some 5 by kernel_rfl) rfl (by simp [Value.oneCell']) ?_
      intro w4 h_w4 hg_w4
      have H_w4 := Aside0.mk h_w4
      have HG_w4 := Aside0.mk hg_w4
      clear h_w4 hg_w4
      refine hK.out _ _ ?_
      clear hK K
      refine done_ (by kernel_rfl) ?_
      
      have HB4 : Aside0 (Below wr.heap.size wr w4) := ⟨(below_drew1 ((Below.refl wr.heap.size wr).alloc (Nat.le_refl _) (Obj.cells #[.int .i64 0, .int .i64 0, .string ⟨#[]⟩, .slice none 0 0, .slice none 0 0] 26))).grown HG_w4.out (below_drew1 ((Below.refl wr.heap.size wr).alloc (Nat.le_refl _) (Obj.cells #[.int .i64 0, .int .i64 0, .string ⟨#[]⟩, .slice none 0 0, .slice none 0 0] 26))).size (fun k e => by injection e with e; omega)⟩
      have HQK4 := Aside0.mk (Kd.C_below HQK.out HB4.out)
      have HQR4 := Aside0.mk (Kd.C_below HQR.out HB4.out)
      have HQA4 : Aside0 (All2 (DeepP P w4) (oneS kS1 x).f4 qs) := ⟨HQA.out.imp (fun _ _ h => h.below_ HB4.out)⟩
      have HW4 : Aside0 (Below W0.heap.size W0 w4) := ⟨HL.out.trans (HB4.out.mono HL.out.size)⟩
      obtain ⟨g, hg⟩ : ∃ g, g = wr.heap.size := ⟨_, rfl⟩
      have HY4 : Aside0 (w4.heap[g]? = some (.cells #[.int .i64 5, .int .i64 q1, .string qt, .slice qA kn qc, .slice qB km qd] 26 (0, 0))) := ⟨by rw [hg]; exact H_w4.out⟩
      rw [← hg]
      clear x0 x3 x4 hk0 he0 he1 he2 he3 he4 hg
      go_wp2
      go_loopw [6] (fun v6 wr => ∃ k : Nat, k ≤ kn ∧ v6 = .int .i64 k ∧ Aside0 (Below w4.heap.size w4 wr)) (fun v6 _ => kn - (intOf v6).toNat)
      case atStart => exact ⟨0, Nat.zero_le _, rfl, ⟨Below.refl _ _⟩⟩
      case round =>
        obtain ⟨k, hk, rfl, HK⟩ := hrel
        have hy := blk_below HY4.out HK.out
        have HBI : Aside0 (Below W0.heap.size W0 wr) := ⟨HW4.out.trans (HK.out.mono HW4.out.size)⟩
        have y0 : wr.cell? ⟨g, 0, none⟩ = some (.int .i64 5) := (blk_cell hy 0).trans rfl
        have y3 : wr.cell? ⟨g, 3, none⟩ = some (.slice qA kn qc) := (blk_cell hy 3).trans rfl
        have y4 : wr.cell? ⟨g, 4, none⟩ = some (.slice qB km qd) := (blk_cell hy 4).trans rfl
        clear hy
        by_cases klt : k < kn
        · have k0 : (0 : Int) ≤ (k : Int) := Int.natCast_nonneg _
          have k1 : (k : Int) < (kn : Int) := Int.ofNat_lt.2 klt
          have g0 : k < 1 := by rw [← HKN.out]; exact klt
          have k2 : (k : Int) < (km : Int) := Int.ofNat_lt.2 (by rw [HKM.out]; exact g0)
          have gr : k < qs.length := by rw [HQL.out]; exact g0
          obtain ⟨bdk, eK, hk0⟩ := Kd.at_string HQK4.out (k : Int) k0 (by show (k : Int) < ((1 : Nat) : Int); omega)
          obtain ⟨bde, eA, he0, he1, he2, he3, he4⟩ := at_R HQR4.out k gr gr
          obtain ⟨z, hz⟩ : ∃ z, z = qs[k]'gr := ⟨_, rfl⟩
          have hke : rdOf ByteArray.empty (oneS kS1 x).f3 (k : Int) = kS1 := by
            have : k = 0 := by omega
            subst this; rfl
          rw [hke, Int.toNat_natCast] at hk0
          clear hke
          rw [← hz] at he0 he1 he2 he3 he4
          have hdz : DeepP P wr x z := by
            have h1 := HQA4.out.2 k g0 gr
            have : (oneS kS1 x).f4[k]'g0 = x := by have : k = 0 := by omega
                                                   subst this; rfl
            rw [this, ← hz] at h1
            exact h1.below_ HK.out
          have tr : ∀ {p : Addr} {u : Value}, w4.cell? p = some u → wr.cell? p = some u := fun h => (HK.out.cell (World.block_lt_of_cell? w4 _ h)).trans h
          replace hk0 := tr hk0
          replace he0 := tr he0
          replace he1 := tr he1
          replace he2 := tr he2
          replace he3 := tr he3
          replace he4 := tr he4
          have HCA := Lib.hid (fun (W : World) (hW : Below wr.heap.size wr W) => HSV.out W _ ((hdz.below_ hW).parts))
          unfold RV.val at HCA
          have wk2 := wrF klt (show kn ≤ _ by rw [HKN.out]; decide)
          subst eK
          subst eA
          clear tr gr g0 hz hdz
          go_wp2_with fail
          refine (spec_sayName.calls 100 kS1 true wr (by kernel_rfl)).mono ?_
          rintro e w5 ⟨rfl, hb5⟩
          have hc5 : Below wr.heap.size wr w5 := hb5.below
          have HC5 := Aside0.mk hc5
          have tr : ∀ {p : Addr} {u : Value}, wr.cell? p = some u → w5.cell? p = some u := fun h => (HC5.out.cell (World.block_lt_of_cell? wr _ h)).trans h
          replace y0 := tr y0
          replace y3 := tr y3
          replace y4 := tr y4
          replace he0 := tr he0
          replace he1 := tr he1
          replace he2 := tr he2
          replace he3 := tr he3
          replace he4 := tr he4
          clear tr hb5 hc5 hk0
          go_wp2_with fail
          refine (HCA.out w5 HC5.out).mono ?_
          rintro e w6 ⟨⟨b, rfl⟩, hb6⟩
          have HC6 := Aside0.mk (below_then HC5.out HC5.out.size hb6)
          clear hb6 y0 y3 y4 he0 he1 he2 he3 he4
          cases b with
          | false =>
            go_wp2
            go_ret
            exact ⟨⟨_, rfl⟩, HB0.out.trans ((HBI.out.trans (HC6.out.mono HBI.out.size)).mono HB0.out.size)⟩
          | true =>
            go_wp2
            go_roundw
            case rel => exact ⟨k + 1, klt, by go_num, ⟨HK.out.trans (HC6.out.mono HK.out.size)⟩⟩
            case measure => first | exact msF klt | (rw [wk2]; exact msF klt)
        · obtain rfl : k = kn := by omega
          have klt0 : ¬ ((k : Int) < (k : Int)) := Int.lt_irrefl _
          go_wp2
          go_roundw
          case rel => exact ⟨i + 1, hlt, by go_num, ⟨HBI.out⟩⟩
          case measure => first | exact msF hlt | (rw [wk]; exact msF hlt)
    · obtain rfl : i = n := by omega
      have hlt0 : ¬ ((i : Int) < (i : Int)) := Int.lt_irrefl _
      go_wp2
      go_ret
      refine ⟨?_, HBW.out⟩
      generalize (s0 == 5) = bb
      cases bb
      · exact .inl rfl
      · exact .inr rfl
set_option maxHeartbeats 2000000 in
set_option maxRecDepth 100000 in
theorem impl_Unicity {x z : IV} (h : EU be x z) (h5 : z.f0 = 5) (fx : Fine x) (x5 : x.f0 = 5) {v : Value} {w : World} (hv : MadeI x w v) (ht : Tab w) :
    Calls Tryz.prog 13 #[v] w fun e w' => (∃ E3 a3 E4 a4, e = .returned (.tuple #[cellsI z E3 a3 E4 a4, .bool true]) ∧ ∀ W' : World, (∀ k, w.heap.size ≤ k → k < w'.heap.size → W'.heap[k]? = w'.heap[k]?) → MadeI z W' (cellsI z E3 a3 E4 a4)) ∧ Below w.heap.size w w' := by
  obtain ⟨A3, c3, A4, c4, rfl, h3, g3, h4, g4⟩ := hv
  obtain ⟨W0, hW0⟩ : ∃ W0 : World, W0 = (w.alloc (Obj.cells #[.int .i64 x.f0, .int .i64 x.f1, .string x.f2, .slice A3 x.f3.length c3, .slice A4 x.f4.length c4] 34)).alloc (Obj.cells #[.int .i64 0, .int .i64 0, .string ⟨#[]⟩, .slice none 0 0, .slice none 0 0] 34) := ⟨_, rfl⟩
  have hb0 : Below w.heap.size w W0 := by rw [hW0]; exact ((Below.refl _ _).alloc (Nat.le_refl _) _).alloc (by simp) _
  have hbx : W0.heap[w.heap.size]? = some (.cells #[.int .i64 x.f0, .int .i64 x.f1, .string x.f2, .slice A3 x.f3.length c3, .slice A4 x.f4.length c4] 34 (0, 0)) := by rw [hW0]; exact heap_oldI (new_atI rfl)
  have HRE : Aside0 (W0.heap[w.heap.size + 1]? = some (.cells #[.int .i64 0, .int .i64 0, .string ⟨#[]⟩, .slice none 0 0, .slice none 0 0] 34 (0, 0))) := ⟨by rw [hW0]; exact new_atI (by simp)⟩
  have HT := Lib.hid (to_map fx.canon x5 (w := W0) (v := cellsI x A3 c3 A4 c4) ⟨A3, c3, A4, c4, rfl, h3, Kd.C_below g3 hb0, h4, Kd.C_below g4 hb0⟩)
  have HTB : Hid (∀ W, Below W0.heap.size W0 W → Tab W) := Lib.hid (fun W hW => ht.on_ (hb0.trans (hW.mono hb0.size)))
  have HU := Lib.hid (fun (W : World) (b : Nat) (P : Nat → Prop) (hf : FromF W P (.map b) x) (hl : ∀ n, P n → n < W.heap.size) (ht : Tab W) => override_EnforceUnicity h h5 hf hl ht)
  have HB0 := Aside0.mk hb0
  have HFX := Lib.hid fx
  have HS0 : Hid (W0.heap.size = w.heap.size + 2) := Lib.hid (by rw [hW0]; simp)
  have HW0 := Lib.hid hW0
  have m0 : W0.cell? ⟨w.heap.size, 0, none⟩ = some (.int .i64 x.f0) := (blk_cell hbx 0).trans rfl
  have m1 : W0.cell? ⟨w.heap.size, 1, none⟩ = some (.int .i64 x.f1) := (blk_cell hbx 1).trans rfl
  have m2 : W0.cell? ⟨w.heap.size, 2, none⟩ = some (.string x.f2) := (blk_cell hbx 2).trans rfl
  have m3 : W0.cell? ⟨w.heap.size, 3, none⟩ = some (.slice A3 x.f3.length c3) := (blk_cell hbx 3).trans rfl
  have m4 : W0.cell? ⟨w.heap.size, 4, none⟩ = some (.slice A4 x.f4.length c4) := (blk_cell hbx 4).trans rfl
  clear hb0 hW0 hbx h3 g3 h4 g4 h h5 fx x5 ht
  go_enter Tryz.func13, Tryz.ntmps13
  go_upto_region 1 with fail
  rw [← HW0.out]
  go_wp2_with fail
  refine HT.out.mono ?_
  clear m0 m1 m2 m3 m4
  rintro e w1 ⟨b1, rfl, ha1, hb1⟩
  have HA1 := Aside0.mk (ha1.toldF HFX.out)
  have H1 := Aside0.mk hb1
  clear ha1 hb1
  go_wp2_with fail
  refine (HU.out w1 _ _ HA1.out (fun n hn => hn.2) (HTB.out w1 H1.out)).mono ?_
  rintro e w2 ⟨b, rfl, hf2, ho2⟩
  have HF2 := Aside0.mk hf2.toFrom
  have H2 : Aside0 (Below W0.heap.size W0 w2) := ⟨H1.out.trans (ho2.toBelow (fun k hk => hk.1) H1.out.size)⟩
  clear hf2 ho2
  go_wp2_with fail
  refine (impl_model HF2.out).mono ?_
  rintro e w4 ⟨E3, a3, E4, a4, rfl, k3, k4, hb4⟩
  have hre : w4.heap[w.heap.size + 1]? = some (.cells #[.int .i64 0, .int .i64 0, .string ⟨#[]⟩, .slice none 0 0, .slice none 0 0] 34 (0, 0)) := blk_below (blk_below HRE.out H2.out) hb4
  have H4 := Aside0.mk (below_then H2.out H2.out.size hb4)
  have HS4 : Hid (W0.heap.size ≤ w2.heap.size) := Lib.hid H2.out.size
  have HM : Aside0 (∀ W' : World, (∀ k, w2.heap.size ≤ k → k < w4.heap.size → W'.heap[k]? = w4.heap[k]?) → MadeI z W' (cellsI z E3 a3 E4 a4)) := ⟨fun W' hW => fresh_kept k3 (Kd.R_mono k4 (fun _ _ => trivial)) hW⟩
  have n0 : w4.cell? ⟨w.heap.size + 1, 0, none⟩ = some (.int .i64 0) := (blk_cell hre 0).trans rfl
  have n1 : w4.cell? ⟨w.heap.size + 1, 1, none⟩ = some (.int .i64 0) := (blk_cell hre 1).trans rfl
  have n2 : w4.cell? ⟨w.heap.size + 1, 2, none⟩ = some (.string ⟨#[]⟩) := (blk_cell hre 2).trans rfl
  have n3 : w4.cell? ⟨w.heap.size + 1, 3, none⟩ = some (.slice none 0 0) := (blk_cell hre 3).trans rfl
  have n4 : w4.cell? ⟨w.heap.size + 1, 4, none⟩ = some (.slice none 0 0) := (blk_cell hre 4).trans rfl
  have f0 := blk_frozen hre 0
  have f1 := blk_frozen hre 1
  have f2 := blk_frozen hre 2
  have f3 := blk_frozen hre 3
  have f4 := blk_frozen hre 4
  clear hre k3 k4 hb4
  unfold cellsI
  go_wp2
  refine bodyPost_ret (v := .tuple #[cellsI z E3 a3 E4 a4, .bool true]) (by unfold cellsI; simp [results, Tryz.results13, go_sem, *]) rfl ?_
  refine ⟨⟨E3, a3, E4, a4, rfl, fun W' hW => HM.out W' (fun k hk hlt => ?_)⟩, below5 (HB0.out.trans (H4.out.mono HB0.out.size)) _ (Nat.le_succ _) _ _ _ _ _⟩
  have h1 := HS4.out
  have h2 := HS0.out
  rw [hW k (by omega) (by simpa using hlt)]
  exact far5_ (by omega) _ _ _ _ _
end Go.Proofs.YtiamiagjkfioiaaGreatDoor.A
