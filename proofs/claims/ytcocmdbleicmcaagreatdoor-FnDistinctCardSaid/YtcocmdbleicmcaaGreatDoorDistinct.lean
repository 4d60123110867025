/- The walks of utils.RemoveDuplicates and utils.ArrayContains, and of laws.FnDistinct. -/
import Derived.Test.YtcocmdbleicmcaaGreatDoorAwake
import Derived.Test.YtcocmdbleicmcaaGreatDoorShelf
import Derived.Test.YtcocmdbleicmcaaGreatDoorPairs
import Derived.Test.YtcocmdbleicmcaaGreatDoorDoor
import Derived.Test.YtcocmdbleicmcaaGreatDoorPXx3
import Derived.Test.YtcocmdbleicmcaaGreatDoorPXx5
namespace Go.Proofs.YtcocmdbleicmcaaGreatDoor.M
set_option linter.unusedVariables false
set_option linter.unusedSimpArgs false
set_option linter.unusedSectionVars false
open Go.RowKit Go.Proofs.YtcocmdbleicmcaaGreatDoorW.PrintWords Go.Proofs.YtcocmdbleicmcaaGreatDoorW.PrintLast Go.Proofs.YtcocmdbleicmcaaGreatDoor.PX Go.Proofs.YtcocmdbleicmcaaGreatDoor.SM

/-! ### plain -/
def dstep (out : List ByteArray) (x : ByteArray) : List ByteArray := if Lib.containsS out x = true then out else out ++ [x]
def dist (l : List ByteArray) : List ByteArray := l.foldl dstep []
theorem dist_snoc (l : List ByteArray) (x : ByteArray) : dist (l ++ [x]) = dstep (dist l) x := by simp [dist]
theorem dist_mem (l : List ByteArray) (x : ByteArray) : x ∈ dist l ↔ x ∈ l := by
  induction l using Ord.snocRec with
  | nil => simp [dist]
  | snoc l y ih =>
    rw [dist_snoc, dstep]
    split
    · rename_i h
      rw [Lib.containsS_iff] at h
      rw [ih]; simp only [List.mem_append, List.mem_singleton]
      exact ⟨.inl, fun h2 => h2.elim id (fun e => ih.1 (by rw [e]; exact h))⟩
    · simp only [List.mem_append, List.mem_singleton, ih]
theorem dist_nodup (l : List ByteArray) : (dist l).Nodup := by
  induction l using Ord.snocRec with
  | nil => simp [dist]
  | snoc l y ih =>
    rw [dist_snoc, dstep]
    split
    · exact ih
    · rename_i h
      exact List.nodup_append.2 ⟨ih, by simp, fun a ha b hb e => h ((Lib.containsS_iff _ _).2 (by rw [List.mem_singleton] at hb; rw [← hb, ← e]; exact ha))⟩
theorem dist_of_nodup {l : List ByteArray} (h : l.Nodup) : dist l = l := by
  induction l using Ord.snocRec with
  | nil => rfl
  | snoc l y ih =>
    obtain ⟨h1, _, h2⟩ := List.nodup_append.1 h
    rw [dist_snoc, ih h1, dstep, if_neg (fun hy => h2 y ((Lib.containsS_iff _ _).1 hy) y (by simp) rfl)]
theorem dist_dist (l : List ByteArray) : dist (dist l) = dist l := dist_of_nodup (dist_nodup l)
theorem dist_len (l : List ByteArray) : (dist l).length ≤ l.length := by
  induction l using Ord.snocRec with
  | nil => simp [dist]
  | snoc l y ih =>
    rw [dist_snoc, dstep]
    split <;> simp <;> omega
theorem in_l0 (l : List ByteArray) (s : ByteArray) (hl : l.length < 4398046511104) : ∀ n k i, n = l.length - i → i ≤ l.length → n + 1 ≤ k → spec_mapsIn.l0 k l s (i : Int) = some (Lib.containsS (l.drop i) s)
  | 0, k + 1, i, h, hi, hk => by
    obtain rfl : i = l.length := by omega
    rw [spec_mapsIn.l0, if_neg (by omega), List.drop_length]; rfl
  | n + 1, k + 1, i, h, hi, hk => by
    have hlt : i < l.length := by omega
    have hr : rdOf ByteArray.empty l (i : Int) = l[i] := by simp [rdOf, List.getD_eq_getElem?_getD, List.getElem?_eq_getElem hlt]
    rw [spec_mapsIn.l0, if_pos (by omega), if_pos (by omega), hr, wrapS i (by omega), in_l0 l s hl n k (i + 1) (by omega) (by omega) (by omega), List.drop_eq_getElem_cons hlt]
    by_cases e : l[i] = s
    · rw [if_pos (by rw [e]), (Lib.containsS_iff _ _).2 (by rw [e]; simp)]
    · rw [if_neg (fun h => e (Ord.toList_inj h))]
      congr 1
      rw [Bool.eq_iff_iff, Lib.containsS_iff, Lib.containsS_iff, List.mem_cons]
      exact ⟨.inr, fun h => h.elim (fun h => absurd h.symm e) id⟩
  | n, 0, i, h, hi, hk => by omega
theorem in_f (l : List ByteArray) (s : ByteArray) (hl : l.length < 4398046511104) (k : Nat) (hk : l.length + 1 ≤ k) : spec_mapsIn.f k l s = some (Lib.containsS l s) := by
  have := in_l0 l s hl l.length k 0 (by omega) (by omega) hk
  simpa [spec_mapsIn.f] using this
theorem distinct_l0 (l : List ByteArray) (hl : l.length < 4398046511104) : ∀ n i, n = l.length - i → i ≤ l.length → spec_Distinct.l0 (l.length + n + 2) l (dist (l.take i)) (i : Int) = some (dist l)
  | 0, i, h, hi => by
    obtain rfl : i = l.length := by omega
    rw [List.take_length, spec_Distinct.l0, if_neg (by omega)]
  | n + 1, i, h, hi => by
    have hlt : i < l.length := by omega
    have hr : rdOf ByteArray.empty l (i : Int) = l[i] := by simp [rdOf, List.getD_eq_getElem?_getD, List.getElem?_eq_getElem hlt]
    have hd := dist_len (l.take i)
    rw [List.length_take] at hd
    rw [show l.length + (n + 1) + 2 = (l.length + n + 2) + 1 by omega, spec_Distinct.l0, if_pos (by omega), if_pos (by omega), hr, in_f _ _ (by omega) _ (by omega), wrapS i (by omega)]
    have ih := distinct_l0 l hl n (i + 1) (by omega) (by omega)
    rw [List.take_succ_eq_append_getElem hlt, dist_snoc, dstep] at ih
    simp only [Option.bind_some]
    by_cases hin : Lib.containsS (dist (l.take i)) l[i] = true
    · rw [if_pos hin]; rw [if_pos hin] at ih; exact ih
    · rw [if_neg hin, if_pos (by omega)]; rw [if_neg hin] at ih; exact ih
theorem distinct_f (l : List ByteArray) (hl : l.length < 4398046511104) : spec_Distinct.f (l.length + l.length + 2) l = some (dist l) := by
  have := distinct_l0 l hl l.length 0 (by omega) (by omega)
  simpa [spec_Distinct.f, dist] using this
theorem sameT_l0 (l : List ByteArray) (hl : l.length < 4398046511104) : ∀ n i, n = l.length - i → i ≤ l.length → laws_sameTexts.l0 (n + 1) l l (i : Int) = some true
  | 0, i, h, hi => by
    obtain rfl : i = l.length := by omega
    rw [laws_sameTexts.l0, if_neg (by omega)]
  | n + 1, i, h, hi => by
    rw [laws_sameTexts.l0, if_pos (by omega), if_pos (by omega), if_pos (by omega), if_pos rfl, wrapS i (by omega)]
    exact sameT_l0 l hl n (i + 1) (by omega) (by omega)
theorem sameT_f (l : List ByteArray) (hl : l.length < 4398046511104) : laws_sameTexts.f (l.length + 1) l l = some true := by
  have := sameT_l0 l hl l.length 0 (by omega) (by omega)
  simpa [laws_sameTexts.f] using this
theorem fits2_l0 (l : List ByteArray) (hl : l.length ≤ 2147483647) : ∀ n i, n = l.length - i → i ≤ l.length → ∃ r, laws_zzFits2.l0 (n + 1) l (l.length : Int) (i : Int) = some r
  | 0, i, h, hi => by
    obtain rfl : i = l.length := by omega
    rw [laws_zzFits2.l0, if_neg (by omega)]; exact ⟨_, rfl⟩
  | n + 1, i, h, hi => by
    rw [laws_zzFits2.l0, if_pos (by omega), if_pos (by omega), if_pos (by omega), wrapS i (by omega)]
    split
    · exact ⟨_, rfl⟩
    · exact fits2_l0 l hl n (i + 1) (by omega) (by omega)
theorem fits2 (l : List ByteArray) : ∃ r, laws_zzFits2.f (l.length + 1) l = some r ∧ (r = true → l.length ≤ 2147483647) := by
  unfold laws_zzFits2.f
  split
  · exact ⟨_, rfl, fun h => by cases h⟩
  · obtain ⟨r, hr⟩ := fits2_l0 l (by omega) l.length 0 (by omega) (by omega)
    exact ⟨r, hr, fun _ => by omega⟩
theorem zeroBool (w : World) : (zeroValue 4).run Tryz.prog w = .ok (.bool false) w := by kernel_rfl
theorem infoT : (Tryz.prog.info? 9).map (fun i => (i.zero, i.size, i.bytes)) = some (some (.string ⟨#[]⟩), 1, 16) := by kernel_rfl

/-! ### slices.Contains -/
theorem slices_Contains (A : Option Addr) (c : Nat) (l : List ByteArray) (x : ByteArray) (w : World) (h : Kd.C Kd.string w A l.length l) :
    Calls Tryz.prog 88 #[.slice A l.length c, .string x] w fun e w' => e = .returned (.bool (Lib.containsS l x)) ∧ w' = w := by
  rcases Nat.eq_zero_or_pos l.length with h0 | h0
  · have : l = [] := List.eq_nil_of_length_eq_zero h0
    subst this
    exact Tryz.slices_Contains_string_empty A c x w
  · have hc : ∀ j, j < l.length → ∃ ad, A = some ad ∧ w.cell? (ad.add j) = some (.string (l.getD j ByteArray.empty)) := fun j hj => by
      obtain ⟨ad, e, hx⟩ := Kd.at_string h (j : Int) (by omega) (by omega)
      exact ⟨ad, e, by simpa [rdOf] using hx⟩
    obtain ⟨ad, rfl, hx⟩ := hc 0 h0
    have hsp : ad.spot = none := by
      have : ad.add 0 = ad := by simp [Addr.add]
      rw [this] at hx
      exact (L.cell_spot hx).1
    obtain ⟨b, off, sp⟩ := ad
    simp only at hsp
    subst hsp
    have := Tryz.slices_Contains_string b off l.length c l x w (Nat.le_refl _) h.2.1 (fun j hj => by
      obtain ⟨ad, e, hx⟩ := hc j hj
      injection e with e
      subst e
      rwa [L.addr_add _ _ rfl] at hx)
    rw [List.take_length] at this
    exact this

/-! ### the walks -/
theorem mem_of_keyB {m : List (ByteArray × Bool)} {k : ByteArray} (h : k ∈ keys m) : ∃ v, (k, v) ∈ m := by
  obtain ⟨p, hp, rfl⟩ := List.mem_map.1 h
  exact ⟨p.2, hp⟩
theorem has_dist {m : List (ByteArray × Bool)} {D : List ByteArray} (h : ∀ k, has m k = Lib.containsS D k) {x : ByteArray} (hx : Lib.containsS D x = false) : ∀ k, has (put m x true) k = Lib.containsS (D ++ [x]) k := by
  intro k
  rw [Bool.eq_iff_iff, has_iff, Lib.containsS_iff, List.mem_append, List.mem_singleton, ← Lib.containsS_iff D k, ← h, has_iff]
  constructor
  · intro hk
    obtain ⟨v, hv⟩ := mem_of_keyB hk
    rcases (mem_put (k, v)).1 hv with e | ⟨_, h2⟩
    · injection e with e1 _; exact .inr e1
    · exact .inl (List.mem_map_of_mem (f := (·.1)) h2)
  · rintro (hk | rfl)
    · obtain ⟨v, hv⟩ := mem_of_keyB hk
      have hne : k ≠ x := fun e => by
        subst e
        have := h k
        rw [hx, has_false] at this
        exact this hk
      exact List.mem_map_of_mem (f := (·.1)) ((mem_put (k, v)).2 (.inr ⟨hne, hv⟩))
    · exact List.mem_map_of_mem (f := (·.1)) ((mem_put (k, true)).2 (.inl rfl))
set_option maxHeartbeats 4000000 in
set_option maxRecDepth 100000 in
theorem utils_RemoveDuplicates (A0 : Option Addr) (c0 : Nat) (l0 : List ByteArray) (w : World) (hr0 : Kd.C Kd.string w A0 l0.length l0) (hc0 : l0.length ≤ c0) (hl : l0.length ≤ 1099511627776) :
    Calls Tryz.prog 55 #[.slice A0 l0.length c0] w fun e w' => ∃ v, e = .returned v ∧ Kd.R Kd.string 9 w' w.heap.size (fun _ => True) v (dist l0) ∧ Below w.heap.size w w' := by
  have HR0 := Aside0.mk hr0
  clear hr0 hc0
  have hmm := @run_makeMap Tryz.prog
  have hmu := Tryz.underlying115
  go_enter Tryz.func55, Tryz.ntmps55
  go_wp2_with (refine Kd.R_lit Kd.string (w0 := w) w.heap.size 9 rfl (N := 10) rfl (xs := []) (inner := []) (ok := fun k => k ≠ w.heap.size) (okp := fun _ => False) ?hr ?hp (fun _ h => h.elim) ?hf ?hB ?hS (by simp) ?_; (case hr => first | (go_simp; done) | (go_simp; rfl)); (case hp => exact Reps.none _ _); (case hf => exact Nat.ne_of_gt (TMap.made (cenc := Value.bool) w).lt); (case hB => exact (Below.refl _ _).alloc (Nat.le_refl _) _); (case hS => exact ((Below.refl w.heap.size w).alloc (Nat.le_refl _) _).size); intro v5 w5 ho5 hb5 hg5 hn5; have HO5 := Aside0.mk ho5; have HB5 := Aside0.mk hb5; have HM5 := Aside0.mk ((TMap.made (cenc := Value.bool) w).grown hg5 (by simp)); clear ho5 hb5 hg5 hn5)
  go_loopw [4, 13] (fun v4 v13 wr => ∃ i : Nat, i ≤ l0.length ∧ v13 = .int .i64 i ∧ Aside0 (∃ m, TMap wr w.heap.size Value.bool m ∧ ∀ k, has m k = Lib.containsS (dist (l0.take i)) k) ∧ Aside0 (Kd.R Kd.string 9 wr w.heap.size (fun k => k ≠ w.heap.size) v4 (dist (l0.take i))) ∧ Aside0 (Below w.heap.size w wr)) (fun _ v13 _ => l0.length - (intOf v13).toNat)
  case atStart => exact ⟨0, Nat.zero_le _, rfl, ⟨[], HM5.out, fun _ => rfl⟩, HO5, HB5⟩
  case round =>
    obtain ⟨i, hi, rfl, HM, HO, HB⟩ := hrel
    by_cases hlt : i < l0.length
    · obtain ⟨Ao, co, rfl⟩ := Kd.R_slice HO.out
      obtain ⟨ad0, rfl, hx0⟩ := Kd.at_string HR0.out (i : Int) (by omega) (by omega)
      replace hx0 := (HB.out.cell (World.block_lt_of_cell? w _ hx0)).trans hx0
      obtain ⟨x, hx⟩ : ∃ x, x = rdOf ByteArray.empty l0 (i : Int) := ⟨_, rfl⟩
      rw [← hx] at hx0
      simp only [Int.toNat_natCast] at hx0
      have hxe : x = l0[i] := by rw [hx]; simp [rdOf, List.getD_eq_getElem?_getD, List.getElem?_eq_getElem hlt]
      obtain ⟨D, hD⟩ : ∃ D, D = dist (l0.take i) := ⟨_, rfl⟩
      have hDl : D.length ≤ i := by rw [hD]; exact Nat.le_trans (dist_len _) (List.length_take_le _ _)
      have HDN := Lib.hid (show dist (l0.take (i + 1)) = dstep D x by rw [take_next hlt, dist_snoc, hD, hxe])
      rw [← hD] at HM HO ⊢
      obtain ⟨m, hm, hh⟩ := HM.out
      have HT := Aside0.mk hm
      have HH := Lib.hid hh
      have hze := zeroBool wr
      have hhx := hh x
      clear hx hxe hD hm hh HM
      obtain ⟨y, hy⟩ : ∃ y, ((SM.look m x).map Value.bool).getD (.bool false) = y := ⟨_, rfl⟩
      have HY := Lib.hid hy
      clear hy
      cases hin : Lib.containsS D x with
      | true =>
        rw [hin] at hhx
        have HIN := Lib.hid hin
        clear hin
        go_wp2_with (at_lookup; refine wp_look rfl _ _ true rfl Tryz.underlying115 Tryz.underlying9 rfl HT.out x rfl hze ?_; rw [if_pos rfl, hhx, HY.out])
        go_roundw
        case rel =>
          refine ⟨i + 1, by omega, by go_num, ⟨m, HT.out, ?_⟩, ⟨?_⟩, HB⟩
          · rw [HDN.out, dstep, if_pos HIN.out]; exact HH.out
          · rw [HDN.out, dstep, if_pos HIN.out]; exact HO.out
        case measure => simp [intOf]; omega
      | false =>
        rw [hin] at hhx
        have HIN := Lib.hid hin
        clear hin
        go_wp2_with (first | (at_lookup; refine wp_look rfl _ _ true rfl Tryz.underlying115 Tryz.underlying9 rfl HT.out x rfl hze ?_; rw [if_pos rfl, hhx, HY.out]) | (at_mapUpdate; refine wp_put rfl _ _ _ rfl Tryz.underlying115 Tryz.underlying9 rfl HT.out x true rfl rfl HB.out (Nat.le_refl _) ?_; intro w1 hm1 hb1 hg1 hs1; have HM1 := Aside0.mk hm1; have HB1 := Aside0.mk hb1; have HO1 := Aside0.mk (Kd.R_grown HO.out hg1 (fun k hk e => hk (by injection e))); clear hm1 hb1 hg1 hs1) | (at_builtin; refine Kd.R_append Kd.string (w0 := w) w.heap.size rfl _ _ 22 9 (.string ⟨#[]⟩) 16 rfl Tryz.underlying22 infoT rfl (by decide) (by decide) _ D x [.string x] (fun k => k ≠ w.heap.size) (fun _ => False) rfl rfl ?hp (fun _ h => h.elim) ?hf ?hO ?hB ?hS ?hL ?_; (case hp => exact rfl); (case hf => intro k hk; have := HM1.out.lt; omega); (case hO => exact HO1.out); (case hB => exact HB1.out); (case hS => exact HB1.out.size); (case hL => omega); intro v2 w2 ho2 hb2 hg2 hat2; have HO2 := Aside0.mk ho2; have HB2 := Aside0.mk hb2; have HM2 := Aside0.mk (HM1.out.grown hg2 (fun e => (HO1.out.1 _ e.symm) rfl)); clear ho2 hb2 hg2 hat2))
        go_roundw
        case rel =>
          refine ⟨i + 1, by omega, by go_num, ⟨_, HM2.out, ?_⟩, ⟨?_⟩, HB2⟩
          · rw [HDN.out, dstep, if_neg (by rw [HIN.out]; simp)]; exact has_dist HH.out HIN.out
          · rw [HDN.out, dstep, if_neg (by rw [HIN.out]; simp)]; exact HO2.out
        case measure => simp [intOf]; omega
    · go_wp2
      go_ret
      obtain rfl : i = l0.length := by omega
      rw [List.take_length] at HO
      exact ⟨_, rfl, Kd.R_mono HO.out (fun _ _ => trivial), HB.out⟩
set_option maxHeartbeats 4000000 in
theorem utils_ArrayContains (A0 : Option Addr) (c0 : Nat) (l0 : List ByteArray) (A1 : Option Addr) (c1 : Nat) (l1 : List ByteArray) (w : World) (hr0 : Kd.C Kd.string w A0 l0.length l0) (hc0 : l0.length ≤ c0) (hr1 : Kd.C Kd.string w A1 l1.length l1) (hc1 : l1.length ≤ c1) (hl : l1.length ≤ 1099511627776) (hs : ∀ x, x ∈ l1 → x ∈ l0) :
    Calls Tryz.prog 57 #[.slice A0 l0.length c0, .slice A1 l1.length c1] w fun e w' => e = .returned (.bool true) ∧ w' = w := by
  have HR0 := Aside0.mk hr0
  have HR1 := Aside0.mk hr1
  have HS := Lib.hid hs
  clear hr0 hc0 hr1 hc1 hs
  go_enter Tryz.func57, Tryz.ntmps57
  go_wp2
  go_loopw [9] (fun v9 wr => ∃ i : Nat, i ≤ l1.length ∧ v9 = .int .i64 i ∧ wr = w) (fun v9 _ => l1.length - (intOf v9).toNat)
  case atStart => exact ⟨0, Nat.zero_le _, rfl, rfl⟩
  case round =>
    obtain ⟨i, hi, rfl, rfl⟩ := hrel
    by_cases hlt : i < l1.length
    · obtain ⟨ad0, rfl, hx0⟩ := Kd.at_string HR1.out (i : Int) (by omega) (by omega)
      obtain ⟨x, hx⟩ : ∃ x, x = rdOf ByteArray.empty l1 (i : Int) := ⟨_, rfl⟩
      have hxe : x = l1[i] := by rw [hx]; simp [rdOf, List.getD_eq_getElem?_getD, List.getElem?_eq_getElem hlt]
      rw [← hx] at hx0
      simp only [Int.toNat_natCast] at hx0
      have HX := Lib.hid (show Lib.containsS l0 x = true from (Lib.containsS_iff _ _).2 (HS.out x (by rw [hxe]; exact List.getElem_mem _)))
      clear hx hxe
      go_wp2_with (go_at_call 88; refine (slices_Contains A0 c0 l0 x _ HR0.out).mono ?_; rintro e w1 ⟨rfl, rfl⟩; rw [HX.out])
      go_roundw
      case rel => exact ⟨i + 1, by omega, by go_num, by first | rfl | trivial⟩
      case measure => simp [intOf]; omega
    · go_wp2
      go_ret
      first | exact ⟨rfl, rfl⟩ | exact ⟨rfl, trivial⟩
set_option maxHeartbeats 4000000 in
theorem impl_RemoveDuplicates (A0 : Option Addr) (c0 : Nat) (l0 : List ByteArray) (w : World) (hr0 : Kd.C Kd.string w A0 l0.length l0) (hc0 : l0.length ≤ c0) (hl : l0.length ≤ 1099511627776) :
    Calls Tryz.prog 12 #[.slice A0 l0.length c0] w fun e w' => ∃ v, e = .returned v ∧ Kd.R Kd.string 9 w' w.heap.size (fun _ => True) v (dist l0) ∧ Below w.heap.size w w' := by
  have HR0 := Aside0.mk hr0
  have HC0 := Aside0.mk hc0
  clear hr0 hc0
  go_enter Tryz.func12, Tryz.ntmps12
  go_wp2_with (go_at_call 55; refine (utils_RemoveDuplicates A0 c0 l0 _ HR0.out HC0.out hl).mono ?_; rintro e w1 ⟨v, rfl, ho, hb⟩; have HO := Aside0.mk ho; have HB := Aside0.mk hb; clear ho hb)
  go_ret
  exact ⟨_, rfl, HO.out, HB.out⟩
set_option maxHeartbeats 4000000 in
theorem impl_ArrayContains (A0 : Option Addr) (c0 : Nat) (l0 : List ByteArray) (A1 : Option Addr) (c1 : Nat) (l1 : List ByteArray) (w : World) (hr0 : Kd.C Kd.string w A0 l0.length l0) (hc0 : l0.length ≤ c0) (hr1 : Kd.C Kd.string w A1 l1.length l1) (hc1 : l1.length ≤ c1) (hl : l1.length ≤ 1099511627776) (hs : ∀ x, x ∈ l1 → x ∈ l0) :
    Calls Tryz.prog 15 #[.slice A0 l0.length c0, .slice A1 l1.length c1] w fun e w' => e = .returned (.bool true) ∧ w' = w := by
  have HR0 := Aside0.mk hr0
  have HR1 := Aside0.mk hr1
  have HC0 := Aside0.mk hc0
  have HC1 := Aside0.mk hc1
  have HS := Lib.hid hs
  clear hr0 hc0 hr1 hc1 hs
  go_enter Tryz.func15, Tryz.ntmps15
  go_wp2_with (go_at_call 57; refine (utils_ArrayContains A0 c0 l0 A1 c1 l1 _ HR0.out HC0.out HR1.out HC1.out hl HS.out).mono ?_; rintro e w1 ⟨rfl, rfl⟩)
  go_ret
  first | exact ⟨rfl, rfl⟩ | exact ⟨rfl, trivial⟩
set_option maxHeartbeats 4000000 in
set_option maxRecDepth 100000 in
theorem law_FnDistinct (A0 : Option Addr) (c0 : Nat) (l0 : List ByteArray) (w : World) (hr0 : Kd.C Kd.string w A0 l0.length l0) (hc0 : l0.length ≤ c0) (htab : Lib.TabIs Tryz.prog w "strings.asciiSpace" .u8 Lib.asciiSpaceTab) :
    Calls Tryz.prog 3 #[.slice A0 l0.length c0] w fun e w' => e = .returned (.bool true) ∧ Below w.heap.size w w' := by
  have HT := Lib.hid (Lib.tabBelow_of_tabIs htab)
  have HR0 := Aside0.mk hr0
  have HC0 := Aside0.mk hc0
  clear htab hr0 hc0
  obtain ⟨r0, hf0, hs0⟩ := fits2 l0
  have HF0 := Lib.hid hf0
  have HS0 := Lib.hid hs0
  clear hf0 hs0
  go_enter Tryz.func3, Tryz.ntmps3
  go_upto_region 1 with (fail)
  cases r0 with
  | false =>
    go_wp2_with (first
      | (go_at_call 11; refine (laws_zzFits2.calls _ A0 c0 l0 false _ HR0.out HC0.out HF0.out).mono ?_; rintro e w1 ⟨rfl, hd1⟩; have HB1 := Aside0.mk (show Below w.heap.size w w1 from hd1.below); clear hd1))
    go_ret
    exact ⟨rfl, HB1.out⟩
  | true =>
    have hL0 := HS0.out rfl
    obtain ⟨D, hD⟩ : ∃ D, D = dist l0 := ⟨_, rfl⟩
    have hDL : D.length ≤ 2147483647 := by rw [hD]; exact Nat.le_trans (dist_len _) hL0
    have HDF := Lib.hid (show spec_Distinct.f (l0.length + l0.length + 2) l0 = some D by rw [hD]; exact distinct_f l0 (by omega))
    have HDD := Lib.hid (show dist D = D by rw [hD]; exact dist_dist l0)
    have HSA := Lib.hid (sameT_f D (by omega))
    have HS1 := Lib.hid (show ∀ x, x ∈ D → x ∈ l0 from fun x hx => by rw [hD] at hx; exact (dist_mem l0 x).1 hx)
    have HS2 := Lib.hid (show ∀ x, x ∈ l0 → x ∈ D from fun x hx => by rw [hD]; exact (dist_mem l0 x).2 hx)
    have HD := Lib.hid hD
    clear hD
    go_wp2_with (first
      | (go_at_call 11; refine (laws_zzFits2.calls _ A0 c0 l0 true _ HR0.out HC0.out HF0.out).mono ?_; rintro e w1 ⟨rfl, hd1⟩; have HB1 := Aside0.mk (show Below w.heap.size w w1 from hd1.below); clear hd1)
      | (go_at_call_has 12 A0; refine (impl_RemoveDuplicates A0 c0 l0 _ (Kd.C_below HR0.out HB1.out) HC0.out (by omega)).mono ?_; rintro e w2 ⟨v2, rfl, ho2, hb2⟩; rw [← HD.out] at ho2; obtain ⟨A2, c2, rfl, hl2, hC2⟩ := Kd.R_reads ho2; have HC2 := Aside0.mk hC2; have HL2 := Aside0.mk hl2; have HB2 := Aside0.mk (below_then HB1.out HB1.out.size hb2); clear ho2 hC2 hl2 hb2)
      | (go_at_call 14; refine (spec_Distinct.calls _ A0 c0 l0 D _ (Kd.C_below HR0.out HB2.out) HC0.out HDF.out).mono ?_; rintro e w3 ⟨v3, rfl, ho3, hb3⟩; obtain ⟨A3, c3, rfl, hl3, hC3⟩ := Kd.R_reads ho3; have HC3 := Aside0.mk hC3; have HL3 := Aside0.mk hl3; have HC2b := Aside0.mk (Kd.C_below HC2.out hb3); have HB3 := Aside0.mk (below_then HB2.out HB2.out.size hb3); clear ho3 hC3 hl3 hb3)
      | (go_at_call_has 13 A3; refine (laws_sameTexts.calls _ A2 c2 D A3 c3 D true _ HC2b.out HL2.out HC3.out HL3.out HSA.out).mono ?_; rintro e w4 ⟨rfl, hd4⟩; have HC2c := Aside0.mk (Kd.C_below HC2b.out hd4.below); have HB4 := Aside0.mk (below_then HB3.out HB3.out.size hd4.below); clear hd4)
      | (go_at_call_has 12 A2; refine (impl_RemoveDuplicates A2 c2 D _ HC2c.out HL2.out (by omega)).mono ?_; rintro e w5 ⟨v5, rfl, ho5, hb5⟩; rw [HDD.out] at ho5; obtain ⟨A5, c5, rfl, hl5, hC5⟩ := Kd.R_reads ho5; have HC5 := Aside0.mk hC5; have HL5 := Aside0.mk hl5; have HC2d := Aside0.mk (Kd.C_below HC2c.out hb5); have HB5 := Aside0.mk (below_then HB4.out HB4.out.size hb5); clear ho5 hC5 hl5 hb5)
      | (go_at_call_has 13 A5; refine (laws_sameTexts.calls _ A5 c5 D A2 c2 D true _ HC5.out HL5.out HC2d.out HL2.out HSA.out).mono ?_; rintro e w6 ⟨rfl, hd6⟩; have HC2e := Aside0.mk (Kd.C_below HC2d.out hd6.below); have HB6 := Aside0.mk (below_then HB5.out HB5.out.size hd6.below); clear hd6)
      | (go_at_call 15; refine (impl_ArrayContains A0 c0 l0 A2 c2 D _ (Kd.C_below HR0.out HB6.out) HC0.out HC2e.out HL2.out (by omega) HS1.out).mono ?_; rintro e w7 ⟨rfl, rfl⟩)
      | (go_at_call 15; refine (impl_ArrayContains A2 c2 D A0 c0 l0 _ HC2e.out HL2.out (Kd.C_below HR0.out HB6.out) HC0.out (by omega) HS2.out).mono ?_; rintro e w8 ⟨rfl, rfl⟩)
      | (go_at_call 16; refine (laws_mapsAwake _ (HT.out _ HB6.out)).mono ?_; rintro e wb ⟨rfl, hbb⟩; have HBb := Aside0.mk (below_then HB6.out HB6.out.size hbb); clear hbb))
    go_ret
    exact ⟨rfl, HBb.out⟩
end Go.Proofs.YtcocmdbleicmcaaGreatDoor.M
