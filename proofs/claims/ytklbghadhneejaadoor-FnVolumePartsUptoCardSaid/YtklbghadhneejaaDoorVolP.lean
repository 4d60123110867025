/- The walk of laws.FnVolumeParts. -/
import Derived.Test.YtklbghadhneejaaDoorVolS
import Derived.Test.YtklbghadhneejaaDoorVolJ
import Derived.Test.YtklbghadhneejaaDoorVolL
import Derived.Test.YtklbghadhneejaaDoorPXx5
import Derived.Test.YtklbghadhneejaaDoorWEqStruct
namespace Go.Proofs.YtklbghadhneejaaDoor.V
set_option linter.unusedVariables false
set_option linter.unusedSimpArgs false
set_option linter.unusedSectionVars false
open Go.RowKit Go.Proofs.YtklbghadhneejaaDoorW.PrintWords Go.Proofs.YtklbghadhneejaaDoorW.PrintLast Go.Proofs.YtklbghadhneejaaDoor.PX

theorem fits2_l0 (l : List ByteArray) (hl : l.length ≤ 2147483647) : ∀ n i, n = l.length - i → i ≤ l.length → ∃ r, laws_zzFits2.l0 (n + 1) l (l.length : Int) (i : Int) = some r
  | 0, i, h, hi => by
    obtain rfl : i = l.length := by omega
    rw [laws_zzFits2.l0, if_neg (by omega)]; exact ⟨_, rfl⟩
  | n + 1, i, h, hi => by
    rw [laws_zzFits2.l0, if_pos (by omega), if_pos (by omega), if_pos (by omega), wrapS i (by omega)]
    split
    · exact ⟨_, rfl⟩
    · exact fits2_l0 l hl n (i + 1) (by omega) (by omega)
theorem fits2 (l : List ByteArray) : ∃ r, laws_zzFits2.f (l.length + 1) l = some r ∧ (r = true → l.length ≤ 2147483647) := by
  unfold laws_zzFits2.f
  split
  · exact ⟨_, rfl, fun h => by cases h⟩
  · obtain ⟨r, hr⟩ := fits2_l0 l (by omega) l.length 0 (by omega) (by omega)
    exact ⟨r, hr, fun _ => by omega⟩
theorem eqA25 (d : Nat) (w : World) (v : SV) :
    (Op.equalIn (d + 2) 25 (.agg #[.string v.ty, .string v.src, .string v.tgt, .string v.prop, .string v.sel, .bool v.ro, .bool v.cr, .bool v.nc]) (.agg #[.string v.ty, .string v.src, .string v.tgt, .string v.prop, .string v.sel, .bool v.ro, .bool v.cr, .bool v.nc])).run Tryd.prog w = .ok true w := by
  refine eqA_of Tryd.underlying25 (by kernel_rfl) ?_
  refine eqf_end (by rfl) (by go_simp; rfl) (by go_simp; rfl) (by go_simp) ?_
  refine eqf_end (by rfl) (by go_simp; rfl) (by go_simp; rfl) (by go_simp) ?_
  refine eqf_end (by rfl) (by go_simp; rfl) (by go_simp; rfl) (by go_simp) ?_
  refine eqf_end (by rfl) (by go_simp; rfl) (by go_simp; rfl) (by go_simp) ?_
  refine eqf_end (by rfl) (by go_simp; rfl) (by go_simp; rfl) (by go_simp) ?_
  refine eqf_end (by rfl) (by go_simp; rfl) (by go_simp; rfl) (by go_simp) ?_
  refine eqf_end (by rfl) (by go_simp; rfl) (by go_simp; rfl) (by go_simp) ?_
  exact eqf_last (by rfl) (by go_simp; rfl) (by go_simp; rfl) (by go_simp)
/-- The program's own answer at a text of which v is said. -/
theorem impl_good (s : ByteArray) (v : SV) (hg : Good s v) (hs : s.size ≤ 4294967294) : ∃ bi ow : Bool, ∀ w : World, Calls Tryd.prog 8 #[.string s] w fun e w' => e = .returned (.tuple #[.agg #[.string v.ty, .string v.src, .string v.tgt, .string ⟨#[]⟩, .string v.prop, .string v.sel, .bool v.ro, .bool v.cr, .bool v.nc, .bool bi, .bool ow, .bool false], .bool true]) ∧ Below w.heap.size w w' := by
  obtain ⟨h3, u, p, hrun, hp, hsz, hsame⟩ := hg
  have hc : implCells (popT u p) = #[.string v.ty, .string v.src, .string v.tgt, .string ⟨#[]⟩, .string v.prop, .string v.sel, .bool v.ro, .bool v.cr, .bool v.nc, .bool (popT u p).bind.isSome, .bool (popT u p).own.isSome, .bool false] := by
    rw [implCells, hsame.ty, hsame.src, hsame.tgt, hsame.prop, hsame.sel, hsame.ro, hsame.cr, hsame.nc]
  refine ⟨(popT u p).bind.isSome, (popT u p).own.isSome, fun w => ?_⟩
  rw [← hc]
  rcases hsame.shape with ⟨hb, nc, ho⟩ | ⟨ho, b, hb⟩
  · exact impl_ParseVolume_own s u p nc w h3 hs hrun hp (by omega) hb ho
  · obtain ⟨sel, prop, cr⟩ := b
    exact impl_ParseVolume_bind s u p sel prop cr w h3 hs hrun hp (by omega) hb ho
set_option maxHeartbeats 8000000 in
set_option maxRecDepth 100000 in
theorem law_VolumeParts (a0 a1 : ByteArray) (A2 : Option Addr) (c2 : Nat) (l2 : List ByteArray) (w : World) (hr2 : Kd.C Kd.string w A2 l2.length l2) (hc2 : l2.length ≤ c2) (h0 : a0.size ≤ 1048576) (h1 : a1.size ≤ 1048576) (h2 : (l2.map fun x => x.size + 1).sum ≤ 1048576) :
    Calls Tryd.prog 3 #[.string a0, .string a1, .slice A2 l2.length c2] w fun e w' => e = .returned (.bool true) ∧ Below w.heap.size w w' := by
  have HR2 := Aside0.mk hr2
  have HC2 := Aside0.mk hc2
  obtain ⟨r, hf, hfs⟩ := fits2 l2
  have HF2 := Lib.hid hf
  have HFS := Lib.hid hfs
  have g0 : ¬ (a0.size : Int) > 2147483647 := by omega
  have g1 : ¬ (a1.size : Int) > 2147483647 := by omega
  clear hr2 hc2 hf hfs
  go_enter Tryd.func3, Tryd.ntmps3
  cases r with
  | false =>
    go_wp2_with (go_at_call 5; refine (laws_zzFits2.calls _ A2 c2 l2 false _ HR2.out HC2.out HF2.out).mono ?_; rintro e w1 ⟨rfl, hd⟩; have HB1 := Aside0.mk (show Below w.heap.size w w1 from hd.below); clear hd)
    go_ret
    exact ⟨rfl, HB1.out⟩
  | true =>
    have hll := HFS.out rfl
    by_cases he : a0 = ⟨#[]⟩
    · have hz : a0.toList = [] := by rw [he, ByteArray.toList_eq]
      clear he
      go_upto_region 7 with (go_at_call 5; refine (laws_zzFits2.calls _ A2 c2 l2 true _ HR2.out HC2.out HF2.out).mono ?_; rintro e w1 ⟨rfl, hd⟩; have HB1 := Aside0.mk (show Below w.heap.size w w1 from hd.below); clear hd)
      go_loopw [7, 8] (fun v7 v8 wr => v7 = .string a1 ∧ v8 = .int .i64 0 ∧ Aside0 (Below w.heap.size w wr)) (fun _ _ _ => 0)
      case atStart => exact ⟨rfl, rfl, HB1⟩
      case round =>
        obtain ⟨rfl, rfl, HB⟩ := hrel
        rcases Nat.eq_zero_or_pos l2.length with hl0 | hl0
        · have hd0 : ¬ (0 : Int) < (l2.length : Int) := by omega
          go_upto_region 12 with (fail)
          clear hz hd0
          obtain ⟨v, said, hf, hgood⟩ := short_f a1 (by omega)
          have HF := Aside0.mk hf
          clear hf
          cases said with
          | false =>
            clear hgood
            go_wp2_with (first
              | (go_at_call 6; refine (short_calls _ a1 _ _ _ _ _ _ _ _ false _ HF.out).mono ?_; rintro e w5 ⟨rfl, hb⟩; have HB5 := Aside0.mk (below_then HB.out HB.out.size hb); clear hb)
              | (go_at_call 7; refine (laws_shortAwake _).mono ?_; rintro e w6 ⟨rfl, hb⟩; have HB6 := Aside0.mk (below_then (HB5.out.alloc HB5.out.size _) (Nat.le_trans HB5.out.size (by simp)) hb); clear hb))
            go_ret
            exact ⟨rfl, HB6.out⟩
          | true =>
            have HG := Lib.hid (hgood rfl)
            clear hgood
            by_cases e1 : v.src = a0
            · by_cases e2 : v.tgt = a1
              · have HE1 := Lib.hid e1
                have HE2 := Lib.hid e2
                obtain ⟨bi, ow, himp⟩ := impl_good a1 v HG.out (by omega)
                have HIMP := Lib.hid himp
                have x1 : (v.src.toList == a0.toList) = true := by rw [e1]; exact beq_self_eq_true _
                have x2 : (v.tgt.toList == a1.toList) = true := by rw [e2]; exact beq_self_eq_true _
                clear himp e1 e2
                go_upto_region 16 with (first
                  | (go_at_call 6; refine (short_calls _ a1 _ _ _ _ _ _ _ _ true _ HF.out).mono ?_; rintro e w5 ⟨rfl, hb⟩; have HB5 := Aside0.mk (below_then HB.out HB.out.size hb); clear hb)
                  | (go_at_call 8; refine (HIMP.out _).mono ?_; rintro e w7 ⟨rfl, hb⟩; have HB7 := Aside0.mk (below_then (HB5.out.alloc HB5.out.size _) (Nat.le_trans HB5.out.size (by simp)) hb); have HC7 := Aside0.mk ((hb.block w5.heap.size (by simp)).trans (heap_alloc_new w5 _)); clear hb))
                have hL := heap_alloc_new w7 (.cells #[.string v.ty, .string v.src, .string v.tgt, .string ⟨#[]⟩, .string v.prop, .string v.sel, .bool v.ro, .bool v.cr, .bool v.nc, .bool bi, .bool ow, .bool false] 30)
                have hS := alloc_keep (o' := .cells #[.string v.ty, .string v.src, .string v.tgt, .string ⟨#[]⟩, .string v.prop, .string v.sel, .bool v.ro, .bool v.cr, .bool v.nc, .bool bi, .bool ow, .bool false] 30) HC7.out
                have hBz := HB7.out.alloc HB7.out.size (.cells #[.string v.ty, .string v.src, .string v.tgt, .string ⟨#[]⟩, .string v.prop, .string v.sel, .bool v.ro, .bool v.cr, .bool v.nc, .bool bi, .bool ow, .bool false] 30)
                have hzz : w5.heap.size < w7.heap.size := (Array.getElem?_eq_some_iff.1 HC7.out).1
                generalize w7.alloc (.cells #[.string v.ty, .string v.src, .string v.tgt, .string ⟨#[]⟩, .string v.prop, .string v.sel, .bool v.ro, .bool v.cr, .bool v.nc, .bool bi, .bool ow, .bool false] 30) = W at hL hS hBz ⊢
                generalize w7.heap.size = z7 at hL hzz ⊢
                generalize w5.heap.size = z5 at hS hzz ⊢
                have HBW := Aside0.mk hBz
                clear hBz HB7 HC7
                have l0 := (blk_cell hL 0).trans (show _ = some (Value.string v.ty) from rfl)
                have l1 := (blk_cell hL 1).trans (show _ = some (Value.string v.src) from rfl)
                have l2 := (blk_cell hL 2).trans (show _ = some (Value.string v.tgt) from rfl)
                have l3 := (blk_cell hL 3).trans (show _ = some (Value.string ⟨#[]⟩) from rfl)
                have l4 := (blk_cell hL 4).trans (show _ = some (Value.string v.prop) from rfl)
                have l5 := (blk_cell hL 5).trans (show _ = some (Value.string v.sel) from rfl)
                have l6 := (blk_cell hL 6).trans (show _ = some (Value.bool v.ro) from rfl)
                have l7 := (blk_cell hL 7).trans (show _ = some (Value.bool v.cr) from rfl)
                have l8 := (blk_cell hL 8).trans (show _ = some (Value.bool v.nc) from rfl)
                have l9 := (blk_cell hL 9).trans (show _ = some (Value.bool bi) from rfl)
                have l10 := (blk_cell hL 10).trans (show _ = some (Value.bool ow) from rfl)
                have l11 := (blk_cell hL 11).trans (show _ = some (Value.bool false) from rfl)
                have s0 := (blk_cell hS 0).trans (show _ = some (Value.string v.ty) from rfl)
                have s1 := (blk_cell hS 1).trans (show _ = some (Value.string v.src) from rfl)
                have s2 := (blk_cell hS 2).trans (show _ = some (Value.string v.tgt) from rfl)
                have s3 := (blk_cell hS 3).trans (show _ = some (Value.string v.prop) from rfl)
                have s4 := (blk_cell hS 4).trans (show _ = some (Value.string v.sel) from rfl)
                have s5 := (blk_cell hS 5).trans (show _ = some (Value.bool v.ro) from rfl)
                have s6 := (blk_cell hS 6).trans (show _ = some (Value.bool v.cr) from rfl)
                have s7 := (blk_cell hS 7).trans (show _ = some (Value.bool v.nc) from rfl)
                have HLL := Lib.hid (Array.getElem?_eq_some_iff.1 hL).1
                have HSS := Lib.hid (Array.getElem?_eq_some_iff.1 hS).1
                have heq := fun (d : Nat) (W : World) => eqA25 d W v
                have hsv : laws_shortVolume.f v.ty v.src v.tgt ⟨#[]⟩ v.prop v.sel v.ro v.cr v.nc bi ow false = some (v.ty, v.src, v.tgt, v.prop, v.sel, v.ro, v.cr, v.nc) := rfl
                have HSV := Lib.hid hsv
                clear hL hS hsv
                refine start_ (n := 23) (S := fun w' => w'.cell? ⟨z7, 0, none⟩ = some (Value.string v.ty) ∧ w'.cell? ⟨z7, 1, none⟩ = some (Value.string v.src) ∧ w'.cell? ⟨z7, 2, none⟩ = some (Value.string v.tgt) ∧ w'.cell? ⟨z7, 3, none⟩ = some (Value.string ⟨#[]⟩) ∧ w'.cell? ⟨z7, 4, none⟩ = some (Value.string v.prop) ∧ w'.cell? ⟨z7, 5, none⟩ = some (Value.string v.sel) ∧ w'.cell? ⟨z7, 6, none⟩ = some (Value.bool v.ro) ∧ w'.cell? ⟨z7, 7, none⟩ = some (Value.bool v.cr) ∧ w'.cell? ⟨z7, 8, none⟩ = some (Value.bool v.nc) ∧ w'.cell? ⟨z7, 9, none⟩ = some (Value.bool bi) ∧ w'.cell? ⟨z7, 10, none⟩ = some (Value.bool ow) ∧ w'.cell? ⟨z7, 11, none⟩ = some (Value.bool false) ∧ w'.cell? ⟨z5, 0, none⟩ = some (Value.string v.ty) ∧ w'.cell? ⟨z5, 1, none⟩ = some (Value.string v.src) ∧ w'.cell? ⟨z5, 2, none⟩ = some (Value.string v.tgt) ∧ w'.cell? ⟨z5, 3, none⟩ = some (Value.string v.prop) ∧ w'.cell? ⟨z5, 4, none⟩ = some (Value.string v.sel) ∧ w'.cell? ⟨z5, 5, none⟩ = some (Value.bool v.ro) ∧ w'.cell? ⟨z5, 6, none⟩ = some (Value.bool v.cr) ∧ w'.cell? ⟨z5, 7, none⟩ = some (Value.bool v.nc)) (ds := [20]) #[false, false, false, false, false, false, false, false, false, false, false, false, false, false, false, false, false, false, false, false, false, false, false] (by kernel_rfl) rfl rfl ⟨l0, l1, l2, l3, l4, l5, l6, l7, l8, l9, l10, l11, s0, s1, s2, s3, s4, s5, s6, s7⟩ (fun hHeld => ?_)
                refine pure_ (i := 0) (N := some 84) (v := ?_) (a' := ?_) #[true, false, false, false, false, false, false, false, false, false, false, false, false, false, false, false, false, false, false, false, false, false, false] rfl rfl (by kernel_rfl) (fun _ _ _ h => h) (Or.inl ⟨by rfl, ?_⟩) ?_ ?_
                rotate_left
                · intro w'
                  go_simp
                  with_reducible rfl
                rotate_left
                · simp only [Act.put, List.setIfInBounds_toArray, List.set_cons_zero, List.set_cons_succ, i64_w, i32_w]
                  rfl
                refine pure_ (i := 1) (N := some 85) (v := ?_) (a' := ?_) #[true, true, false, false, false, false, false, false, false, false, false, false, false, false, false, false, false, false, false, false, false, false, false] rfl rfl (by kernel_rfl) (fun _ _ _ h => h) (Or.inl ⟨by rfl, ?_⟩) ?_ ?_
                rotate_left
                · intro w'
                  go_simp
                  with_reducible rfl
                rotate_left
                · simp only [Act.put, List.setIfInBounds_toArray, List.set_cons_zero, List.set_cons_succ, i64_w, i32_w]
                  rfl
                refine pure_ (i := 2) (N := some 86) (v := ?_) (a' := ?_) #[true, true, true, false, false, false, false, false, false, false, false, false, false, false, false, false, false, false, false, false, false, false, false] rfl rfl (by kernel_rfl) (fun _ _ _ h => h) (Or.inl ⟨by rfl, ?_⟩) ?_ ?_
                rotate_left
                · intro w'
                  go_simp
                  with_reducible rfl
                rotate_left
                · simp only [Act.put, List.setIfInBounds_toArray, List.set_cons_zero, List.set_cons_succ, i64_w, i32_w]
                  rfl
                refine pure_ (i := 4) (N := some 88) (v := ?_) (a' := ?_) #[true, true, true, false, true, false, false, false, false, false, false, false, false, false, false, false, false, false, false, false, false, false, false] rfl rfl (by kernel_rfl) (fun _ _ _ h => h) (Or.inl ⟨by rfl, ?_⟩) ?_ ?_
                rotate_left
                · intro w'
                  go_simp
                  with_reducible rfl
                rotate_left
                · simp only [Act.put, List.setIfInBounds_toArray, List.set_cons_zero, List.set_cons_succ, i64_w, i32_w]
                  rfl
                refine take_ (i := 3) (N := some 87) (v := ?_) (a' := ?_) #[true, true, true, true, true, false, false, false, false, false, false, false, false, false, false, false, false, false, false, false, false, false, false] rfl rfl (by kernel_rfl) (fun _ _ _ h => h) (Or.inl ⟨by rfl, ?_⟩) hHeld ?_ ?_
                rotate_left
                · rintro w' ⟨s0, s1, s2, s3, s4, s5, s6, s7, s8, s9, s10, s11, s12, s13, s14, s15, s16, s17, s18, s19⟩
                  go_simp
                  with_reducible rfl
                rotate_left
                · simp only [Act.put, List.setIfInBounds_toArray, List.set_cons_zero, List.set_cons_succ, i64_w, i32_w]
                  rfl
                refine pure_ (i := 5) (N := some 89) (v := ?_) (a' := ?_) #[true, true, true, true, true, true, false, false, false, false, false, false, false, false, false, false, false, false, false, false, false, false, false] rfl rfl (by kernel_rfl) (fun _ _ _ h => h) (Or.inl ⟨by rfl, ?_⟩) ?_ ?_
                rotate_left
                · intro w'
                  go_simp
                  with_reducible rfl
                rotate_left
                · simp only [Act.put, List.setIfInBounds_toArray, List.set_cons_zero, List.set_cons_succ, i64_w, i32_w]
                  rfl
                refine pure_ (i := 6) (N := some 90) (v := ?_) (a' := ?_) #[true, true, true, true, true, true, true, false, false, false, false, false, false, false, false, false, false, false, false, false, false, false, false] rfl rfl (by kernel_rfl) (fun _ _ _ h => h) (Or.inl ⟨by rfl, ?_⟩) ?_ ?_
                rotate_left
                · intro w'
                  go_simp
                  with_reducible rfl
                rotate_left
                · simp only [Act.put, List.setIfInBounds_toArray, List.set_cons_zero, List.set_cons_succ, i64_w, i32_w]
                  rfl
                refine pure_ (i := 7) (N := some 91) (v := ?_) (a' := ?_) #[true, true, true, true, true, true, true, true, false, false, false, false, false, false, false, false, false, false, false, false, false, false, false] rfl rfl (by kernel_rfl) (fun _ _ _ h => h) (Or.inl ⟨by rfl, ?_⟩) ?_ ?_
                rotate_left
                · intro w'
                  go_simp
                  with_reducible rfl
                rotate_left
                · simp only [Act.put, List.setIfInBounds_toArray, List.set_cons_zero, List.set_cons_succ, i64_w, i32_w]
                  rfl
                refine pure_ (i := 8) (N := some 92) (v := ?_) (a' := ?_) #[true, true, true, true, true, true, true, true, true, false, false, false, false, false, false, false, false, false, false, false, false, false, false] rfl rfl (by kernel_rfl) (fun _ _ _ h => h) (Or.inl ⟨by rfl, ?_⟩) ?_ ?_
                rotate_left
                · intro w'
                  go_simp
                  with_reducible rfl
                rotate_left
                · simp only [Act.put, List.setIfInBounds_toArray, List.set_cons_zero, List.set_cons_succ, i64_w, i32_w]
                  rfl
                refine pure_ (i := 10) (N := some 94) (v := ?_) (a' := ?_) #[true, true, true, true, true, true, true, true, true, false, true, false, false, false, false, false, false, false, false, false, false, false, false] rfl rfl (by kernel_rfl) (fun _ _ _ h => h) (Or.inl ⟨by rfl, ?_⟩) ?_ ?_
                rotate_left
                · intro w'
                  go_simp
                  with_reducible rfl
                rotate_left
                · simp only [Act.put, List.setIfInBounds_toArray, List.set_cons_zero, List.set_cons_succ, i64_w, i32_w]
                  rfl
                refine take_ (i := 9) (N := some 93) (v := ?_) (a' := ?_) #[true, true, true, true, true, true, true, true, true, true, true, false, false, false, false, false, false, false, false, false, false, false, false] rfl rfl (by kernel_rfl) (fun _ _ _ h => h) (Or.inl ⟨by rfl, ?_⟩) hHeld ?_ ?_
                rotate_left
                · rintro w' ⟨s0, s1, s2, s3, s4, s5, s6, s7, s8, s9, s10, s11, s12, s13, s14, s15, s16, s17, s18, s19⟩
                  go_simp
                  with_reducible rfl
                rotate_left
                · simp only [Act.put, List.setIfInBounds_toArray, List.set_cons_zero, List.set_cons_succ, i64_w, i32_w]
                  rfl
                refine pure_ (i := 11) (N := some 95) (v := ?_) (a' := ?_) #[true, true, true, true, true, true, true, true, true, true, true, true, false, false, false, false, false, false, false, false, false, false, false] rfl rfl (by kernel_rfl) (fun _ _ _ h => h) (Or.inl ⟨by rfl, ?_⟩) ?_ ?_
                rotate_left
                · intro w'
                  go_simp
                  with_reducible rfl
                rotate_left
                · simp only [Act.put, List.setIfInBounds_toArray, List.set_cons_zero, List.set_cons_succ, i64_w, i32_w]
                  rfl
                refine pure_ (i := 12) (N := some 96) (v := ?_) (a' := ?_) #[true, true, true, true, true, true, true, true, true, true, true, true, true, false, false, false, false, false, false, false, false, false, false] rfl rfl (by kernel_rfl) (fun _ _ _ h => h) (Or.inl ⟨by rfl, ?_⟩) ?_ ?_
                rotate_left
                · intro w'
                  go_simp
                  with_reducible rfl
                rotate_left
                · simp only [Act.put, List.setIfInBounds_toArray, List.set_cons_zero, List.set_cons_succ, i64_w, i32_w]
                  rfl
                refine pure_ (i := 13) (N := some 97) (v := ?_) (a' := ?_) #[true, true, true, true, true, true, true, true, true, true, true, true, true, true, false, false, false, false, false, false, false, false, false] rfl rfl (by kernel_rfl) (fun _ _ _ h => h) (Or.inl ⟨by rfl, ?_⟩) ?_ ?_
                rotate_left
                · intro w'
                  go_simp
                  with_reducible rfl
                rotate_left
                · simp only [Act.put, List.setIfInBounds_toArray, List.set_cons_zero, List.set_cons_succ, i64_w, i32_w]
                  rfl
                refine take_ (i := 14) (N := some 98) (v := ?_) (a' := ?_) #[true, true, true, true, true, true, true, true, true, true, true, true, true, true, true, false, false, false, false, false, false, false, false] rfl rfl (by kernel_rfl) (fun _ _ _ h => h) (Or.inl ⟨by rfl, ?_⟩) hHeld ?_ ?_
                rotate_left
                · rintro w' ⟨s0, s1, s2, s3, s4, s5, s6, s7, s8, s9, s10, s11, s12, s13, s14, s15, s16, s17, s18, s19⟩
                  go_simp
                  with_reducible rfl
                rotate_left
                · simp only [Act.put, List.setIfInBounds_toArray, List.set_cons_zero, List.set_cons_succ, i64_w, i32_w]
                  rfl
                refine take_ (i := 16) (N := some 100) (v := ?_) (a' := ?_) #[true, true, true, true, true, true, true, true, true, true, true, true, true, true, true, false, true, false, false, false, false, false, false] rfl rfl (by kernel_rfl) (fun _ _ _ h => h) (Or.inl ⟨by rfl, ?_⟩) hHeld ?_ ?_
                rotate_left
                · rintro w' ⟨s0, s1, s2, s3, s4, s5, s6, s7, s8, s9, s10, s11, s12, s13, s14, s15, s16, s17, s18, s19⟩
                  go_simp
                  with_reducible rfl
                rotate_left
                · simp only [Act.put, List.setIfInBounds_toArray, List.set_cons_zero, List.set_cons_succ, i64_w, i32_w]
                  rfl
                refine one_ (i := 15) (N := some 99) #[true, true, true, true, true, true, true, true, true, true, true, true, true, true, true, true, true, false, false, false, false, false, false] rfl rfl (by kernel_rfl) (by decide) (fun K hK => ?_)
                refine goes_ Tryd.func9 (by kernel_rfl) rfl #[.agg #[.string v.ty, .string v.src, .string v.tgt, .string ⟨#[]⟩, .string v.prop, .string v.sel, .bool v.ro, .bool v.cr, .bool v.nc, .bool bi, .bool ow, .bool false]] (by rfl) rfl rfl (by simp only [List.map_toArray, List.map_cons, List.map_nil]; rfl) ?_
                with_reducible refine (laws_shortVolume.calls _ _ _ _ _ _ _ _ _ _ _ _ _ _ _ _ _ _ _ _ _ HSV.out).mono ?_
                rintro e w8 ⟨rfl, hb8⟩
                refine ⟨_, rfl, ?_⟩
                have HB8 := Aside0.mk (below_then (Below.drew HBW.out) (show w.heap.size ≤ W.drew.heap.size from HBW.out.size) hb8)
                refine hK.out _ _ ⟨(hb8.cell (show z7 < _ from HLL.out)).trans l0, (hb8.cell (show z7 < _ from HLL.out)).trans l1, (hb8.cell (show z7 < _ from HLL.out)).trans l2, (hb8.cell (show z7 < _ from HLL.out)).trans l3, (hb8.cell (show z7 < _ from HLL.out)).trans l4, (hb8.cell (show z7 < _ from HLL.out)).trans l5, (hb8.cell (show z7 < _ from HLL.out)).trans l6, (hb8.cell (show z7 < _ from HLL.out)).trans l7, (hb8.cell (show z7 < _ from HLL.out)).trans l8, (hb8.cell (show z7 < _ from HLL.out)).trans l9, (hb8.cell (show z7 < _ from HLL.out)).trans l10, (hb8.cell (show z7 < _ from HLL.out)).trans l11, (hb8.cell (show z5 < _ from HSS.out)).trans s0, (hb8.cell (show z5 < _ from HSS.out)).trans s1, (hb8.cell (show z5 < _ from HSS.out)).trans s2, (hb8.cell (show z5 < _ from HSS.out)).trans s3, (hb8.cell (show z5 < _ from HSS.out)).trans s4, (hb8.cell (show z5 < _ from HSS.out)).trans s5, (hb8.cell (show z5 < _ from HSS.out)).trans s6, (hb8.cell (show z5 < _ from HSS.out)).trans s7⟩ (fun hHeld => ?_)
                clear hK K
                refine norm_ (a' := ?_) ?_ ?_
                rotate_left
                · show Act.put _ (some 99) _ = _
                  simp only [Act.put, List.setIfInBounds_toArray, List.set_cons_zero, List.set_cons_succ, i64_w, i32_w]
                  rfl
                refine pure_ (i := 17) (N := some 101) (v := ?_) (a' := ?_) #[true, true, true, true, true, true, true, true, true, true, true, true, true, true, true, true, true, true, false, false, false, false, false] rfl rfl (by kernel_rfl) (fun _ _ _ h => h) (Or.inl ⟨by rfl, ?_⟩) ?_ ?_
                rotate_left
                · intro w'
                  go_simp
                  with_reducible rfl
                rotate_left
                · simp only [Act.put, List.setIfInBounds_toArray, List.set_cons_zero, List.set_cons_succ, i64_w, i32_w]
                  rfl
                refine pure_ (i := 18) (N := some 102) (v := ?_) (a' := ?_) #[true, true, true, true, true, true, true, true, true, true, true, true, true, true, true, true, true, true, true, false, false, false, false] rfl rfl (by kernel_rfl) (fun _ _ _ h => h) (Or.inl ⟨by rfl, ?_⟩) ?_ ?_
                rotate_left
                · intro w'
                  go_simp
                  with_reducible rfl
                rotate_left
                · simp only [Act.put, List.setIfInBounds_toArray, List.set_cons_zero, List.set_cons_succ, i64_w, i32_w]
                  rfl
                refine pure_ (i := 19) (N := some 103) (v := ?_) (a' := ?_) #[true, true, true, true, true, true, true, true, true, true, true, true, true, true, true, true, true, true, true, true, false, false, false] rfl rfl (by kernel_rfl) (fun _ _ _ h => h) (Or.inl ⟨by rfl, ?_⟩) ?_ ?_
                rotate_left
                · intro w'
                  go_simp
                  with_reducible rfl
                rotate_left
                · simp only [Act.put, List.setIfInBounds_toArray, List.set_cons_zero, List.set_cons_succ, i64_w, i32_w]
                  rfl
                refine last_ (i := 20) (N := some 104) #[true, true, true, true, true, true, true, true, true, true, true, true, true, true, true, true, true, true, true, true, true, false, false] rfl rfl (by kernel_rfl) (by decide) (fun K hK => ?_)
                refine goes_ Tryd.func7 (by kernel_rfl) rfl #[] (by rfl) rfl rfl (by first | rfl | simp) ?_
                with_reducible refine (laws_shortAwake _).mono ?_
                rintro e w9 ⟨rfl, hb9⟩
                refine ⟨_, rfl, ?_⟩
                have HB9 := Aside0.mk (below_then HB8.out HB8.out.size hb9)
                clear hb9
                refine hK.out _ _ ?_
                clear hK K
                refine norm_ (a' := ?_) ?_ ?_
                rotate_left
                · show Act.put _ (some 104) _ = _
                  simp only [Act.put, List.setIfInBounds_toArray, List.set_cons_zero, List.set_cons_succ, i64_w, i32_w]
                  rfl
                refine pure_ (i := 21) (N := some 105) (v := ?_) (a' := ?_) #[true, true, true, true, true, true, true, true, true, true, true, true, true, true, true, true, true, true, true, true, true, true, false] rfl rfl (by kernel_rfl) (fun _ _ _ h => h) (Or.inl ⟨by rfl, ?_⟩) ?_ ?_
                rotate_left
                · intro w'
                  go_simp
                  with_reducible rfl
                rotate_left
                · simp only [Act.put, List.setIfInBounds_toArray, List.set_cons_zero, List.set_cons_succ, i64_w, i32_w]
                  rfl
                refine pure_ (i := 22) (N := some 6) (v := ?_) (a' := ?_) #[true, true, true, true, true, true, true, true, true, true, true, true, true, true, true, true, true, true, true, true, true, true, true] rfl rfl (by kernel_rfl) (fun _ _ _ h => h) (Or.inl ⟨by rfl, ?_⟩) ?_ ?_
                rotate_left
                · intro w'
                  go_simp
                  with_reducible rfl
                rotate_left
                · simp only [Act.put, List.setIfInBounds_toArray, List.set_cons_zero, List.set_cons_succ, i64_w, i32_w]
                  rfl
                refine done_ (by kernel_rfl) ?_
                
                go_wp2
                go_ret
                exact ⟨rfl, HB9.out⟩
              · have n2 : (v.tgt.toList == a1.toList) = false := beq_false_of_ne (fun e => e2 (Ord_toList_inj e))
                have x1 : (v.src.toList == a0.toList) = true := by rw [e1]; exact beq_self_eq_true _
                clear e1 e2
                go_wp2_with (first
                  | (go_at_call 6; refine (short_calls _ a1 _ _ _ _ _ _ _ _ true _ HF.out).mono ?_; rintro e w5 ⟨rfl, hb⟩; have HB5 := Aside0.mk (below_then HB.out HB.out.size hb); clear hb)
                  | (go_at_call 7; refine (laws_shortAwake _).mono ?_; rintro e w6 ⟨rfl, hb⟩; have HB6 := Aside0.mk (below_then (HB5.out.alloc HB5.out.size _) (Nat.le_trans HB5.out.size (by simp)) hb); clear hb))
                go_ret
                exact ⟨rfl, HB6.out⟩
            · have n1 : (v.src.toList == a0.toList) = false := beq_false_of_ne (fun e => e1 (Ord_toList_inj e))
              clear e1
              go_wp2_with (first
                | (go_at_call 6; refine (short_calls _ a1 _ _ _ _ _ _ _ _ true _ HF.out).mono ?_; rintro e w5 ⟨rfl, hb⟩; have HB5 := Aside0.mk (below_then HB.out HB.out.size hb); clear hb)
                | (go_at_call 7; refine (laws_shortAwake _).mono ?_; rintro e w6 ⟨rfl, hb⟩; have HB6 := Aside0.mk (below_then (HB5.out.alloc HB5.out.size _) (Nat.le_trans HB5.out.size (by simp)) hb); clear hb))
              go_ret
              exact ⟨rfl, HB6.out⟩
        · have hd0 : (0 : Int) < (l2.length : Int) := by omega
          go_upto_region 12 with (fail)
          clear hz hd0
          obtain ⟨v, said, hf, hgood⟩ := short_f a1 (by omega)
          have HF := Aside0.mk hf
          clear hf
          cases said with
          | false =>
            clear hgood
            go_wp2_with (first
              | (go_at_call 6; refine (short_calls _ a1 _ _ _ _ _ _ _ _ false _ HF.out).mono ?_; rintro e w5 ⟨rfl, hb⟩; have HB5 := Aside0.mk (below_then HB.out HB.out.size hb); clear hb)
              | (go_at_call 7; refine (laws_shortAwake _).mono ?_; rintro e w6 ⟨rfl, hb⟩; have HB6 := Aside0.mk (below_then (HB5.out.alloc HB5.out.size _) (Nat.le_trans HB5.out.size (by simp)) hb); clear hb))
            go_ret
            exact ⟨rfl, HB6.out⟩
          | true =>
            have HG := Lib.hid (hgood rfl)
            clear hgood
            by_cases e1 : v.src = a0
            · by_cases e2 : v.tgt = a1
              · have HE1 := Lib.hid e1
                have HE2 := Lib.hid e2
                obtain ⟨bi, ow, himp⟩ := impl_good a1 v HG.out (by omega)
                have HIMP := Lib.hid himp
                have x1 : (v.src.toList == a0.toList) = true := by rw [e1]; exact beq_self_eq_true _
                have x2 : (v.tgt.toList == a1.toList) = true := by rw [e2]; exact beq_self_eq_true _
                clear himp e1 e2
                go_upto_region 16 with (first
                  | (go_at_call 6; refine (short_calls _ a1 _ _ _ _ _ _ _ _ true _ HF.out).mono ?_; rintro e w5 ⟨rfl, hb⟩; have HB5 := Aside0.mk (below_then HB.out HB.out.size hb); clear hb)
                  | (go_at_call 8; refine (HIMP.out _).mono ?_; rintro e w7 ⟨rfl, hb⟩; have HB7 := Aside0.mk (below_then (HB5.out.alloc HB5.out.size _) (Nat.le_trans HB5.out.size (by simp)) hb); have HC7 := Aside0.mk ((hb.block w5.heap.size (by simp)).trans (heap_alloc_new w5 _)); clear hb))
                have hL := heap_alloc_new w7 (.cells #[.string v.ty, .string v.src, .string v.tgt, .string ⟨#[]⟩, .string v.prop, .string v.sel, .bool v.ro, .bool v.cr, .bool v.nc, .bool bi, .bool ow, .bool false] 30)
                have hS := alloc_keep (o' := .cells #[.string v.ty, .string v.src, .string v.tgt, .string ⟨#[]⟩, .string v.prop, .string v.sel, .bool v.ro, .bool v.cr, .bool v.nc, .bool bi, .bool ow, .bool false] 30) HC7.out
                have hBz := HB7.out.alloc HB7.out.size (.cells #[.string v.ty, .string v.src, .string v.tgt, .string ⟨#[]⟩, .string v.prop, .string v.sel, .bool v.ro, .bool v.cr, .bool v.nc, .bool bi, .bool ow, .bool false] 30)
                have hzz : w5.heap.size < w7.heap.size := (Array.getElem?_eq_some_iff.1 HC7.out).1
                generalize w7.alloc (.cells #[.string v.ty, .string v.src, .string v.tgt, .string ⟨#[]⟩, .string v.prop, .string v.sel, .bool v.ro, .bool v.cr, .bool v.nc, .bool bi, .bool ow, .bool false] 30) = W at hL hS hBz ⊢
                generalize w7.heap.size = z7 at hL hzz ⊢
                generalize w5.heap.size = z5 at hS hzz ⊢
                have HBW := Aside0.mk hBz
                clear hBz HB7 HC7
                have l0 := (blk_cell hL 0).trans (show _ = some (Value.string v.ty) from rfl)
                have l1 := (blk_cell hL 1).trans (show _ = some (Value.string v.src) from rfl)
                have l2 := (blk_cell hL 2).trans (show _ = some (Value.string v.tgt) from rfl)
                have l3 := (blk_cell hL 3).trans (show _ = some (Value.string ⟨#[]⟩) from rfl)
                have l4 := (blk_cell hL 4).trans (show _ = some (Value.string v.prop) from rfl)
                have l5 := (blk_cell hL 5).trans (show _ = some (Value.string v.sel) from rfl)
                have l6 := (blk_cell hL 6).trans (show _ = some (Value.bool v.ro) from rfl)
                have l7 := (blk_cell hL 7).trans (show _ = some (Value.bool v.cr) from rfl)
                have l8 := (blk_cell hL 8).trans (show _ = some (Value.bool v.nc) from rfl)
                have l9 := (blk_cell hL 9).trans (show _ = some (Value.bool bi) from rfl)
                have l10 := (blk_cell hL 10).trans (show _ = some (Value.bool ow) from rfl)
                have l11 := (blk_cell hL 11).trans (show _ = some (Value.bool false) from rfl)
                have s0 := (blk_cell hS 0).trans (show _ = some (Value.string v.ty) from rfl)
                have s1 := (blk_cell hS 1).trans (show _ = some (Value.string v.src) from rfl)
                have s2 := (blk_cell hS 2).trans (show _ = some (Value.string v.tgt) from rfl)
                have s3 := (blk_cell hS 3).trans (show _ = some (Value.string v.prop) from rfl)
                have s4 := (blk_cell hS 4).trans (show _ = some (Value.string v.sel) from rfl)
                have s5 := (blk_cell hS 5).trans (show _ = some (Value.bool v.ro) from rfl)
                have s6 := (blk_cell hS 6).trans (show _ = some (Value.bool v.cr) from rfl)
                have s7 := (blk_cell hS 7).trans (show _ = some (Value.bool v.nc) from rfl)
                have HLL := Lib.hid (Array.getElem?_eq_some_iff.1 hL).1
                have HSS := Lib.hid (Array.getElem?_eq_some_iff.1 hS).1
                have heq := fun (d : Nat) (W : World) => eqA25 d W v
                have hsv : laws_shortVolume.f v.ty v.src v.tgt ⟨#[]⟩ v.prop v.sel v.ro v.cr v.nc bi ow false = some (v.ty, v.src, v.tgt, v.prop, v.sel, v.ro, v.cr, v.nc) := rfl
                have HSV := Lib.hid hsv
                clear hL hS hsv
                refine start_ (n := 23) (S := fun w' => w'.cell? ⟨z7, 0, none⟩ = some (Value.string v.ty) ∧ w'.cell? ⟨z7, 1, none⟩ = some (Value.string v.src) ∧ w'.cell? ⟨z7, 2, none⟩ = some (Value.string v.tgt) ∧ w'.cell? ⟨z7, 3, none⟩ = some (Value.string ⟨#[]⟩) ∧ w'.cell? ⟨z7, 4, none⟩ = some (Value.string v.prop) ∧ w'.cell? ⟨z7, 5, none⟩ = some (Value.string v.sel) ∧ w'.cell? ⟨z7, 6, none⟩ = some (Value.bool v.ro) ∧ w'.cell? ⟨z7, 7, none⟩ = some (Value.bool v.cr) ∧ w'.cell? ⟨z7, 8, none⟩ = some (Value.bool v.nc) ∧ w'.cell? ⟨z7, 9, none⟩ = some (Value.bool bi) ∧ w'.cell? ⟨z7, 10, none⟩ = some (Value.bool ow) ∧ w'.cell? ⟨z7, 11, none⟩ = some (Value.bool false) ∧ w'.cell? ⟨z5, 0, none⟩ = some (Value.string v.ty) ∧ w'.cell? ⟨z5, 1, none⟩ = some (Value.string v.src) ∧ w'.cell? ⟨z5, 2, none⟩ = some (Value.string v.tgt) ∧ w'.cell? ⟨z5, 3, none⟩ = some (Value.string v.prop) ∧ w'.cell? ⟨z5, 4, none⟩ = some (Value.string v.sel) ∧ w'.cell? ⟨z5, 5, none⟩ = some (Value.bool v.ro) ∧ w'.cell? ⟨z5, 6, none⟩ = some (Value.bool v.cr) ∧ w'.cell? ⟨z5, 7, none⟩ = some (Value.bool v.nc)) (ds := [20]) #[false, false, false, false, false, false, false, false, false, false, false, false, false, false, false, false, false, false, false, false, false, false, false] (by kernel_rfl) rfl rfl ⟨l0, l1, l2, l3, l4, l5, l6, l7, l8, l9, l10, l11, s0, s1, s2, s3, s4, s5, s6, s7⟩ (fun hHeld => ?_)
                refine pure_ (i := 0) (N := some 84) (v := ?_) (a' := ?_) #[true, false, false, false, false, false, false, false, false, false, false, false, false, false, false, false, false, false, false, false, false, false, false] rfl rfl (by kernel_rfl) (fun _ _ _ h => h) (Or.inl ⟨by rfl, ?_⟩) ?_ ?_
                rotate_left
                · intro w'
                  go_simp
                  with_reducible rfl
                rotate_left
                · simp only [Act.put, List.setIfInBounds_toArray, List.set_cons_zero, List.set_cons_succ, i64_w, i32_w]
                  rfl
                refine pure_ (i := 1) (N := some 85) (v := ?_) (a' := ?_) #[true, true, false, false, false, false, false, false, false, false, false, false, false, false, false, false, false, false, false, false, false, false, false] rfl rfl (by kernel_rfl) (fun _ _ _ h => h) (Or.inl ⟨by rfl, ?_⟩) ?_ ?_
                rotate_left
                · intro w'
                  go_simp
                  with_reducible rfl
                rotate_left
                · simp only [Act.put, List.setIfInBounds_toArray, List.set_cons_zero, List.set_cons_succ, i64_w, i32_w]
                  rfl
                refine pure_ (i := 2) (N := some 86) (v := ?_) (a' := ?_) #[true, true, true, false, false, false, false, false, false, false, false, false, false, false, false, false, false, false, false, false, false, false, false] rfl rfl (by kernel_rfl) (fun _ _ _ h => h) (Or.inl ⟨by rfl, ?_⟩) ?_ ?_
                rotate_left
                · intro w'
                  go_simp
                  with_reducible rfl
                rotate_left
                · simp only [Act.put, List.setIfInBounds_toArray, List.set_cons_zero, List.set_cons_succ, i64_w, i32_w]
                  rfl
                refine pure_ (i := 4) (N := some 88) (v := ?_) (a' := ?_) #[true, true, true, false, true, false, false, false, false, false, false, false, false, false, false, false, false, false, false, false, false, false, false] rfl rfl (by kernel_rfl) (fun _ _ _ h => h) (Or.inl ⟨by rfl, ?_⟩) ?_ ?_
                rotate_left
                · intro w'
                  go_simp
                  with_reducible rfl
                rotate_left
                · simp only [Act.put, List.setIfInBounds_toArray, List.set_cons_zero, List.set_cons_succ, i64_w, i32_w]
                  rfl
                refine take_ (i := 3) (N := some 87) (v := ?_) (a' := ?_) #[true, true, true, true, true, false, false, false, false, false, false, false, false, false, false, false, false, false, false, false, false, false, false] rfl rfl (by kernel_rfl) (fun _ _ _ h => h) (Or.inl ⟨by rfl, ?_⟩) hHeld ?_ ?_
                rotate_left
                · rintro w' ⟨s0, s1, s2, s3, s4, s5, s6, s7, s8, s9, s10, s11, s12, s13, s14, s15, s16, s17, s18, s19⟩
                  go_simp
                  with_reducible rfl
                rotate_left
                · simp only [Act.put, List.setIfInBounds_toArray, List.set_cons_zero, List.set_cons_succ, i64_w, i32_w]
                  rfl
                refine pure_ (i := 5) (N := some 89) (v := ?_) (a' := ?_) #[true, true, true, true, true, true, false, false, false, false, false, false, false, false, false, false, false, false, false, false, false, false, false] rfl rfl (by kernel_rfl) (fun _ _ _ h => h) (Or.inl ⟨by rfl, ?_⟩) ?_ ?_
                rotate_left
                · intro w'
                  go_simp
                  with_reducible rfl
                rotate_left
                · simp only [Act.put, List.setIfInBounds_toArray, List.set_cons_zero, List.set_cons_succ, i64_w, i32_w]
                  rfl
                refine pure_ (i := 6) (N := some 90) (v := ?_) (a' := ?_) #[true, true, true, true, true, true, true, false, false, false, false, false, false, false, false, false, false, false, false, false, false, false, false] rfl rfl (by kernel_rfl) (fun _ _ _ h => h) (Or.inl ⟨by rfl, ?_⟩) ?_ ?_
                rotate_left
                · intro w'
                  go_simp
                  with_reducible rfl
                rotate_left
                · simp only [Act.put, List.setIfInBounds_toArray, List.set_cons_zero, List.set_cons_succ, i64_w, i32_w]
                  rfl
                refine pure_ (i := 7) (N := some 91) (v := ?_) (a' := ?_) #[true, true, true, true, true, true, true, true, false, false, false, false, false, false, false, false, false, false, false, false, false, false, false] rfl rfl (by kernel_rfl) (fun _ _ _ h => h) (Or.inl ⟨by rfl, ?_⟩) ?_ ?_
                rotate_left
                · intro w'
                  go_simp
                  with_reducible rfl
                rotate_left
                · simp only [Act.put, List.setIfInBounds_toArray, List.set_cons_zero, List.set_cons_succ, i64_w, i32_w]
                  rfl
                refine pure_ (i := 8) (N := some 92) (v := ?_) (a' := ?_) #[true, true, true, true, true, true, true, true, true, false, false, false, false, false, false, false, false, false, false, false, false, false, false] rfl rfl (by kernel_rfl) (fun _ _ _ h => h) (Or.inl ⟨by rfl, ?_⟩) ?_ ?_
                rotate_left
                · intro w'
                  go_simp
                  with_reducible rfl
                rotate_left
                · simp only [Act.put, List.setIfInBounds_toArray, List.set_cons_zero, List.set_cons_succ, i64_w, i32_w]
                  rfl
                refine pure_ (i := 10) (N := some 94) (v := ?_) (a' := ?_) #[true, true, true, true, true, true, true, true, true, false, true, false, false, false, false, false, false, false, false, false, false, false, false] rfl rfl (by kernel_rfl) (fun _ _ _ h => h) (Or.inl ⟨by rfl, ?_⟩) ?_ ?_
                rotate_left
                · intro w'
                  go_simp
                  with_reducible rfl
                rotate_left
                · simp only [Act.put, List.setIfInBounds_toArray, List.set_cons_zero, List.set_cons_succ, i64_w, i32_w]
                  rfl
                refine take_ (i := 9) (N := some 93) (v := ?_) (a' := ?_) #[true, true, true, true, true, true, true, true, true, true, true, false, false, false, false, false, false, false, false, false, false, false, false] rfl rfl (by kernel_rfl) (fun _ _ _ h => h) (Or.inl ⟨by rfl, ?_⟩) hHeld ?_ ?_
                rotate_left
                · rintro w' ⟨s0, s1, s2, s3, s4, s5, s6, s7, s8, s9, s10, s11, s12, s13, s14, s15, s16, s17, s18, s19⟩
                  go_simp
                  with_reducible rfl
                rotate_left
                · simp only [Act.put, List.setIfInBounds_toArray, List.set_cons_zero, List.set_cons_succ, i64_w, i32_w]
                  rfl
                refine pure_ (i := 11) (N := some 95) (v := ?_) (a' := ?_) #[true, true, true, true, true, true, true, true, true, true, true, true, false, false, false, false, false, false, false, false, false, false, false] rfl rfl (by kernel_rfl) (fun _ _ _ h => h) (Or.inl ⟨by rfl, ?_⟩) ?_ ?_
                rotate_left
                · intro w'
                  go_simp
                  with_reducible rfl
                rotate_left
                · simp only [Act.put, List.setIfInBounds_toArray, List.set_cons_zero, List.set_cons_succ, i64_w, i32_w]
                  rfl
                refine pure_ (i := 12) (N := some 96) (v := ?_) (a' := ?_) #[true, true, true, true, true, true, true, true, true, true, true, true, true, false, false, false, false, false, false, false, false, false, false] rfl rfl (by kernel_rfl) (fun _ _ _ h => h) (Or.inl ⟨by rfl, ?_⟩) ?_ ?_
                rotate_left
                · intro w'
                  go_simp
                  with_reducible rfl
                rotate_left
                · simp only [Act.put, List.setIfInBounds_toArray, List.set_cons_zero, List.set_cons_succ, i64_w, i32_w]
                  rfl
                refine pure_ (i := 13) (N := some 97) (v := ?_) (a' := ?_) #[true, true, true, true, true, true, true, true, true, true, true, true, true, true, false, false, false, false, false, false, false, false, false] rfl rfl (by kernel_rfl) (fun _ _ _ h => h) (Or.inl ⟨by rfl, ?_⟩) ?_ ?_
                rotate_left
                · intro w'
                  go_simp
                  with_reducible rfl
                rotate_left
                · simp only [Act.put, List.setIfInBounds_toArray, List.set_cons_zero, List.set_cons_succ, i64_w, i32_w]
                  rfl
                refine take_ (i := 14) (N := some 98) (v := ?_) (a' := ?_) #[true, true, true, true, true, true, true, true, true, true, true, true, true, true, true, false, false, false, false, false, false, false, false] rfl rfl (by kernel_rfl) (fun _ _ _ h => h) (Or.inl ⟨by rfl, ?_⟩) hHeld ?_ ?_
                rotate_left
                · rintro w' ⟨s0, s1, s2, s3, s4, s5, s6, s7, s8, s9, s10, s11, s12, s13, s14, s15, s16, s17, s18, s19⟩
                  go_simp
                  with_reducible rfl
                rotate_left
                · simp only [Act.put, List.setIfInBounds_toArray, List.set_cons_zero, List.set_cons_succ, i64_w, i32_w]
                  rfl
                refine take_ (i := 16) (N := some 100) (v := ?_) (a' := ?_) #[true, true, true, true, true, true, true, true, true, true, true, true, true, true, true, false, true, false, false, false, false, false, false] rfl rfl (by kernel_rfl) (fun _ _ _ h => h) (Or.inl ⟨by rfl, ?_⟩) hHeld ?_ ?_
                rotate_left
                · rintro w' ⟨s0, s1, s2, s3, s4, s5, s6, s7, s8, s9, s10, s11, s12, s13, s14, s15, s16, s17, s18, s19⟩
                  go_simp
                  with_reducible rfl
                rotate_left
                · simp only [Act.put, List.setIfInBounds_toArray, List.set_cons_zero, List.set_cons_succ, i64_w, i32_w]
                  rfl
                refine one_ (i := 15) (N := some 99) #[true, true, true, true, true, true, true, true, true, true, true, true, true, true, true, true, true, false, false, false, false, false, false] rfl rfl (by kernel_rfl) (by decide) (fun K hK => ?_)
                refine goes_ Tryd.func9 (by kernel_rfl) rfl #[.agg #[.string v.ty, .string v.src, .string v.tgt, .string ⟨#[]⟩, .string v.prop, .string v.sel, .bool v.ro, .bool v.cr, .bool v.nc, .bool bi, .bool ow, .bool false]] (by rfl) rfl rfl (by simp only [List.map_toArray, List.map_cons, List.map_nil]; rfl) ?_
                with_reducible refine (laws_shortVolume.calls _ _ _ _ _ _ _ _ _ _ _ _ _ _ _ _ _ _ _ _ _ HSV.out).mono ?_
                rintro e w8 ⟨rfl, hb8⟩
                refine ⟨_, rfl, ?_⟩
                have HB8 := Aside0.mk (below_then (Below.drew HBW.out) (show w.heap.size ≤ W.drew.heap.size from HBW.out.size) hb8)
                refine hK.out _ _ ⟨(hb8.cell (show z7 < _ from HLL.out)).trans l0, (hb8.cell (show z7 < _ from HLL.out)).trans l1, (hb8.cell (show z7 < _ from HLL.out)).trans l2, (hb8.cell (show z7 < _ from HLL.out)).trans l3, (hb8.cell (show z7 < _ from HLL.out)).trans l4, (hb8.cell (show z7 < _ from HLL.out)).trans l5, (hb8.cell (show z7 < _ from HLL.out)).trans l6, (hb8.cell (show z7 < _ from HLL.out)).trans l7, (hb8.cell (show z7 < _ from HLL.out)).trans l8, (hb8.cell (show z7 < _ from HLL.out)).trans l9, (hb8.cell (show z7 < _ from HLL.out)).trans l10, (hb8.cell (show z7 < _ from HLL.out)).trans l11, (hb8.cell (show z5 < _ from HSS.out)).trans s0, (hb8.cell (show z5 < _ from HSS.out)).trans s1, (hb8.cell (show z5 < _ from HSS.out)).trans s2, (hb8.cell (show z5 < _ from HSS.out)).trans s3, (hb8.cell (show z5 < _ from HSS.out)).trans s4, (hb8.cell (show z5 < _ from HSS.out)).trans s5, (hb8.cell (show z5 < _ from HSS.out)).trans s6, (hb8.cell (show z5 < _ from HSS.out)).trans s7⟩ (fun hHeld => ?_)
                clear hK K
                refine norm_ (a' := ?_) ?_ ?_
                rotate_left
                · show Act.put _ (some 99) _ = _
                  simp only [Act.put, List.setIfInBounds_toArray, List.set_cons_zero, List.set_cons_succ, i64_w, i32_w]
                  rfl
                refine pure_ (i := 17) (N := some 101) (v := ?_) (a' := ?_) #[true, true, true, true, true, true, true, true, true, true, true, true, true, true, true, true, true, true, false, false, false, false, false] rfl rfl (by kernel_rfl) (fun _ _ _ h => h) (Or.inl ⟨by rfl, ?_⟩) ?_ ?_
                rotate_left
                · intro w'
                  go_simp
                  with_reducible rfl
                rotate_left
                · simp only [Act.put, List.setIfInBounds_toArray, List.set_cons_zero, List.set_cons_succ, i64_w, i32_w]
                  rfl
                refine pure_ (i := 18) (N := some 102) (v := ?_) (a' := ?_) #[true, true, true, true, true, true, true, true, true, true, true, true, true, true, true, true, true, true, true, false, false, false, false] rfl rfl (by kernel_rfl) (fun _ _ _ h => h) (Or.inl ⟨by rfl, ?_⟩) ?_ ?_
                rotate_left
                · intro w'
                  go_simp
                  with_reducible rfl
                rotate_left
                · simp only [Act.put, List.setIfInBounds_toArray, List.set_cons_zero, List.set_cons_succ, i64_w, i32_w]
                  rfl
                refine pure_ (i := 19) (N := some 103) (v := ?_) (a' := ?_) #[true, true, true, true, true, true, true, true, true, true, true, true, true, true, true, true, true, true, true, true, false, false, false] rfl rfl (by kernel_rfl) (fun _ _ _ h => h) (Or.inl ⟨by rfl, ?_⟩) ?_ ?_
                rotate_left
                · intro w'
                  go_simp
                  with_reducible rfl
                rotate_left
                · simp only [Act.put, List.setIfInBounds_toArray, List.set_cons_zero, List.set_cons_succ, i64_w, i32_w]
                  rfl
                refine last_ (i := 20) (N := some 104) #[true, true, true, true, true, true, true, true, true, true, true, true, true, true, true, true, true, true, true, true, true, false, false] rfl rfl (by kernel_rfl) (by decide) (fun K hK => ?_)
                refine goes_ Tryd.func7 (by kernel_rfl) rfl #[] (by rfl) rfl rfl (by first | rfl | simp) ?_
                with_reducible refine (laws_shortAwake _).mono ?_
                rintro e w9 ⟨rfl, hb9⟩
                refine ⟨_, rfl, ?_⟩
                have HB9 := Aside0.mk (below_then HB8.out HB8.out.size hb9)
                clear hb9
                refine hK.out _ _ ?_
                clear hK K
                refine norm_ (a' := ?_) ?_ ?_
                rotate_left
                · show Act.put _ (some 104) _ = _
                  simp only [Act.put, List.setIfInBounds_toArray, List.set_cons_zero, List.set_cons_succ, i64_w, i32_w]
                  rfl
                refine pure_ (i := 21) (N := some 105) (v := ?_) (a' := ?_) #[true, true, true, true, true, true, true, true, true, true, true, true, true, true, true, true, true, true, true, true, true, true, false] rfl rfl (by kernel_rfl) (fun _ _ _ h => h) (Or.inl ⟨by rfl, ?_⟩) ?_ ?_
                rotate_left
                · intro w'
                  go_simp
                  with_reducible rfl
                rotate_left
                · simp only [Act.put, List.setIfInBounds_toArray, List.set_cons_zero, List.set_cons_succ, i64_w, i32_w]
                  rfl
                refine pure_ (i := 22) (N := some 6) (v := ?_) (a' := ?_) #[true, true, true, true, true, true, true, true, true, true, true, true, true, true, true, true, true, true, true, true, true, true, true] rfl rfl (by kernel_rfl) (fun _ _ _ h => h) (Or.inl ⟨by rfl, ?_⟩) ?_ ?_
                rotate_left
                · intro w'
                  go_simp
                  with_reducible rfl
                rotate_left
                · simp only [Act.put, List.setIfInBounds_toArray, List.set_cons_zero, List.set_cons_succ, i64_w, i32_w]
                  rfl
                refine done_ (by kernel_rfl) ?_
                
                go_wp2
                go_ret
                exact ⟨rfl, HB9.out⟩
              · have n2 : (v.tgt.toList == a1.toList) = false := beq_false_of_ne (fun e => e2 (Ord_toList_inj e))
                have x1 : (v.src.toList == a0.toList) = true := by rw [e1]; exact beq_self_eq_true _
                clear e1 e2
                go_wp2_with (first
                  | (go_at_call 6; refine (short_calls _ a1 _ _ _ _ _ _ _ _ true _ HF.out).mono ?_; rintro e w5 ⟨rfl, hb⟩; have HB5 := Aside0.mk (below_then HB.out HB.out.size hb); clear hb)
                  | (go_at_call 7; refine (laws_shortAwake _).mono ?_; rintro e w6 ⟨rfl, hb⟩; have HB6 := Aside0.mk (below_then (HB5.out.alloc HB5.out.size _) (Nat.le_trans HB5.out.size (by simp)) hb); clear hb))
                go_ret
                exact ⟨rfl, HB6.out⟩
            · have n1 : (v.src.toList == a0.toList) = false := beq_false_of_ne (fun e => e1 (Ord_toList_inj e))
              clear e1
              go_wp2_with (first
                | (go_at_call 6; refine (short_calls _ a1 _ _ _ _ _ _ _ _ true _ HF.out).mono ?_; rintro e w5 ⟨rfl, hb⟩; have HB5 := Aside0.mk (below_then HB.out HB.out.size hb); clear hb)
                | (go_at_call 7; refine (laws_shortAwake _).mono ?_; rintro e w6 ⟨rfl, hb⟩; have HB6 := Aside0.mk (below_then (HB5.out.alloc HB5.out.size _) (Nat.le_trans HB5.out.size (by simp)) hb); clear hb))
              go_ret
              exact ⟨rfl, HB6.out⟩
    · have hn1 := nonempty_list he
      have hn2 := isEmpty_false he
      have hz1 : ¬ 9223372036854775807 < a0.size + 1 := by omega
      have hz2 : ¬ 9223372036854775807 < a0.size + 1 + a1.size := by omega
      clear he
      go_upto_region 7 with (go_at_call 5; refine (laws_zzFits2.calls _ A2 c2 l2 true _ HR2.out HC2.out HF2.out).mono ?_; rintro e w1 ⟨rfl, hd⟩; have HB1 := Aside0.mk (show Below w.heap.size w w1 from hd.below); clear hd)
      go_loopw [7, 8] (fun v7 v8 wr => ∃ (i : Nat) (t : ByteArray), i ≤ l2.length ∧ v7 = .string t ∧ v8 = .int .i64 i ∧ t.size + ((l2.drop i).map fun x => x.size + 1).sum ≤ 4194304 ∧ Aside0 (Below w.heap.size w wr)) (fun _ v8 _ => l2.length - (intOf v8).toNat)
      case atStart => exact ⟨0, _, Nat.zero_le _, rfl, rfl, by rw [List.drop_zero, ByteArray.size_append, ByteArray.size_append]; show a0.size + 1 + a1.size + _ ≤ _; omega, HB1⟩
      case round =>
        obtain ⟨i, t, hi, rfl, rfl, hts, HB⟩ := hrel
        by_cases hlt : i < l2.length
        · obtain ⟨ad0, rfl, hx0⟩ := Kd.at_string HR2.out (i : Int) (by omega) (by omega)
          replace hx0 := (HB.out.cell (World.block_lt_of_cell? w _ hx0)).trans hx0
          simp only [Int.toNat_natCast] at hx0
          obtain ⟨o, hs⟩ : ∃ o, o = l2[i] := ⟨_, rfl⟩
          have hs' : rdOf ByteArray.empty l2 (i : Int) = o := by rw [hs]; simp [rdOf, List.getD_eq_getElem?_getD, List.getElem?_eq_getElem hlt]
          rw [hs'] at hx0
          rw [List.drop_eq_getElem_cons hlt, List.map_cons, List.sum_cons, ← hs] at hts
          clear hs hs'
          have q1 : ¬ 9223372036854775807 < t.size + 1 := by omega
          have q2 : ¬ 9223372036854775807 < t.size + 1 + o.size := by omega
          by_cases hi0 : i = 0
          · have hib : ((i : Int) == 0) = true := by rw [hi0]; rfl
            clear hi0
            go_wp2
            go_roundw
            case rel => exact ⟨i + 1, _, by omega, rfl, by go_num, by rw [ByteArray.size_append, ByteArray.size_append]; show t.size + 1 + o.size + _ ≤ _; omega, HB⟩
            case measure => simp [intOf]; omega
          · have hib : ((i : Int) == 0) = false := beq_false_of_ne (by omega)
            go_wp2
            go_roundw
            case rel => exact ⟨i + 1, _, by omega, rfl, by go_num, by rw [ByteArray.size_append, ByteArray.size_append]; show t.size + 1 + o.size + _ ≤ _; omega, HB⟩
            case measure => simp [intOf]; omega
        · have hts2 : t.size ≤ 4194304 := by omega
          clear hts
          go_upto_region 12 with (fail)
          obtain ⟨v, said, hf, hgood⟩ := short_f t (by omega)
          have HF := Aside0.mk hf
          clear hf
          cases said with
          | false =>
            clear hgood
            go_wp2_with (first
              | (go_at_call 6; refine (short_calls _ t _ _ _ _ _ _ _ _ false _ HF.out).mono ?_; rintro e w5 ⟨rfl, hb⟩; have HB5 := Aside0.mk (below_then HB.out HB.out.size hb); clear hb)
              | (go_at_call 7; refine (laws_shortAwake _).mono ?_; rintro e w6 ⟨rfl, hb⟩; have HB6 := Aside0.mk (below_then (HB5.out.alloc HB5.out.size _) (Nat.le_trans HB5.out.size (by simp)) hb); clear hb))
            go_ret
            exact ⟨rfl, HB6.out⟩
          | true =>
            have HG := Lib.hid (hgood rfl)
            clear hgood
            by_cases e1 : v.src = a0
            · by_cases e2 : v.tgt = a1
              · have HE1 := Lib.hid e1
                have HE2 := Lib.hid e2
                obtain ⟨bi, ow, himp⟩ := impl_good t v HG.out (by omega)
                have HIMP := Lib.hid himp
                have x1 : (v.src.toList == a0.toList) = true := by rw [e1]; exact beq_self_eq_true _
                have x2 : (v.tgt.toList == a1.toList) = true := by rw [e2]; exact beq_self_eq_true _
                clear himp e1 e2
                go_upto_region 16 with (first
                  | (go_at_call 6; refine (short_calls _ t _ _ _ _ _ _ _ _ true _ HF.out).mono ?_; rintro e w5 ⟨rfl, hb⟩; have HB5 := Aside0.mk (below_then HB.out HB.out.size hb); clear hb)
                  | (go_at_call 8; refine (HIMP.out _).mono ?_; rintro e w7 ⟨rfl, hb⟩; have HB7 := Aside0.mk (below_then (HB5.out.alloc HB5.out.size _) (Nat.le_trans HB5.out.size (by simp)) hb); have HC7 := Aside0.mk ((hb.block w5.heap.size (by simp)).trans (heap_alloc_new w5 _)); clear hb))
                have hL := heap_alloc_new w7 (.cells #[.string v.ty, .string v.src, .string v.tgt, .string ⟨#[]⟩, .string v.prop, .string v.sel, .bool v.ro, .bool v.cr, .bool v.nc, .bool bi, .bool ow, .bool false] 30)
                have hS := alloc_keep (o' := .cells #[.string v.ty, .string v.src, .string v.tgt, .string ⟨#[]⟩, .string v.prop, .string v.sel, .bool v.ro, .bool v.cr, .bool v.nc, .bool bi, .bool ow, .bool false] 30) HC7.out
                have hBz := HB7.out.alloc HB7.out.size (.cells #[.string v.ty, .string v.src, .string v.tgt, .string ⟨#[]⟩, .string v.prop, .string v.sel, .bool v.ro, .bool v.cr, .bool v.nc, .bool bi, .bool ow, .bool false] 30)
                have hzz : w5.heap.size < w7.heap.size := (Array.getElem?_eq_some_iff.1 HC7.out).1
                generalize w7.alloc (.cells #[.string v.ty, .string v.src, .string v.tgt, .string ⟨#[]⟩, .string v.prop, .string v.sel, .bool v.ro, .bool v.cr, .bool v.nc, .bool bi, .bool ow, .bool false] 30) = W at hL hS hBz ⊢
                generalize w7.heap.size = z7 at hL hzz ⊢
                generalize w5.heap.size = z5 at hS hzz ⊢
                have HBW := Aside0.mk hBz
                clear hBz HB7 HC7
                have l0 := (blk_cell hL 0).trans (show _ = some (Value.string v.ty) from rfl)
                have l1 := (blk_cell hL 1).trans (show _ = some (Value.string v.src) from rfl)
                have l2 := (blk_cell hL 2).trans (show _ = some (Value.string v.tgt) from rfl)
                have l3 := (blk_cell hL 3).trans (show _ = some (Value.string ⟨#[]⟩) from rfl)
                have l4 := (blk_cell hL 4).trans (show _ = some (Value.string v.prop) from rfl)
                have l5 := (blk_cell hL 5).trans (show _ = some (Value.string v.sel) from rfl)
                have l6 := (blk_cell hL 6).trans (show _ = some (Value.bool v.ro) from rfl)
                have l7 := (blk_cell hL 7).trans (show _ = some (Value.bool v.cr) from rfl)
                have l8 := (blk_cell hL 8).trans (show _ = some (Value.bool v.nc) from rfl)
                have l9 := (blk_cell hL 9).trans (show _ = some (Value.bool bi) from rfl)
                have l10 := (blk_cell hL 10).trans (show _ = some (Value.bool ow) from rfl)
                have l11 := (blk_cell hL 11).trans (show _ = some (Value.bool false) from rfl)
                have s0 := (blk_cell hS 0).trans (show _ = some (Value.string v.ty) from rfl)
                have s1 := (blk_cell hS 1).trans (show _ = some (Value.string v.src) from rfl)
                have s2 := (blk_cell hS 2).trans (show _ = some (Value.string v.tgt) from rfl)
                have s3 := (blk_cell hS 3).trans (show _ = some (Value.string v.prop) from rfl)
                have s4 := (blk_cell hS 4).trans (show _ = some (Value.string v.sel) from rfl)
                have s5 := (blk_cell hS 5).trans (show _ = some (Value.bool v.ro) from rfl)
                have s6 := (blk_cell hS 6).trans (show _ = some (Value.bool v.cr) from rfl)
                have s7 := (blk_cell hS 7).trans (show _ = some (Value.bool v.nc) from rfl)
                have HLL := Lib.hid (Array.getElem?_eq_some_iff.1 hL).1
                have HSS := Lib.hid (Array.getElem?_eq_some_iff.1 hS).1
                have heq := fun (d : Nat) (W : World) => eqA25 d W v
                have hsv : laws_shortVolume.f v.ty v.src v.tgt ⟨#[]⟩ v.prop v.sel v.ro v.cr v.nc bi ow false = some (v.ty, v.src, v.tgt, v.prop, v.sel, v.ro, v.cr, v.nc) := rfl
                have HSV := Lib.hid hsv
                clear hL hS hsv
                refine start_ (n := 23) (S := fun w' => w'.cell? ⟨z7, 0, none⟩ = some (Value.string v.ty) ∧ w'.cell? ⟨z7, 1, none⟩ = some (Value.string v.src) ∧ w'.cell? ⟨z7, 2, none⟩ = some (Value.string v.tgt) ∧ w'.cell? ⟨z7, 3, none⟩ = some (Value.string ⟨#[]⟩) ∧ w'.cell? ⟨z7, 4, none⟩ = some (Value.string v.prop) ∧ w'.cell? ⟨z7, 5, none⟩ = some (Value.string v.sel) ∧ w'.cell? ⟨z7, 6, none⟩ = some (Value.bool v.ro) ∧ w'.cell? ⟨z7, 7, none⟩ = some (Value.bool v.cr) ∧ w'.cell? ⟨z7, 8, none⟩ = some (Value.bool v.nc) ∧ w'.cell? ⟨z7, 9, none⟩ = some (Value.bool bi) ∧ w'.cell? ⟨z7, 10, none⟩ = some (Value.bool ow) ∧ w'.cell? ⟨z7, 11, none⟩ = some (Value.bool false) ∧ w'.cell? ⟨z5, 0, none⟩ = some (Value.string v.ty) ∧ w'.cell? ⟨z5, 1, none⟩ = some (Value.string v.src) ∧ w'.cell? ⟨z5, 2, none⟩ = some (Value.string v.tgt) ∧ w'.cell? ⟨z5, 3, none⟩ = some (Value.string v.prop) ∧ w'.cell? ⟨z5, 4, none⟩ = some (Value.string v.sel) ∧ w'.cell? ⟨z5, 5, none⟩ = some (Value.bool v.ro) ∧ w'.cell? ⟨z5, 6, none⟩ = some (Value.bool v.cr) ∧ w'.cell? ⟨z5, 7, none⟩ = some (Value.bool v.nc)) (ds := [20]) #[false, false, false, false, false, false, false, false, false, false, false, false, false, false, false, false, false, false, false, false, false, false, false] (by kernel_rfl) rfl rfl ⟨l0, l1, l2, l3, l4, l5, l6, l7, l8, l9, l10, l11, s0, s1, s2, s3, s4, s5, s6, s7⟩ (fun hHeld => ?_)
                refine pure_ (i := 0) (N := some 84) (v := ?_) (a' := ?_) #[true, false, false, false, false, false, false, false, false, false, false, false, false, false, false, false, false, false, false, false, false, false, false] rfl rfl (by kernel_rfl) (fun _ _ _ h => h) (Or.inl ⟨by rfl, ?_⟩) ?_ ?_
                rotate_left
                · intro w'
                  go_simp
                  with_reducible rfl
                rotate_left
                · simp only [Act.put, List.setIfInBounds_toArray, List.set_cons_zero, List.set_cons_succ, i64_w, i32_w]
                  rfl
                refine pure_ (i := 1) (N := some 85) (v := ?_) (a' := ?_) #[true, true, false, false, false, false, false, false, false, false, false, false, false, false, false, false, false, false, false, false, false, false, false] rfl rfl (by kernel_rfl) (fun _ _ _ h => h) (Or.inl ⟨by rfl, ?_⟩) ?_ ?_
                rotate_left
                · intro w'
                  go_simp
                  with_reducible rfl
                rotate_left
                · simp only [Act.put, List.setIfInBounds_toArray, List.set_cons_zero, List.set_cons_succ, i64_w, i32_w]
                  rfl
                refine pure_ (i := 2) (N := some 86) (v := ?_) (a' := ?_) #[true, true, true, false, false, false, false, false, false, false, false, false, false, false, false, false, false, false, false, false, false, false, false] rfl rfl (by kernel_rfl) (fun _ _ _ h => h) (Or.inl ⟨by rfl, ?_⟩) ?_ ?_
                rotate_left
                · intro w'
                  go_simp
                  with_reducible rfl
                rotate_left
                · simp only [Act.put, List.setIfInBounds_toArray, List.set_cons_zero, List.set_cons_succ, i64_w, i32_w]
                  rfl
                refine pure_ (i := 4) (N := some 88) (v := ?_) (a' := ?_) #[true, true, true, false, true, false, false, false, false, false, false, false, false, false, false, false, false, false, false, false, false, false, false] rfl rfl (by kernel_rfl) (fun _ _ _ h => h) (Or.inl ⟨by rfl, ?_⟩) ?_ ?_
                rotate_left
                · intro w'
                  go_simp
                  with_reducible rfl
                rotate_left
                · simp only [Act.put, List.setIfInBounds_toArray, List.set_cons_zero, List.set_cons_succ, i64_w, i32_w]
                  rfl
                refine take_ (i := 3) (N := some 87) (v := ?_) (a' := ?_) #[true, true, true, true, true, false, false, false, false, false, false, false, false, false, false, false, false, false, false, false, false, false, false] rfl rfl (by kernel_rfl) (fun _ _ _ h => h) (Or.inl ⟨by rfl, ?_⟩) hHeld ?_ ?_
                rotate_left
                · rintro w' ⟨s0, s1, s2, s3, s4, s5, s6, s7, s8, s9, s10, s11, s12, s13, s14, s15, s16, s17, s18, s19⟩
                  go_simp
                  with_reducible rfl
                rotate_left
                · simp only [Act.put, List.setIfInBounds_toArray, List.set_cons_zero, List.set_cons_succ, i64_w, i32_w]
                  rfl
                refine pure_ (i := 5) (N := some 89) (v := ?_) (a' := ?_) #[true, true, true, true, true, true, false, false, false, false, false, false, false, false, false, false, false, false, false, false, false, false, false] rfl rfl (by kernel_rfl) (fun _ _ _ h => h) (Or.inl ⟨by rfl, ?_⟩) ?_ ?_
                rotate_left
                · intro w'
                  go_simp
                  with_reducible rfl
                rotate_left
                · simp only [Act.put, List.setIfInBounds_toArray, List.set_cons_zero, List.set_cons_succ, i64_w, i32_w]
                  rfl
                refine pure_ (i := 6) (N := some 90) (v := ?_) (a' := ?_) #[true, true, true, true, true, true, true, false, false, false, false, false, false, false, false, false, false, false, false, false, false, false, false] rfl rfl (by kernel_rfl) (fun _ _ _ h => h) (Or.inl ⟨by rfl, ?_⟩) ?_ ?_
                rotate_left
                · intro w'
                  go_simp
                  with_reducible rfl
                rotate_left
                · simp only [Act.put, List.setIfInBounds_toArray, List.set_cons_zero, List.set_cons_succ, i64_w, i32_w]
                  rfl
                refine pure_ (i := 7) (N := some 91) (v := ?_) (a' := ?_) #[true, true, true, true, true, true, true, true, false, false, false, false, false, false, false, false, false, false, false, false, false, false, false] rfl rfl (by kernel_rfl) (fun _ _ _ h => h) (Or.inl ⟨by rfl, ?_⟩) ?_ ?_
                rotate_left
                · intro w'
                  go_simp
                  with_reducible rfl
                rotate_left
                · simp only [Act.put, List.setIfInBounds_toArray, List.set_cons_zero, List.set_cons_succ, i64_w, i32_w]
                  rfl
                refine pure_ (i := 8) (N := some 92) (v := ?_) (a' := ?_) #[true, true, true, true, true, true, true, true, true, false, false, false, false, false, false, false, false, false, false, false, false, false, false] rfl rfl (by kernel_rfl) (fun _ _ _ h => h) (Or.inl ⟨by rfl, ?_⟩) ?_ ?_
                rotate_left
                · intro w'
                  go_simp
                  with_reducible rfl
                rotate_left
                · simp only [Act.put, List.setIfInBounds_toArray, List.set_cons_zero, List.set_cons_succ, i64_w, i32_w]
                  rfl
                refine pure_ (i := 10) (N := some 94) (v := ?_) (a' := ?_) #[true, true, true, true, true, true, true, true, true, false, true, false, false, false, false, false, false, false, false, false, false, false, false] rfl rfl (by kernel_rfl) (fun _ _ _ h => h) (Or.inl ⟨by rfl, ?_⟩) ?_ ?_
                rotate_left
                · intro w'
                  go_simp
                  with_reducible rfl
                rotate_left
                · simp only [Act.put, List.setIfInBounds_toArray, List.set_cons_zero, List.set_cons_succ, i64_w, i32_w]
                  rfl
                refine take_ (i := 9) (N := some 93) (v := ?_) (a' := ?_) #[true, true, true, true, true, true, true, true, true, true, true, false, false, false, false, false, false, false, false, false, false, false, false] rfl rfl (by kernel_rfl) (fun _ _ _ h => h) (Or.inl ⟨by rfl, ?_⟩) hHeld ?_ ?_
                rotate_left
                · rintro w' ⟨s0, s1, s2, s3, s4, s5, s6, s7, s8, s9, s10, s11, s12, s13, s14, s15, s16, s17, s18, s19⟩
                  go_simp
                  with_reducible rfl
                rotate_left
                · simp only [Act.put, List.setIfInBounds_toArray, List.set_cons_zero, List.set_cons_succ, i64_w, i32_w]
                  rfl
                refine pure_ (i := 11) (N := some 95) (v := ?_) (a' := ?_) #[true, true, true, true, true, true, true, true, true, true, true, true, false, false, false, false, false, false, false, false, false, false, false] rfl rfl (by kernel_rfl) (fun _ _ _ h => h) (Or.inl ⟨by rfl, ?_⟩) ?_ ?_
                rotate_left
                · intro w'
                  go_simp
                  with_reducible rfl
                rotate_left
                · simp only [Act.put, List.setIfInBounds_toArray, List.set_cons_zero, List.set_cons_succ, i64_w, i32_w]
                  rfl
                refine pure_ (i := 12) (N := some 96) (v := ?_) (a' := ?_) #[true, true, true, true, true, true, true, true, true, true, true, true, true, false, false, false, false, false, false, false, false, false, false] rfl rfl (by kernel_rfl) (fun _ _ _ h => h) (Or.inl ⟨by rfl, ?_⟩) ?_ ?_
                rotate_left
                · intro w'
                  go_simp
                  with_reducible rfl
                rotate_left
                · simp only [Act.put, List.setIfInBounds_toArray, List.set_cons_zero, List.set_cons_succ, i64_w, i32_w]
                  rfl
                refine pure_ (i := 13) (N := some 97) (v := ?_) (a' := ?_) #[true, true, true, true, true, true, true, true, true, true, true, true, true, true, false, false, false, false, false, false, false, false, false] rfl rfl (by kernel_rfl) (fun _ _ _ h => h) (Or.inl ⟨by rfl, ?_⟩) ?_ ?_
                rotate_left
                · intro w'
                  go_simp
                  with_reducible rfl
                rotate_left
                · simp only [Act.put, List.setIfInBounds_toArray, List.set_cons_zero, List.set_cons_succ, i64_w, i32_w]
                  rfl
                refine take_ (i := 14) (N := some 98) (v := ?_) (a' := ?_) #[true, true, true, true, true, true, true, true, true, true, true, true, true, true, true, false, false, false, false, false, false, false, false] rfl rfl (by kernel_rfl) (fun _ _ _ h => h) (Or.inl ⟨by rfl, ?_⟩) hHeld ?_ ?_
                rotate_left
                · rintro w' ⟨s0, s1, s2, s3, s4, s5, s6, s7, s8, s9, s10, s11, s12, s13, s14, s15, s16, s17, s18, s19⟩
                  go_simp
                  with_reducible rfl
                rotate_left
                · simp only [Act.put, List.setIfInBounds_toArray, List.set_cons_zero, List.set_cons_succ, i64_w, i32_w]
                  rfl
                refine take_ (i := 16) (N := some 100) (v := ?_) (a' := ?_) #[true, true, true, true, true, true, true, true, true, true, true, true, true, true, true, false, true, false, false, false, false, false, false] rfl rfl (by kernel_rfl) (fun _ _ _ h => h) (Or.inl ⟨by rfl, ?_⟩) hHeld ?_ ?_
                rotate_left
                · rintro w' ⟨s0, s1, s2, s3, s4, s5, s6, s7, s8, s9, s10, s11, s12, s13, s14, s15, s16, s17, s18, s19⟩
                  go_simp
                  with_reducible rfl
                rotate_left
                · simp only [Act.put, List.setIfInBounds_toArray, List.set_cons_zero, List.set_cons_succ, i64_w, i32_w]
                  rfl
                refine one_ (i := 15) (N := some 99) #[true, true, true, true, true, true, true, true, true, true, true, true, true, true, true, true, true, false, false, false, false, false, false] rfl rfl (by kernel_rfl) (by decide) (fun K hK => ?_)
                refine goes_ Tryd.func9 (by kernel_rfl) rfl #[.agg #[.string v.ty, .string v.src, .string v.tgt, .string ⟨#[]⟩, .string v.prop, .string v.sel, .bool v.ro, .bool v.cr, .bool v.nc, .bool bi, .bool ow, .bool false]] (by rfl) rfl rfl (by simp only [List.map_toArray, List.map_cons, List.map_nil]; rfl) ?_
                with_reducible refine (laws_shortVolume.calls _ _ _ _ _ _ _ _ _ _ _ _ _ _ _ _ _ _ _ _ _ HSV.out).mono ?_
                rintro e w8 ⟨rfl, hb8⟩
                refine ⟨_, rfl, ?_⟩
                have HB8 := Aside0.mk (below_then (Below.drew HBW.out) (show w.heap.size ≤ W.drew.heap.size from HBW.out.size) hb8)
                refine hK.out _ _ ⟨(hb8.cell (show z7 < _ from HLL.out)).trans l0, (hb8.cell (show z7 < _ from HLL.out)).trans l1, (hb8.cell (show z7 < _ from HLL.out)).trans l2, (hb8.cell (show z7 < _ from HLL.out)).trans l3, (hb8.cell (show z7 < _ from HLL.out)).trans l4, (hb8.cell (show z7 < _ from HLL.out)).trans l5, (hb8.cell (show z7 < _ from HLL.out)).trans l6, (hb8.cell (show z7 < _ from HLL.out)).trans l7, (hb8.cell (show z7 < _ from HLL.out)).trans l8, (hb8.cell (show z7 < _ from HLL.out)).trans l9, (hb8.cell (show z7 < _ from HLL.out)).trans l10, (hb8.cell (show z7 < _ from HLL.out)).trans l11, (hb8.cell (show z5 < _ from HSS.out)).trans s0, (hb8.cell (show z5 < _ from HSS.out)).trans s1, (hb8.cell (show z5 < _ from HSS.out)).trans s2, (hb8.cell (show z5 < _ from HSS.out)).trans s3, (hb8.cell (show z5 < _ from HSS.out)).trans s4, (hb8.cell (show z5 < _ from HSS.out)).trans s5, (hb8.cell (show z5 < _ from HSS.out)).trans s6, (hb8.cell (show z5 < _ from HSS.out)).trans s7⟩ (fun hHeld => ?_)
                clear hK K
                refine norm_ (a' := ?_) ?_ ?_
                rotate_left
                · show Act.put _ (some 99) _ = _
                  simp only [Act.put, List.setIfInBounds_toArray, List.set_cons_zero, List.set_cons_succ, i64_w, i32_w]
                  rfl
                refine pure_ (i := 17) (N := some 101) (v := ?_) (a' := ?_) #[true, true, true, true, true, true, true, true, true, true, true, true, true, true, true, true, true, true, false, false, false, false, false] rfl rfl (by kernel_rfl) (fun _ _ _ h => h) (Or.inl ⟨by rfl, ?_⟩) ?_ ?_
                rotate_left
                · intro w'
                  go_simp
                  with_reducible rfl
                rotate_left
                · simp only [Act.put, List.setIfInBounds_toArray, List.set_cons_zero, List.set_cons_succ, i64_w, i32_w]
                  rfl
                refine pure_ (i := 18) (N := some 102) (v := ?_) (a' := ?_) #[true, true, true, true, true, true, true, true, true, true, true, true, true, true, true, true, true, true, true, false, false, false, false] rfl rfl (by kernel_rfl) (fun _ _ _ h => h) (Or.inl ⟨by rfl, ?_⟩) ?_ ?_
                rotate_left
                · intro w'
                  go_simp
                  with_reducible rfl
                rotate_left
                · simp only [Act.put, List.setIfInBounds_toArray, List.set_cons_zero, List.set_cons_succ, i64_w, i32_w]
                  rfl
                refine pure_ (i := 19) (N := some 103) (v := ?_) (a' := ?_) #[true, true, true, true, true, true, true, true, true, true, true, true, true, true, true, true, true, true, true, true, false, false, false] rfl rfl (by kernel_rfl) (fun _ _ _ h => h) (Or.inl ⟨by rfl, ?_⟩) ?_ ?_
                rotate_left
                · intro w'
                  go_simp
                  with_reducible rfl
                rotate_left
                · simp only [Act.put, List.setIfInBounds_toArray, List.set_cons_zero, List.set_cons_succ, i64_w, i32_w]
                  rfl
                refine last_ (i := 20) (N := some 104) #[true, true, true, true, true, true, true, true, true, true, true, true, true, true, true, true, true, true, true, true, true, false, false] rfl rfl (by kernel_rfl) (by decide) (fun K hK => ?_)
                refine goes_ Tryd.func7 (by kernel_rfl) rfl #[] (by rfl) rfl rfl (by first | rfl | simp) ?_
                with_reducible refine (laws_shortAwake _).mono ?_
                rintro e w9 ⟨rfl, hb9⟩
                refine ⟨_, rfl, ?_⟩
                have HB9 := Aside0.mk (below_then HB8.out HB8.out.size hb9)
                clear hb9
                refine hK.out _ _ ?_
                clear hK K
                refine norm_ (a' := ?_) ?_ ?_
                rotate_left
                · show Act.put _ (some 104) _ = _
                  simp only [Act.put, List.setIfInBounds_toArray, List.set_cons_zero, List.set_cons_succ, i64_w, i32_w]
                  rfl
                refine pure_ (i := 21) (N := some 105) (v := ?_) (a' := ?_) #[true, true, true, true, true, true, true, true, true, true, true, true, true, true, true, true, true, true, true, true, true, true, false] rfl rfl (by kernel_rfl) (fun _ _ _ h => h) (Or.inl ⟨by rfl, ?_⟩) ?_ ?_
                rotate_left
                · intro w'
                  go_simp
                  with_reducible rfl
                rotate_left
                · simp only [Act.put, List.setIfInBounds_toArray, List.set_cons_zero, List.set_cons_succ, i64_w, i32_w]
                  rfl
                refine pure_ (i := 22) (N := some 6) (v := ?_) (a' := ?_) #[true, true, true, true, true, true, true, true, true, true, true, true, true, true, true, true, true, true, true, true, true, true, true] rfl rfl (by kernel_rfl) (fun _ _ _ h => h) (Or.inl ⟨by rfl, ?_⟩) ?_ ?_
                rotate_left
                · intro w'
                  go_simp
                  with_reducible rfl
                rotate_left
                · simp only [Act.put, List.setIfInBounds_toArray, List.set_cons_zero, List.set_cons_succ, i64_w, i32_w]
                  rfl
                refine done_ (by kernel_rfl) ?_
                
                go_wp2
                go_ret
                exact ⟨rfl, HB9.out⟩
              · have n2 : (v.tgt.toList == a1.toList) = false := beq_false_of_ne (fun e => e2 (Ord_toList_inj e))
                have x1 : (v.src.toList == a0.toList) = true := by rw [e1]; exact beq_self_eq_true _
                clear e1 e2
                go_wp2_with (first
                  | (go_at_call 6; refine (short_calls _ t _ _ _ _ _ _ _ _ true _ HF.out).mono ?_; rintro e w5 ⟨rfl, hb⟩; have HB5 := Aside0.mk (below_then HB.out HB.out.size hb); clear hb)
                  | (go_at_call 7; refine (laws_shortAwake _).mono ?_; rintro e w6 ⟨rfl, hb⟩; have HB6 := Aside0.mk (below_then (HB5.out.alloc HB5.out.size _) (Nat.le_trans HB5.out.size (by simp)) hb); clear hb))
                go_ret
                exact ⟨rfl, HB6.out⟩
            · have n1 : (v.src.toList == a0.toList) = false := beq_false_of_ne (fun e => e1 (Ord_toList_inj e))
              clear e1
              go_wp2_with (first
                | (go_at_call 6; refine (short_calls _ t _ _ _ _ _ _ _ _ true _ HF.out).mono ?_; rintro e w5 ⟨rfl, hb⟩; have HB5 := Aside0.mk (below_then HB.out HB.out.size hb); clear hb)
                | (go_at_call 7; refine (laws_shortAwake _).mono ?_; rintro e w6 ⟨rfl, hb⟩; have HB6 := Aside0.mk (below_then (HB5.out.alloc HB5.out.size _) (Nat.le_trans HB5.out.size (by simp)) hb); clear hb))
              go_ret
              exact ⟨rfl, HB6.out⟩
end Go.Proofs.YtklbghadhneejaaDoor.V
