/- The law on a path's parts, walked. -/
import Derived.Test.YtageocibgakhmaaTreeJ
import Derived.IntWalk
namespace Go.Proofs.Ytageocibgakhmaa.L
open Go.RowKit

theorem room_mem : ∀ {l : List ByteArray} {x : ByteArray}, x ∈ l → x.size + 1 ≤ room l
  | y :: r, x, h => by
    have e : room (y :: r) = y.size + 1 + room r := by simp [room]
    rcases List.mem_cons.1 h with h | h
    · subst h; omega
    · have := room_mem h; omega
theorem room_length : ∀ (l : List ByteArray), l.length ≤ room l
  | [] => by simp
  | y :: r => by
    have e : room (y :: r) = y.size + 1 + room r := by simp [room]
    have := room_length r
    rw [List.length_cons]
    omega
theorem parts_nonempty {x : ByteArray} (h : partB x = true) : 0 < x.size := by
  unfold partB at h
  simp only [Bool.and_eq_true, Bool.not_eq_true', List.isEmpty_eq_false_iff] at h
  rw [Lib.size_eq]
  exact List.length_pos_iff.2 h.2

set_option maxHeartbeats 1000000 in
set_option maxRecDepth 100000 in
theorem law_PathReads (l : List ByteArray) (v : Value) (w : World) (hv : SS w v l) (hr : room l ≤ 2147483647) :
    Calls Try.prog 10 #[v] w fun e w' => e = .returned (.bool true) ∧ Below w.heap.size w w' := by
  have HV := Lib.hid hv
  have hl := Nat.le_trans (room_length l) hr
  have HS : Hid (∀ i, i < l.length → (l.getD i ByteArray.empty).size ≤ 2147483647) := Lib.hid fun i hi => by
    rw [List.getD_eq_getElem?_getD, List.getElem?_eq_getElem hi]
    have := room_mem (List.getElem_mem hi)
    show (l[i]).size ≤ _
    omega
  have HF : Hid ((decide (l.length ≤ 2147483647) && fitsB l) = true) := Lib.hid (by
    rw [decide_eq_true hl, Bool.true_and]
    refine List.all_eq_true.2 fun x hx => ?_
    have := room_mem hx
    exact decide_eq_true (by omega))
  have HR := Lib.hid (Nat.le_trans hr (by decide : 2147483647 ≤ 140737488355328))
  have hj : (joinD l).size ≤ 2147483647 := by
    rw [joinD_mk, mk_size]
    exact Nat.le_trans (joinB_le l) hr
  have HRR := Lib.hid hr
  clear hv hr
  go_enter Try.func10, Try.ntmps10
  go_wp2_with fail
  refine (laws_zzFits2 l v _ HV.out).mono ?_
  rintro e w1 ⟨rfl, rfl⟩
  rw [HF.out]
  go_wp2_with fail
  refine (spec_PathOf l v _ HV.out HS.out HR.out hl).mono ?_
  rintro e w1 ⟨rfl, hb1⟩
  rcases hok : pathOk l with _ | _
  · clear hok
    go_wp2_with (first | (go_at_call 22; refine (treeLives _).mono ?_; rintro e w3 ⟨rfl, hb3⟩))
    go_ret
    exact ⟨rfl, hb1.trans (hb3.mono hb1.size)⟩
  · have hout : pathOut l = joinD l := by unfold pathOut; rw [hok]; rfl
    rw [hout]
    have HO := Lib.hid hok
    clear hok hout
    have HV1 := Lib.hid (HV.out.below hb1)
    have hj2 : (joinD l).size ≤ 140737488355328 := by omega
    have hl2 : l.length ≤ 140737488355328 := by omega
    go_wp2_with fail
    refine (impl_NewPath l v _ HV1.out hl2 hj2).mono ?_
    rintro e w2 ⟨rfl, hb2⟩
    have HV2 := Lib.hid (HV1.out.below hb2)
    have hbb := hb1.trans (hb2.mono hb1.size)
    have hne : l ≠ [] := by
      intro e
      have := HO.out
      rw [e] at this
      simp [pathOk] at this
    have hall : l.all partB = true := by
      have := HO.out
      unfold pathOk at this
      simp only [Bool.and_eq_true] at this
      exact this.1
    have HP := Lib.hid (parts_joinD l hne hall)
    have hlp : 0 < l.length := List.length_pos_iff.2 hne
    have HN := Lib.hid hne
    have HAll := Lib.hid hall
    clear hne hall
    have hss := HV2.out
    obtain ⟨A, c, rfl, h1, h2, h3⟩ := hss.get
    obtain ⟨pb, po, rfl, hpb, hpc⟩ := h3 hlp
    have hc := hpc (l.length - 1) (by omega)
    clear hpc h3 hss
    unfold maxLen at h2
    have e1 : ((l.length : Int) - 1).toNat = l.length - 1 := by omega
    have e2 : (0 : Int) ≤ (l.length : Int) - 1 := by omega
    have e3 : (l.length : Int) - 1 < (l.length : Int) := by omega
    have e4 : (1 : Int) ≤ (l.length : Int) := by omega
    have eq1 : ((joinD l).toList == (joinD l).toList) = true := by simp
    have eq2 : ((joinD l).toList != (joinD l).toList) = false := by simp
    have HX := Lib.hid (show l = l.take (l.length - 1) ++ [l.getD (l.length - 1) ByteArray.empty] by
      rw [List.getD_eq_getElem?_getD, List.getElem?_eq_getElem (by omega)]
      show l = l.take (l.length - 1) ++ [l[l.length - 1]]
      rw [← List.take_succ_eq_append_getElem (by omega), show l.length - 1 + 1 = l.length from by omega, List.take_length])
    have HLast := Lib.hid (fun s w hs hp => impl_Last l s w hs hp hlp)
    generalize hx : l.getD (l.length - 1) ByteArray.empty = x at *
    clear hx
    have eq3 : (x.toList != x.toList) = false := by simp
    have eW : IntKind.i64.wrap ((l.length : Int) - 1) = (l.length : Int) - 1 := IntWalk.i64_in _ (by omega)
    go_wp2_with fail
    go_region_held3 (fun w' => w'.cell? ⟨pb, po + (l.length - 1), none⟩ = some (.string x)) (first | exact hc | exact hc3 | exact hc5 | go_keep) (first | (go_at_call 34; refine (impl_Parts (joinD l) _ hj).mono ?_; rintro e w3 ⟨v3, rfl, hs3, hb3⟩; have hb3' := below_un hb3; have hc3 := (hb3'.cell (p := ⟨pb, po + (l.length - 1), none⟩) hpb).trans hc; have HS3 : Hid (SS w3 v3 l) := Lib.hid (by have q := hs3.any; change SS w3 v3 (parts (joinD l)) at q; rw [HP.out] at q; exact q); have HV3 := Lib.hid (HV2.out.below hb3'); have hpb3 := Nat.lt_of_lt_of_le hpb hb3'.size; clear hs3) | (go_at_call 33; refine (laws_sameTexts l l _ _ _ HS3.out HV3.out).mono ?_; rintro e w4 ⟨rfl, n4, rfl⟩; rw [decide_eq_true rfl]) | (go_at_call 35; refine (HLast.out _ _ hj HP.out).mono ?_; rintro e w5 ⟨rfl, hb5⟩; have hb5' := below_unN hb5; have hc5 := (hb5'.cell (p := ⟨pb, po + (l.length - 1), none⟩) hpb3).trans hc3))
    clear eW
    have hb5'' := hb3'.trans (hb5'.mono hb3'.size)
    have hbbb := hbb.trans (hb5''.mono hbb.size)
    by_cases hgt : 1 < l.length
    · have hgt' : 1 < (l.length : Int) := by omega
      have HVx := Lib.hid (SS.cut (HV2.out.below hb5'') (l.length - 1) (by omega))
      have htk : l.take (l.length - 1) ≠ [] := by
        intro e
        have : (l.take (l.length - 1)).length = 0 := by rw [e]; rfl
        rw [List.length_take] at this
        omega
      have hxl : x ∈ l := by rw [HX.out]; exact List.mem_append_right _ (by simp)
      have hxp : partB x = true := List.all_eq_true.1 HAll.out x hxl
      have hxs : x.size ≤ 2147483647 := by have := room_mem hxl; have := HR.out; have := HF.out; simp only [Bool.and_eq_true] at this; have := List.all_eq_true.1 this.2 x hxl; simpa using this
      have hallt : (l.take (l.length - 1)).all partB = true := List.all_eq_true.2 fun y hy => List.all_eq_true.1 HAll.out y (List.mem_of_mem_take hy)
      have HOt := Lib.hid (show pathOk (l.take (l.length - 1)) = true by
        unfold pathOk
        rw [hallt]
        cases h : l.take (l.length - 1) with
        | nil => exact absurd h htk
        | cons => rfl)
      have HOut := Lib.hid (show pathOut (l.take (l.length - 1)) = joinD (l.take (l.length - 1)) by unfold pathOut; rw [HOt.out]; rfl)
      have hjt : joinB (l.take (l.length - 1)) ≠ [] := by
        intro e
        have hsp := parts_joinD _ htk hallt
        rw [joinD_mk, e] at hsp
        have h1 : parts (mk []) = [mk []] := rfl
        rw [h1] at hsp
        have hm : mk [] ∈ l.take (l.length - 1) := by rw [← hsp]; simp
        have := parts_nonempty (List.all_eq_true.1 hallt _ hm)
        rw [mk_size] at this
        simp at this
      have hjl : joinD l = joinD (l.take (l.length - 1) ++ [x]) := congrArg joinD HX.out
      have HPar := Lib.hid (fun W => impl_Parent (l.take (l.length - 1)) x W hjt htk hxp (by rw [← hjl]; exact hj))
      rw [← hjl] at HPar
      have hjr : (joinD (l.take (l.length - 1))).size ≤ 2147483647 := by
        rw [joinD_mk, mk_size]
        exact Nat.le_trans (joinB_le _) (Nat.le_trans (room_take_le l _) HRR.out)
      have HNxt := Lib.hid (fun W => impl_Next (joinD (l.take (l.length - 1))) x W (by rw [joinD_mk, mk_size]; exact List.length_pos_iff.2 hjt) hxp hjr hxs)
      have hjs : mk ((joinD (l.take (l.length - 1))).data.toList ++ 46 :: x.data.toList) = joinD l := by rw [hjl, joinD_mk, mk_data, joinD_mk, joinD_last _ _ htk]
      rw [hjs] at HNxt
      have HLen := Lib.hid (show (l.take (l.length - 1)).length ≤ 2147483647 by rw [List.length_take]; omega)
      have HRm := Lib.hid (show room (l.take (l.length - 1)) ≤ 140737488355328 from Nat.le_trans (room_take_le l _) HR.out)
      have HSt := Lib.hid (show ∀ i, i < (l.take (l.length - 1)).length → ((l.take (l.length - 1)).getD i ByteArray.empty).size ≤ 2147483647 from fun i hi => by
        rw [List.length_take] at hi
        have := HS.out i (by omega)
        rw [List.getD_eq_getElem?_getD] at this ⊢
        rw [List.getElem?_take_of_lt (by omega)]
        exact this)
      have eq4 : ((joinD (l.take (l.length - 1))).toList == (joinD (l.take (l.length - 1))).toList) = true := by simp
      clear hjs hjl hjt hallt hxp hxl htk HX
      have eW : IntKind.i64.wrap ((l.length : Int) - 1) = (l.length : Int) - 1 := IntWalk.i64_in _ (by omega)
      go_wp2_with fail
      refine (spec_PathOf _ _ _ HVx.out HSt.out HRm.out HLen.out).mono ?_
      rintro e w6 ⟨rfl, hb6⟩
      rw [HOut.out, HOt.out]
      have hc6 := (hb6.cell (p := ⟨pb, po + (l.length - 1), none⟩) (Nat.lt_of_lt_of_le hpb hb5''.size)).trans hc5
      have hb6' := hbbb.trans (hb6.mono hbbb.size)
      go_wp2_with fail
      refine (HPar.out _).mono ?_
      rintro e w7 ⟨rfl, rfl⟩
      go_wp2_with fail
      refine (HNxt.out _).mono ?_
      rintro e w8 ⟨rfl, hb8⟩
      have hb8' := hb6'.trans (hb8.mono hb6'.size)
      go_wp2_with fail
      refine (treeLives _).mono ?_
      rintro e w9 ⟨rfl, hb9⟩
      have hb9' := hb8'.trans (hb9.mono hb8'.size)
      go_wp2_with fail
      go_ret
      exact ⟨rfl, hb9'⟩
    · have hgt' : ¬ 1 < (l.length : Int) := by omega
      go_wp2_with (first | (go_at_call 22; refine (treeLives _).mono ?_; rintro e w6 ⟨rfl, hb6⟩))
      go_ret
      exact ⟨rfl, hbbb.trans (hb6.mono hbbb.size)⟩
end Go.Proofs.Ytageocibgakhmaa.L
