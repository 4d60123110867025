/- Walks: the searches in package tree, over any strings. -/
import Derived.Test.YtiamiagjkfioiaaGreatDoorSp
namespace Go.Proofs.YtiamiagjkfioiaaGreatDoor.L
set_option linter.unusedVariables false
set_option linter.unusedSimpArgs false
set_option linter.unusedSectionVars false
open Go.RowKit

set_option maxHeartbeats 400000 in
set_option maxRecDepth 100000 in
theorem tree_zzIndex (s sub : ByteArray) (w : World) (hs : s.size ≤ 140737488355328) (hsub : sub.size ≤ 140737488355328) (h0 : 0 < sub.size) :
    Calls Tryz.prog 118 #[.string s, .string sub] w fun e w' => e = .returned (.int .i64 (Lib.index s.data.toList sub.data.toList)) ∧ w = w' := by
  go_enter Tryz.func118, Tryz.ntmps118
  go_wp2
  go_loop [5] (fun i => ∃ k : Nat, i = .int .i64 k ∧ k ≤ s.size ∧ Hid (Lib.NoOcc s.data.toList sub.data.toList k)) (fun i => s.size - (intOf i).toNat)
  case atStart => exact ⟨0, rfl, Nat.zero_le _, Lib.NoOcc.zero _ _⟩
  case round =>
    obtain ⟨k, rfl, hk, hN⟩ := hrel
    by_cases hlt : k + sub.size ≤ s.size
    · have hi : k + sub.data.toList.length ≤ s.data.toList.length := by rw [← Lib.size_eq, ← Lib.size_eq]; exact hlt
      have ho := Lib.occAt_iff_take s.data.toList sub.data.toList k hi
      have hx : ((s.extract k (k + sub.size)).toList == sub.toList) = Lib.occAt s.data.toList sub.data.toList k := by
        rw [Lib.toList_data, Lib.toList_data, Lib.extract_data, ho, Nat.add_sub_cancel_left, Lib.size_eq sub]
      clear ho hi
      by_cases hocc : Lib.occAt s.data.toList sub.data.toList k = true
      · rw [hocc] at hx
        have X : Hid (Lib.index s.data.toList sub.data.toList = k) := Lib.index_hit hN.out (by rw [← Lib.size_eq]; omega) hocc
        clear hocc
        go_wp2
        go_ret
        exact ⟨by rw [X.out]; rfl, rfl⟩
      · have hocc' : Lib.occAt s.data.toList sub.data.toList k = false := by simpa using hocc
        rw [hocc'] at hx
        have X : Hid (Lib.NoOcc s.data.toList sub.data.toList (k + 1)) := Lib.NoOcc.succ hN.out hocc'
        clear hocc hocc'
        go_wp2
        go_round
        case rel => exact ⟨k + 1, by go_num, by omega, X⟩
        case measure => simp [intOf]; omega
    · have X : Hid (Lib.index s.data.toList sub.data.toList = -1) := Lib.index_past (by intro e; rw [Lib.size_eq, e] at h0; simp at h0) hN.out (by rw [← Lib.size_eq, ← Lib.size_eq]; omega)
      go_wp2
      go_ret
      exact ⟨by rw [X.out]; rfl, rfl⟩

theorem tree_zzIndex_at (s sub : ByteArray) (i : Int) (w : World) (hs : s.size ≤ 140737488355328) (hsub : sub.size ≤ 140737488355328) (h0 : 0 < sub.size) (hi : Lib.index s.data.toList sub.data.toList = i) :
    Calls Tryz.prog 118 #[.string s, .string sub] w fun e w' => e = .returned (.int .i64 i) ∧ w = w' := by
  rw [← hi]
  exact tree_zzIndex s sub w hs hsub h0



set_option maxHeartbeats 800000 in
set_option maxRecDepth 100000 in
theorem tree_zzSplit (s : ByteArray) (d : UInt8) (w : World) (hs : s.size ≤ 2147483647) :
    Calls Tryz.prog 128 #[.string s, .string ⟨#[d]⟩] w fun e w' => splitOk w d s e w' := by
  obtain ⟨i0, hi, hz0, hz1, hz2⟩ := info_parts strInfo
  have hd : ((⟨#[d]⟩ : ByteArray).size : Int) = 1 := rfl
  go_enter Tryz.func128, Tryz.ntmps128
  go_wp2
  go_loopw [0, 5, 8] (fun c v _ wr => ∃ (cur : ByteArray) (done : List ByteArray), c = .string cur ∧ Hid ((sp d s.data.toList).map mk = done ++ (sp d cur.data.toList).map mk) ∧ cur.size + done.length ≤ s.size ∧
      wr.ownsRow w.heap.size 9 1 v done.length (done.map Value.string) ∧ Below w.heap.size w wr) (fun c _ _ _ => match c with | .string c => c.size | _ => 0)
  case atStart => exact ⟨s, [], rfl, rfl, by simp, ⟨by simp, .inl ⟨rfl, rfl⟩⟩, Below.refl _ _⟩
  case round =>
    obtain ⟨cur, done, rfl, hsp, hlen, hown, hb⟩ := hrel
    have hws : w.heap.size ≤ wr.heap.size := hb.size
    by_cases hneg : Lib.index cur.data.toList [d] < 0
    · have hm : Lib.index cur.data.toList [d] = -1 := by have := Lib.index_ge cur.data.toList [d]; omega
      have X : Hid ((sp d s.data.toList).map mk = done ++ [cur]) := by
        refine Lib.hid ?_
        have := hsp.out
        rw [index_one_miss d _ hm] at this
        simpa [mk_of] using this
      clear hm hsp
      go_wp2_with (first | (go_at_call 118; refine (tree_zzIndex cur _ _ (by omega) (by show 1 ≤ _; omega) (by show 0 < 1; omega)).mono ?_; rintro e w' ⟨rfl, rfl⟩) | (at_builtin; refine wpList_append_own _ rfl _ _ 22 rfl w.heap.size 9 i0 (.string ByteArray.empty) 1 16 Tryz.underlying22 hi hz0 hz1 hz2 rfl (by decide) _ _ _ rfl (hown.alloc _) ⟨wr.heap.size, 0, none⟩ 1 1 [.string cur] rfl rfl ?c1 ?c2 ?c3 ?c4 ?c5 ?_; (case c1 => exact cell_one_new _ _ _); (case c2 => simp [Value.oneCell']); (case c3 => unfold maxLen; omega); (case c4 => omega); (case c5 => simp; omega); intro v' w1 hown' hgrow _))
      go_ret
      refine ⟨_, rfl, ?_, ?_⟩
      · rw [X.out]
        exact SSK.of_own (base := w.heap.size) (e := 9) (n := done.length + 1) (by simpa using hown')
      · exact (hb.alloc hws _).grown hgrow (by simp; omega) (fun k hk => (World.ownsRow.lt hown k hk).1)
    · have hge := Lib.index_ge cur.data.toList [d]
      obtain ⟨i, hi'⟩ : ∃ i : Nat, Lib.index cur.data.toList [d] = i := ⟨(Lib.index cur.data.toList [d]).toNat, by omega⟩
      have hroom := Lib.index_room cur.data.toList [d] (by omega)
      rw [hi', ← Lib.size_eq] at hroom
      simp only [List.length_singleton] at hroom
      have X : Hid ((sp d s.data.toList).map mk = (done ++ [cur.extract 0 i]) ++ (sp d (cur.extract (i + 1) cur.size).data.toList).map mk) := by
        refine Lib.hid ?_
        have := hsp.out
        rw [index_one_hit d _ i hi'] at this
        rw [extract_end, mk_data, extract_start]
        simpa using this
      have Y : Hid (Lib.index cur.data.toList [d] = i) := hi'
      clear hi' hsp hneg hge
      go_wp2_with (first | (go_at_call 118; refine (tree_zzIndex_at cur _ i _ (by omega) (by show 1 ≤ _; omega) (by show 0 < 1; omega) Y.out).mono ?_; rintro e w' ⟨rfl, rfl⟩) | (at_builtin; refine wpList_append_own _ rfl _ _ 22 rfl w.heap.size 9 i0 (.string ByteArray.empty) 1 16 Tryz.underlying22 hi hz0 hz1 hz2 rfl (by decide) _ _ _ rfl (hown.alloc _) ⟨wr.heap.size, 0, none⟩ 1 1 [.string (cur.extract 0 i)] rfl rfl ?c1 ?c2 ?c3 ?c4 ?c5 ?_; (case c1 => exact cell_one_new _ _ _); (case c2 => simp [Value.oneCell']); (case c3 => unfold maxLen; omega); (case c4 => omega); (case c5 => simp; omega); intro v' w1 hown' hgrow _))
      go_roundw
      case rel => exact ⟨_, done ++ [cur.extract 0 i], rfl, X, by simp; omega, by simpa using hown', (hb.alloc hws _).grown hgrow (by simp; omega) (fun k hk => (World.ownsRow.lt hown k hk).1)⟩
      case measure => simp; omega
end Go.Proofs.YtiamiagjkfioiaaGreatDoor.L
