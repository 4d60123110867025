/- Walks: Parts, Last, Parent, Next of a joined path. -/
import Derived.Test.YtageocibgakhmaaTreeI
namespace Go.Proofs.Ytageocibgakhmaa.L
open Go.RowKit

theorem impl_Parts (s : ByteArray) (w : World) (hs : s.size ≤ 2147483647) :
    Calls Try.prog 34 #[.string s] w fun e w' => splitOk w 46 s e w' := by
  go_enter Try.func34, Try.ntmps34
  go_wp2_with (first | (go_at_call 59; refine (tree_Parts s _ hs).mono ?_; rintro e w' ⟨v, rfl, h1, h2⟩))
  go_ret
  exact ⟨_, rfl, h1, h2⟩

set_option maxRecDepth 100000 in
theorem laws_sameTexts (a b : List ByteArray) (va vb : Value) (w : World) (ha : SS w va a) (hb : SS w vb b) :
    Calls Try.prog 33 #[va, vb] w fun e w' => e = .returned (.bool (decide (a = b))) ∧ ∃ n, w' = w.drewN n := by
  obtain ⟨A, ca, rfl, ha1, ha2, ha3⟩ := ha.get
  obtain ⟨B, cb, rfl, hb1, hb2, hb3⟩ := hb.get
  have HA := Lib.hid ha3
  have HB := Lib.hid hb3
  clear ha3 hb3 ha hb
  unfold maxLen at ha2 hb2
  by_cases hle : a.length = b.length
  · have hn : ((a.length : Int) != (b.length : Int)) = false := by rw [bne_eq_false_iff_eq]; omega
    have HL := Lib.hid hle
    clear hle
    go_enter Try.func33, Try.ntmps33
    go_wp2
    go_loopw [5] (fun i wr => ∃ k : Nat, i = .int .i64 k ∧ k ≤ a.length ∧ Hid (a.take k = b.take k) ∧ ∃ n, wr = w.drewN n) (fun i _ => a.length - (intOf i).toNat)
    case atStart => exact ⟨0, rfl, Nat.zero_le _, rfl, 0, rfl⟩
    case round =>
      obtain ⟨k, rfl, hk, hT, n, rfl⟩ := hrel
      by_cases h1 : k < a.length
      · have h2 : k < b.length := by have := HL.out; omega
        have h1i : (k : Int) < (a.length : Int) := by omega
        have h2i : (k : Int) < (b.length : Int) := by omega
        obtain ⟨b1, o1, rfl, hb1', hc1⟩ := HA.out (by omega)
        obtain ⟨b2, o2, rfl, hb2', hc2⟩ := HB.out (by omega)
        have c1 := hc1 k h1
        have c2 := hc2 k h2
        clear hc1 hc2
        have ta : Hid (a.take (k + 1) = a.take k ++ [a.getD k ByteArray.empty]) := Lib.hid (by rw [List.take_succ_eq_append_getElem h1, List.getD_eq_getElem?_getD, List.getElem?_eq_getElem h1]; rfl)
        have tb : Hid (b.take (k + 1) = b.take k ++ [b.getD k ByteArray.empty]) := Lib.hid (by rw [List.take_succ_eq_append_getElem h2, List.getD_eq_getElem?_getD, List.getElem?_eq_getElem h2]; rfl)
        generalize a.getD k ByteArray.empty = x at *
        generalize b.getD k ByteArray.empty = y at *
        by_cases hx : x = y
        · have ex0 : (x.toList == y.toList) = true := by rw [eq_iff, decide_eq_true hx]
          have ex : (x.toList != y.toList) = false := by rw [bne, eq_iff, decide_eq_true hx]; rfl
          have hT' : Hid (a.take (k + 1) = b.take (k + 1)) := Lib.hid (by rw [ta.out, tb.out, hT.out, hx])
          clear hx
          go_wp2
          go_quiet (fail)
          go_wp2
          go_roundw
          case rel => exact ⟨k + 1, by go_num, h1, hT', _, rfl⟩
          case measure => simp [intOf]; omega
        · have ex0 : (x.toList == y.toList) = false := by rw [eq_iff, decide_eq_false hx]
          have ex : (x.toList != y.toList) = true := by rw [bne, eq_iff, decide_eq_false hx]; rfl
          have hN : Hid (decide (a = b) = false) := Lib.hid (by
            rw [decide_eq_false]
            intro e
            have q := congrArg (List.take (k + 1)) e
            rw [ta.out, tb.out] at q
            have := List.append_inj_right' q rfl
            exact hx (by simpa using this))
          clear hx
          go_wp2
          go_quiet (fail)
          go_wp2
          go_ret
          exact ⟨by rw [hN.out]; rfl, _, World.drewN_drewN _ _ _⟩
      · have hY : Hid (decide (a = b) = true) := Lib.hid (by
          rw [decide_eq_true]
          have q := hT.out
          have := HL.out
          rwa [List.take_of_length_le (by omega), List.take_of_length_le (by omega)] at q)
        go_wp2
        go_ret
        exact ⟨by rw [hY.out]; rfl, _, rfl⟩
  · have hn : ((a.length : Int) != (b.length : Int)) = true := by rw [bne_iff_ne]; omega
    have hN : Hid (decide (a = b) = false) := Lib.hid (by rw [decide_eq_false]; intro e; exact hle (by rw [e]))
    clear hle
    go_enter Try.func33, Try.ntmps33
    go_wp2
    go_ret
    exact ⟨by rw [hN.out]; rfl, 0, rfl⟩

set_option maxRecDepth 100000 in
theorem tree_Last (l : List ByteArray) (s : ByteArray) (w : World) (hs : s.size ≤ 2147483647) (hp : parts s = l) (h0 : 0 < l.length) :
    Calls Try.prog 60 #[.string s] w fun e w' => e = .returned (.string (l.getD (l.length - 1) ByteArray.empty)) ∧ Below w.heap.size w w' := by
  have HP := Lib.hid hp
  clear hp
  have hl1 := parts_len s
  rw [HP.out] at hl1
  go_enter Try.func60, Try.ntmps60
  go_wp2_with fail
  refine (tree_Parts s _ hs).mono ?_
  rintro e w1 ⟨v, rfl, hss, hb⟩
  replace hss := hss.any
  change SS w1 v (parts s) at hss
  rw [HP.out] at hss
  obtain ⟨A, c, rfl, h1, h2, h3⟩ := hss.get
  obtain ⟨pb, po, rfl, hpb, hpc⟩ := h3 h0
  have hc := hpc (l.length - 1) (by omega)
  clear hpc h3 hss
  unfold maxLen at h2
  have e1 : ((l.length : Int) - 1).toNat = l.length - 1 := by omega
  go_wp2
  go_ret
  exact ⟨rfl, hb⟩

theorem impl_Last (l : List ByteArray) (s : ByteArray) (w : World) (hs : s.size ≤ 2147483647) (hp : parts s = l) (h0 : 0 < l.length) :
    Calls Try.prog 35 #[.string s] w fun e w' => e = .returned (.string (l.getD (l.length - 1) ByteArray.empty)) ∧ Below w.heap.size w w' := by
  have HP := Lib.hid hp
  clear hp
  go_enter Try.func35, Try.ntmps35
  go_wp2_with (first | (go_at_call 60; refine (tree_Last l s _ hs HP.out h0).mono ?_; rintro e w' ⟨rfl, hb⟩))
  go_ret
  exact ⟨rfl, hb⟩

/-! ### the path without its last item -/
theorem occ_at (s : List UInt8) (i : Nat) : Lib.occAt s [46] i = decide (s[i]? = some 46) := by
  unfold Lib.occAt
  rcases Nat.lt_or_ge i s.length with h | h
  · rw [List.drop_eq_getElem_cons h, List.getElem?_eq_getElem h]
    by_cases e : s[i] = 46
    · simp [e, List.isPrefixOf]
    · simp [e, List.isPrefixOf, Ne.symm e]
  · rw [List.drop_of_length_le h, List.getElem?_eq_none h]
    rfl
theorem lastIdx_join (xs : List UInt8) (x : List UInt8) (hx : x.all (fun c => c != 46) = true) : Lib.lastIndex (xs ++ 46 :: x) [46] = xs.length := by
  unfold Lib.lastIndex
  rw [if_pos (by simp; omega)]
  have hl : (xs ++ 46 :: x).length - [(46 : UInt8)].length + 1 = xs.length + 1 + x.length := by simp; omega
  rw [hl]
  rcases Lib.lastOcc_spec (xs ++ 46 :: x) [46] (xs.length + 1 + x.length) with ⟨_, hn⟩ | ⟨i, hi, e, ho, hn⟩
  · have := hn xs.length (by omega)
    rw [occ_at] at this
    simp at this
  · rw [e]
    rcases Nat.lt_trichotomy i xs.length with h | h | h
    · have := hn xs.length h (by omega)
      rw [occ_at] at this
      simp at this
    · rw [h]
    · exfalso
      rw [occ_at, List.getElem?_append_right (by omega)] at ho
      obtain ⟨j, hj⟩ : ∃ j, i - xs.length = j + 1 := ⟨i - xs.length - 1, by omega⟩
      rw [hj, List.getElem?_cons_succ] at ho
      have ho' : x[j]? = some 46 := of_decide_eq_true ho
      obtain ⟨hjl, he⟩ := List.getElem?_eq_some_iff.1 ho'
      have := List.all_eq_true.1 hx _ (List.getElem_mem hjl)
      rw [he] at this
      simp at this
theorem joinD_last (l : List ByteArray) (x : ByteArray) (h : l ≠ []) : joinB (l ++ [x]) = joinB l ++ 46 :: x.data.toList := by rw [joinB_snoc l x h]; simp

set_option maxRecDepth 100000 in
theorem tree_Parent (l : List ByteArray) (x : ByteArray) (w : World) (hne : joinB l ≠ []) (hl : l ≠ []) (hx : partB x = true) (hs : (joinD (l ++ [x])).size ≤ 2147483647) :
    Calls Try.prog 61 #[.string (joinD (l ++ [x]))] w fun e w' => e = .returned (.string (joinD l)) ∧ w = w' := by
  have e0 : (joinD (l ++ [x])).data.toList = joinB l ++ 46 :: x.data.toList := by rw [joinD_mk, mk_data, joinD_last l x hl]
  have HI := Lib.hid (show Lib.lastIndex (joinD (l ++ [x])).data.toList [46] = (joinB l).length by rw [e0, lastIdx_join _ _ (part_noDot hx)])
  have HX := Lib.hid (show (joinD (l ++ [x])).extract 0 (joinB l).length = joinD l by rw [extract_start, e0, List.take_left]; rfl)
  have hlen : (joinB l).length ≤ (joinD (l ++ [x])).size := by rw [Lib.size_eq, e0, List.length_append]; omega
  have hpos : 0 < (joinB l).length := List.length_pos_iff.2 hne
  clear e0 hne hl hx
  generalize joinD (l ++ [x]) = s at *
  have hsz : s.size < 4611686018427387904 := by omega
  go_enter Try.func61, Try.ntmps61
  go_wp2_with fail
  refine (Try.strings_LastIndex s dotS hsz _).mono ?_
  rintro e w' ⟨rfl, rfl⟩
  rw [show Lib.lastIndex s.data.toList dotS.data.toList = ((joinB l).length : Int) from HI.out]
  have hp' : 0 < ((joinB l).length : Int) := by omega
  go_wp2
  go_ret
  exact ⟨by rw [← HX.out]; rfl, rfl⟩

theorem impl_Parent (l : List ByteArray) (x : ByteArray) (w : World) (hne : joinB l ≠ []) (hl : l ≠ []) (hx : partB x = true) (hs : (joinD (l ++ [x])).size ≤ 2147483647) :
    Calls Try.prog 36 #[.string (joinD (l ++ [x]))] w fun e w' => e = .returned (.string (joinD l)) ∧ w = w' := by
  have HP := Lib.hid (tree_Parent l x)
  have H1 := Lib.hid hne
  have H2 := Lib.hid hl
  clear hne hl
  go_enter Try.func36, Try.ntmps36
  go_wp2_with (first | (go_at_call 61; refine (HP.out _ H1.out H2.out hx hs).mono ?_; rintro e w' ⟨rfl, rfl⟩))
  go_ret
  exact ⟨rfl, rfl⟩

/-! ### one item more -/
theorem noDot_index (s : ByteArray) (h : partB s = true) : Lib.index s.data.toList [46] = -1 := by
  refine Lib.index_none fun j hj => ?_
  rw [occ_at, decide_eq_false]
  intro e
  obtain ⟨hjl, he⟩ := List.getElem?_eq_some_iff.1 e
  have := List.all_eq_true.1 (part_noDot h) _ (List.getElem_mem hjl)
  rw [he] at this
  simp at this

set_option maxHeartbeats 1000000 in
set_option maxRecDepth 100000 in
theorem tree_zzReplaceAll_none (s d r : ByteArray) (w : World) (hs : s.size ≤ 2147483647) (hd : 0 < d.size) (hd2 : d.size ≤ 2147483647) (hi : Lib.index s.data.toList d.data.toList = -1) :
    Calls Try.prog 76 #[.string s, .string d, .string r] w fun e w' => e = .returned (.string s) ∧ Below w.heap.size w w' := by
  obtain ⟨b0, bi, bz0, bz1, bz2⟩ := info_parts byteInfo
  have hd0 : ((d.size : Int) == 0) = false := by rw [beq_eq_false_iff_ne]; omega
  have hown0 : w.ownsRow w.heap.size 5 1 (.slice none 0 0) 0 [] := ⟨by simp, .inl ⟨rfl, rfl⟩⟩
  have HI := Lib.hid hi
  clear hi
  go_enter Try.func76, Try.ntmps76
  go_wp2_with fail
  refine wp_loop_rounds 1 ?_
  rw [rounds_succ]
  go_wp2_with fail
  refine (tree_zzIndex_at s d (-1) _ (by omega) (by omega) hd HI.out).mono ?_
  rintro e w' ⟨rfl, rfl⟩
  go_wp2_with (first | (at_builtin; refine Lib.wpList_append_own_string _ rfl _ _ 70 9 rfl w.heap.size 5 b0 Try.underlying70 Try.underlying9 bi bz0 bz1 bz2 _ _ _ rfl hown0 (s) rfl ?c3 ?c4 ?c5 ?_; (case c3 => unfold maxLen; omega); (case c4 => omega); (case c5 => first | omega | (simp; omega)); intro v' w1 hown' hgrow _) | (refine wpList_string_own rfl _ 70 5 9 rfl Try.underlying70 Try.underlying5 Try.underlying9 _ rfl _ _ (RdK.of_own (show w1.ownsRow w.heap.size 5 1 v' s.size (s.data.toList.map bv) by simpa [strCells_bv] using hown')) ?_))
  go_ret
  exact ⟨by rw [← mk_of s]; rfl, (Below.refl _ _).grown hgrow (Nat.le_refl _) (fun k' hk' => (World.ownsRow.lt hown0 k' hk').1)⟩

set_option maxRecDepth 100000 in
theorem tree_Next (p x : ByteArray) (w : World) (hp : 0 < p.size) (hx : partB x = true) (hs : p.size ≤ 2147483647) (hxs : x.size ≤ 2147483647) :
    Calls Try.prog 62 #[.string p, .string x] w fun e w' => e = .returned (.string (mk (p.data.toList ++ 46 :: x.data.toList))) ∧ Below w.heap.size w w' := by
  have hE : p.toList.isEmpty = false := by rw [isEmpty_of_size, decide_eq_false]; omega
  have hE2 : (p.toList == []) = false := by rw [← hE]; cases p.toList <;> rfl
  have HI := Lib.hid (noDot_index x hx)
  go_enter Try.func62, Try.ntmps62
  go_wp2_with fail
  refine (tree_zzReplaceAll_none x dotS _ _ hxs (by decide) (of_decide_eq_true (by kernel_rfl)) HI.out).mono ?_
  rintro e w1 ⟨rfl, hb⟩
  go_wp2
  go_ret
  refine ⟨?_, hb⟩
  show Ending.returned (.string (p ++ dotS ++ x)) = _
  have e : p ++ dotS ++ x = mk (p.data.toList ++ 46 :: x.data.toList) := by
    apply data_inj
    rw [mk_data, ByteArray.data_append, ByteArray.data_append]
    simp [dotS]
  rw [e]

theorem impl_Next (p x : ByteArray) (w : World) (hp : 0 < p.size) (hx : partB x = true) (hs : p.size ≤ 2147483647) (hxs : x.size ≤ 2147483647) :
    Calls Try.prog 37 #[.string p, .string x] w fun e w' => e = .returned (.string (mk (p.data.toList ++ 46 :: x.data.toList))) ∧ Below w.heap.size w w' := by
  go_enter Try.func37, Try.ntmps37
  go_wp2_with (first | (go_at_call 62; refine (tree_Next p x _ hp hx hs hxs).mono ?_; rintro e w' ⟨rfl, hb⟩))
  go_ret
  exact ⟨rfl, hb⟩
end Go.Proofs.Ytageocibgakhmaa.L
