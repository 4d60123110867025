/- Walks: a path's parts by their names: the reference's PathOf, and what package tree says of a joined path. -/
import Derived.Test.YtageocibgakhmaaTreeH
import Derived.Test.YtageocibgakhmaaBytes
namespace Go.Proofs.Ytageocibgakhmaa.L
open Go.RowKit

/-! ### joined texts -/
/-- may a text be an item: not empty, without a dot -/
def partB (s : ByteArray) : Bool := s.data.toList.all (fun c => c != 46) && !s.data.toList.isEmpty
theorem join_snoc (sep : List UInt8) : ∀ (xs : List (List UInt8)) (x : List UInt8), xs ≠ [] → Lib.join (xs ++ [x]) sep = Lib.join xs sep ++ sep ++ x
  | [], x, h => absurd rfl h
  | y :: r, x, _ => by
    rw [List.cons_append, Lib.join_cons, Lib.join_cons]
    unfold Lib.joinTail
    simp
theorem sp_noDot (l : List UInt8) (h : l.all (fun c => c != 46) = true) (r : List UInt8) : sp 46 (l ++ 46 :: r) = l :: sp 46 r := by
  induction l with
  | nil => rw [List.nil_append, sp, if_pos rfl]
  | cons c t ih =>
    simp only [List.all_cons, Bool.and_eq_true, bne_iff_ne, ne_eq] at h
    rw [List.cons_append, sp, if_neg h.1, ih (by simpa using h.2)]
theorem sp_one (l : List UInt8) (h : l.all (fun c => c != 46) = true) : sp 46 l = [l] := by
  induction l with
  | nil => rfl
  | cons c t ih =>
    simp only [List.all_cons, Bool.and_eq_true, bne_iff_ne, ne_eq] at h
    rw [sp, if_neg h.1, ih (by simpa using h.2)]
theorem sp_join : ∀ (xs : List (List UInt8)), xs ≠ [] → (∀ x ∈ xs, x.all (fun c => c != 46) = true) → sp 46 (Lib.join xs [46]) = xs
  | [], h, _ => absurd rfl h
  | [x], _, h => by rw [Lib.join_one, sp_one x (h x (by simp))]
  | x :: y :: r, _, h => by
    have ih := sp_join (y :: r) (by simp) (fun z hz => h z (List.mem_cons_of_mem _ hz))
    have e : Lib.join (x :: y :: r) [46] = x ++ 46 :: Lib.join (y :: r) [46] := by
      rw [Lib.join_cons, Lib.join_cons]
      unfold Lib.joinTail
      simp
    rw [e, sp_noDot x (h x (by simp)), ih]
theorem part_noDot {s : ByteArray} (h : partB s = true) : s.data.toList.all (fun c => c != 46) = true := by
  unfold partB at h
  simp only [Bool.and_eq_true] at h
  exact h.1
theorem joinD_data (l : List ByteArray) : (joinD l).data.toList = Lib.join (l.map (·.data.toList)) [46] := mk_data _
theorem parts_joinD (l : List ByteArray) (hne : l ≠ []) (h : l.all partB = true) : parts (joinD l) = l := by
  unfold parts
  rw [joinD_data, sp_join]
  · rw [List.map_map]
    conv => rhs; rw [← List.map_id l]
    exact List.map_congr_left fun x _ => mk_of x
  · simpa using hne
  · intro x hx
    obtain ⟨y, hy, rfl⟩ := List.mem_map.1 hx
    exact part_noDot (List.all_eq_true.1 h y hy)

theorem byteInfo : (Try.prog.info? 5).map (fun i => (i.zero, i.size, i.bytes)) = some (some (.int .u8 0), 1, 1) := by kernel_rfl

set_option maxRecDepth 100000 in
theorem spec_treePart (s : ByteArray) (w : World) (hs : s.size ≤ 2147483647) :
    Calls Try.prog 57 #[.string s] w fun e w' => e = .returned (.bool (partB s)) ∧ w = w' := by
  go_enter Try.func57, Try.ntmps57
  go_wp2
  go_loop [3] (fun i => ∃ k : Nat, i = .int .i64 k ∧ k ≤ s.size ∧ Hid (s.data.toList.all (fun c => c != 46) = (s.data.toList.drop k).all (fun c => c != 46))) (fun i => s.size - (intOf i).toNat)
  case atStart => exact ⟨0, rfl, Nat.zero_le _, rfl⟩
  case round =>
    obtain ⟨k, rfl, hk, hH⟩ := hrel
    by_cases hlt : k < s.size
    · have e1 := at_eq s k hlt
      have st : Hid ((s.data.toList.drop k).all (fun c => c != 46) = (s[k] != 46 && (s.data.toList.drop (k + 1)).all (fun c => c != 46))) := by
        refine Lib.hid ?_
        have hl : k < s.data.toList.length := by rw [← Lib.size_eq]; exact hlt
        rw [List.drop_eq_getElem_cons hl, List.all_cons]
        rfl
      by_cases hc : s[k] = 46
      · have ec : (at_ s k == 46) = true := by rw [← e1, hc]; rfl
        have X : Hid (partB s = false) := Lib.hid (by unfold partB; rw [hH.out, st.out, hc]; rfl)
        clear hc st
        go_wp2
        go_ret
        exact ⟨by rw [X.out]; rfl, rfl⟩
      · have ec : (at_ s k == 46) = false := by
          rw [← e1, beq_eq_false_iff_ne]
          intro e
          exact hc (UInt8.toNat.inj (by have : (46 : UInt8).toNat = 46 := rfl; omega))
        have st' : Hid ((s.data.toList.drop k).all (fun c => c != 46) = (s.data.toList.drop (k + 1)).all (fun c => c != 46)) := Lib.hid (by rw [st.out]; simp [hc])
        clear hc st
        go_wp2
        go_round
        case rel => exact ⟨k + 1, by go_num, hlt, hH.out.trans st'.out⟩
        case measure => simp [intOf]; omega
    · have hks : k = s.size := by omega
      have X : Hid (partB s = decide (0 < s.size)) := Lib.hid (by
        unfold partB
        rw [hH.out, List.drop_of_length_le (by rw [← Lib.size_eq]; omega), List.all_nil, Bool.true_and]
        rw [Lib.size_eq]
        cases s.data.toList <;> simp)
      clear hks hH
      by_cases h0 : 0 < s.size
      · have h0' : 0 < (s.size : Int) := by omega
        rw [decide_eq_true h0] at X
        go_wp2
        go_ret
        exact ⟨by rw [X.out]; rfl, rfl⟩
      · have h0' : ¬ 0 < (s.size : Int) := by omega
        rw [decide_eq_false h0] at X
        go_wp2
        go_ret
        exact ⟨by rw [X.out]; rfl, rfl⟩

/-- the bytes of the items so far, joined -/
def joinB (l : List ByteArray) : List UInt8 := Lib.join (l.map (·.data.toList)) [46]
theorem joinB_snoc (l : List ByteArray) (x : ByteArray) (h : l ≠ []) : joinB (l ++ [x]) = joinB l ++ [46] ++ x.data.toList := by
  unfold joinB
  rw [List.map_append]
  exact join_snoc _ _ _ (by simpa using h)
theorem joinB_one (x : ByteArray) : joinB [x] = x.data.toList := Lib.join_one _ _
theorem joinD_mk (l : List ByteArray) : joinD l = mk (joinB l) := rfl
def pathOk (l : List ByteArray) : Bool := l.all partB && !l.isEmpty
def pathOut (l : List ByteArray) : ByteArray := if pathOk l then joinD l else ByteArray.empty
/-- how many bytes, a dot for each item -/
def room (l : List ByteArray) : Nat := (l.map fun x => x.size + 1).sum
theorem room_take_le (l : List ByteArray) (k : Nat) : room (l.take k) ≤ room l := by
  unfold room
  conv => rhs; rw [← List.take_append_drop k l, List.map_append, List.sum_append]
  omega
theorem room_snoc (l : List ByteArray) (x : ByteArray) : room (l ++ [x]) = room l + x.size + 1 := by
  unfold room
  rw [List.map_append, List.sum_append]
  simp
  omega
theorem joinB_le : ∀ (l : List ByteArray), (joinB l).length ≤ room l
  | [] => by simp [joinB, room, Lib.join, List.intercalate]
  | [x] => by rw [joinB_one, ← Lib.size_eq]; simp [room]
  | x :: y :: r => by
    have ih := joinB_le (y :: r)
    have e : joinB (x :: y :: r) = x.data.toList ++ 46 :: joinB (y :: r) := by
      unfold joinB
      rw [List.map_cons, List.map_cons, Lib.join_cons, Lib.join_cons]
      unfold Lib.joinTail
      simp
    have e2 : room (x :: y :: r) = x.size + 1 + room (y :: r) := by simp [room]
    rw [e, e2, List.length_append, List.length_cons, ← Lib.size_eq]
    omega

set_option maxHeartbeats 4000000 in
set_option maxRecDepth 100000 in
theorem spec_PathOf (l : List ByteArray) (v : Value) (w : World) (hv : SS w v l) (hs : ∀ i, i < l.length → (l.getD i ByteArray.empty).size ≤ 2147483647) (hr : room l ≤ 140737488355328) (hl : l.length ≤ 2147483647) :
    Calls Try.prog 31 #[v] w fun e w' => e = .returned (.tuple #[.string (pathOut l), .bool (pathOk l)]) ∧ Below w.heap.size w w' := by
  obtain ⟨b0, bi, bz0, bz1, bz2⟩ := info_parts byteInfo
  obtain ⟨A, c, rfl, h1, h2, h3⟩ := hv.get
  have HV := Lib.hid h3
  have HS := Lib.hid hs
  have HR := Lib.hid hr
  clear h3 hv hs hr
  unfold maxLen at h2
  go_enter Try.func31, Try.ntmps31
  go_wp2
  go_loopw [4, 5] (fun b i wr => ∃ (k : Nat), i = .int .i64 k ∧ k ≤ l.length ∧ wr.ownsRow w.heap.size 5 1 b (joinB (l.take k)).length ((joinB (l.take k)).map bv) ∧ Hid (l.all partB = (l.drop k).all partB) ∧ Below w.heap.size w wr) (fun _ i _ => l.length - (intOf i).toNat)
  case atStart => exact ⟨0, rfl, Nat.zero_le _, ⟨by simp [joinB, Lib.join, List.intercalate], .inl ⟨rfl, by simp [joinB, Lib.join, List.intercalate]⟩⟩, rfl, Below.refl _ _⟩
  case round =>
    obtain ⟨k, rfl, hk, hown, hA, hb⟩ := hrel
    have hws : w.heap.size ≤ wr.heap.size := hb.size
    by_cases hlt : k < l.length
    · obtain ⟨pb, po, rfl, hpb, hp'⟩ := str_at hb hlt HV
      have hsz := HS.out k hlt
      have st : Hid ((l.drop k).all partB = (partB (l.getD k ByteArray.empty) && (l.drop (k + 1)).all partB)) := Lib.hid (by rw [drop_at l k hlt]; rfl)
      have htk : Hid (l.take (k + 1) = l.take k ++ [l.getD k ByteArray.empty]) := Lib.hid (by
        rw [List.take_succ_eq_append_getElem hlt, List.getD_eq_getElem?_getD, List.getElem?_eq_getElem hlt]
        rfl)
      have hle : (joinB (l.take k)).length + (l.getD k ByteArray.empty).size + 1 ≤ 140737488355328 := by
        have q1 := joinB_le (l.take k)
        have q2 := room_take_le l (k + 1)
        rw [htk.out, room_snoc] at q2
        have := HR.out
        omega
      have hkt : k = 0 → l.take k = [] := fun e => by rw [e, List.take_zero]
      have hkn : 0 < k → l.take k ≠ [] := fun e h => by
        have : (l.take k).length = 0 := by rw [h]; rfl
        rw [List.length_take] at this
        omega
      have HT := Lib.hid hkt
      have HN := Lib.hid hkn
      clear hkt hkn
      generalize l.getD k ByteArray.empty = x at *
      generalize l.take k = tk at *
      rcases hx : partB x with _ | _
      · have X : Hid (pathOk l = false) := Lib.hid (by unfold pathOk; rw [hA.out, st.out, hx]; rfl)
        have X2 : Hid (pathOut l = ByteArray.empty) := Lib.hid (by unfold pathOut; rw [X.out]; rfl)
        have HX := Lib.hid hx
        clear hx
        go_wp2_with (first | (go_at_call 57; refine (spec_treePart x _ hsz).mono ?_; rintro e w' ⟨rfl, rfl⟩; rw [HX.out]))
        go_ret2
        exact ⟨by rw [X.out, X2.out]; rfl, hb⟩
      · have HX := Lib.hid hx
        rw [hx, Bool.true_and] at st
        clear hx
        by_cases h0 : k = 0
        · subst h0
          rw [Nat.add_zero] at hp'
          have ht := HT.out rfl
          subst ht
          have hown0 : wr.ownsRow w.heap.size 5 1 u4 0 [] := hown
          clear hle
          have e0 : Hid (joinB (l.take (0 + 1)) = x.data.toList) := Lib.hid (by rw [htk.out, List.nil_append, joinB_one])
          go_wp2_with (first | (go_at_call 57; refine (spec_treePart x _ hsz).mono ?_; rintro e w' ⟨rfl, rfl⟩; rw [HX.out]) | (at_builtin; refine Lib.wpList_append_own_string _ rfl _ _ 70 9 rfl w.heap.size 5 b0 Try.underlying70 Try.underlying9 bi bz0 bz1 bz2 _ _ _ rfl hown0 (x) rfl ?c3 ?c4 ?c5 ?_; (case c3 => unfold maxLen; omega); (case c4 => omega); (case c5 => first | omega | (simp; omega)); intro v' w1 hown' hgrow _))
          go_roundw
          case rel => exact ⟨1, by go_num, hlt, by rw [e0.out, ← Lib.size_eq]; simpa [joinB, Lib.join, List.intercalate, strCells_bv] using hown', hA.out.trans st.out, hb.grown hgrow hws (fun k' hk' => (World.ownsRow.lt hown k' hk').1)⟩
          case measure => simp [intOf]; omega
        · have h0' : 0 < (k : Int) := by omega
          have e0 : Hid (joinB (l.take (k + 1)) = joinB tk ++ [46] ++ x.data.toList) := Lib.hid (by rw [htk.out]; exact joinB_snoc _ _ (HN.out (by omega)))
          go_wp2_with (first | (go_at_call 57; refine (spec_treePart x _ hsz).mono ?_; rintro e w' ⟨rfl, rfl⟩; rw [HX.out]) | (at_builtin; refine wpList_append_own _ rfl _ _ 70 rfl w.heap.size 5 b0 (.int .u8 0) 1 1 Try.underlying70 bi bz0 bz1 bz2 rfl (by decide) _ _ _ rfl (hown.alloc _) ⟨wr.heap.size, 0, none⟩ 1 1 [.int .u8 46] rfl rfl ?c1 ?c2 ?c3 ?c4 ?c5 ?_; (case c1 => exact cell_one_new _ _ _); (case c2 => simp [Value.oneCell']); (case c3 => unfold maxLen; omega); (case c4 => omega); (case c5 => simp; omega); intro v' w1 hown' hgrow _; have hbA := ((Below.refl w.heap.size wr).alloc hws _).grown hgrow (by simp; omega) (fun k' hk' => (World.ownsRow.lt hown k' hk').1); have hp2 := (hbA.cell (p := ⟨pb, po + k, none⟩) hpb).trans hp'; have hws1 := Nat.le_trans hws hbA.size) | (at_builtin; refine Lib.wpList_append_own_string _ rfl _ _ 70 9 rfl w.heap.size 5 b0 Try.underlying70 Try.underlying9 bi bz0 bz1 bz2 _ _ _ rfl hown' (x) rfl ?c3 ?c4 ?c5 ?_; (case c3 => unfold maxLen; omega); (case c4 => omega); (case c5 => first | omega | (simp; omega)); intro v'' w2 hown'' hgrow' _))
          go_roundw
          case rel =>
            have hb2 := (hb.alloc hws _).grown hgrow (by simp; omega) (fun k' hk' => (World.ownsRow.lt hown k' hk').1)
            refine ⟨k + 1, by go_num, hlt, ?_, hA.out.trans st.out, hb2.grown hgrow' hb2.size (fun k' hk' => (World.ownsRow.lt hown' k' hk').1)⟩
            rw [e0.out]
            have e : (joinB tk ++ [46] ++ x.data.toList).length = (joinB tk).length + 1 + x.size := by rw [List.length_append, List.length_append, ← Lib.size_eq]; rfl
            rw [e, List.map_append, List.map_append]
            exact hown''
          case measure => simp [intOf]; omega
    · have hkl : k = l.length := by omega
      have hO : Hid (wr.ownsRow w.heap.size 5 1 u4 (joinB l).length ((joinB l).map bv)) := by
        refine Lib.hid ?_
        rw [hkl, List.take_length] at hown
        exact hown
      have hAl : Hid (l.all partB = true) := Lib.hid (by rw [hA.out, hkl, List.drop_length]; rfl)
      clear hown hkl hA
      by_cases h0 : 0 < l.length
      · have h0' : 0 < (l.length : Int) := by omega
        have X : Hid (pathOk l = true) := Lib.hid (by
          unfold pathOk
          rw [hAl.out]
          cases l with
          | nil => simp at h0
          | cons => rfl)
        have X2 : Hid (pathOut l = mk (joinB l)) := Lib.hid (by unfold pathOut; rw [X.out]; rfl)
        go_wp2_with (refine wpList_string_own rfl _ 70 5 9 rfl Try.underlying70 Try.underlying5 Try.underlying9 _ rfl _ _ (RdK.of_own hO.out) ?_)
        go_ret2
        exact ⟨by rw [X.out, X2.out]; rfl, hb⟩
      · have h0' : ¬ 0 < (l.length : Int) := by omega
        have hl0 : l = [] := List.length_eq_zero_iff.1 (by omega)
        have X : Hid (pathOk l = false) := Lib.hid (by rw [hl0]; rfl)
        have X2 : Hid (pathOut l = mk (joinB l)) := Lib.hid (by unfold pathOut; rw [X.out, hl0]; rfl)
        clear hl0
        go_wp2_with (refine wpList_string_own rfl _ 70 5 9 rfl Try.underlying70 Try.underlying5 Try.underlying9 _ rfl _ _ (RdK.of_own hO.out) ?_)
        go_ret2
        exact ⟨by rw [X.out, X2.out]; rfl, hb⟩
end Go.Proofs.Ytageocibgakhmaa.L
