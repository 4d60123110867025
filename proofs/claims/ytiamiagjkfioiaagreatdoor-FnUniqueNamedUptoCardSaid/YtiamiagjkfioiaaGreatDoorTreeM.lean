/- Joined texts. -/
import Derived.Test.YtiamiagjkfioiaaGreatDoorSp
/- Walks: the searches in package tree, over any strings. -/
namespace Go.Proofs.YtiamiagjkfioiaaGreatDoor.L
set_option linter.unusedVariables false
set_option linter.unusedSimpArgs false
set_option linter.unusedSectionVars false
open Go.RowKit

set_option maxHeartbeats 400000 in
set_option maxRecDepth 100000 in
theorem tree_zzIndex (s sub : ByteArray) (w : World) (hs : s.size ≤ 140737488355328) (hsub : sub.size ≤ 140737488355328) (h0 : 0 < sub.size) :
    Calls Tryz.prog 118 #[.string s, .string sub] w fun e w' => e = .returned (.int .i64 (Lib.index s.data.toList sub.data.toList)) ∧ w = w' := by
  go_enter Tryz.func118, Tryz.ntmps118
  go_wp2
  go_loop [5] (fun i => ∃ k : Nat, i = .int .i64 k ∧ k ≤ s.size ∧ Hid (Lib.NoOcc s.data.toList sub.data.toList k)) (fun i => s.size - (intOf i).toNat)
  case atStart => exact ⟨0, rfl, Nat.zero_le _, Lib.NoOcc.zero _ _⟩
  case round =>
    obtain ⟨k, rfl, hk, hN⟩ := hrel
    by_cases hlt : k + sub.size ≤ s.size
    · have hi : k + sub.data.toList.length ≤ s.data.toList.length := by rw [← Lib.size_eq, ← Lib.size_eq]; exact hlt
      have ho := Lib.occAt_iff_take s.data.toList sub.data.toList k hi
      have hx : ((s.extract k (k + sub.size)).toList == sub.toList) = Lib.occAt s.data.toList sub.data.toList k := by
        rw [Lib.toList_data, Lib.toList_data, Lib.extract_data, ho, Nat.add_sub_cancel_left, Lib.size_eq sub]
      clear ho hi
      by_cases hocc : Lib.occAt s.data.toList sub.data.toList k = true
      · rw [hocc] at hx
        have X : Hid (Lib.index s.data.toList sub.data.toList = k) := Lib.index_hit hN.out (by rw [← Lib.size_eq]; omega) hocc
        clear hocc
        go_wp2
        go_ret
        exact ⟨by rw [X.out]; rfl, rfl⟩
      · have hocc' : Lib.occAt s.data.toList sub.data.toList k = false := by simpa using hocc
        rw [hocc'] at hx
        have X : Hid (Lib.NoOcc s.data.toList sub.data.toList (k + 1)) := Lib.NoOcc.succ hN.out hocc'
        clear hocc hocc'
        go_wp2
        go_round
        case rel => exact ⟨k + 1, by go_num, by omega, X⟩
        case measure => simp [intOf]; omega
    · have X : Hid (Lib.index s.data.toList sub.data.toList = -1) := Lib.index_past (by intro e; rw [Lib.size_eq, e] at h0; simp at h0) hN.out (by rw [← Lib.size_eq, ← Lib.size_eq]; omega)
      go_wp2
      go_ret
      exact ⟨by rw [X.out]; rfl, rfl⟩

theorem tree_zzIndex_at (s sub : ByteArray) (i : Int) (w : World) (hs : s.size ≤ 140737488355328) (hsub : sub.size ≤ 140737488355328) (h0 : 0 < sub.size) (hi : Lib.index s.data.toList sub.data.toList = i) :
    Calls Tryz.prog 118 #[.string s, .string sub] w fun e w' => e = .returned (.int .i64 i) ∧ w = w' := by
  rw [← hi]
  exact tree_zzIndex s sub w hs hsub h0



set_option maxHeartbeats 800000 in
set_option maxRecDepth 100000 in
theorem tree_zzSplit (s : ByteArray) (d : UInt8) (w : World) (hs : s.size ≤ 2147483647) :
    Calls Tryz.prog 128 #[.string s, .string ⟨#[d]⟩] w fun e w' => splitOk w d s e w' := by
  obtain ⟨i0, hi, hz0, hz1, hz2⟩ := info_parts strInfo
  have hd : ((⟨#[d]⟩ : ByteArray).size : Int) = 1 := rfl
  go_enter Tryz.func128, Tryz.ntmps128
  go_wp2
  go_loopw [0, 5, 8] (fun c v _ wr => ∃ (cur : ByteArray) (done : List ByteArray), c = .string cur ∧ Hid ((sp d s.data.toList).map mk = done ++ (sp d cur.data.toList).map mk) ∧ cur.size + done.length ≤ s.size ∧
      wr.ownsRow w.heap.size 9 1 v done.length (done.map Value.string) ∧ Below w.heap.size w wr) (fun c _ _ _ => match c with | .string c => c.size | _ => 0)
  case atStart => exact ⟨s, [], rfl, rfl, by simp, ⟨by simp, .inl ⟨rfl, rfl⟩⟩, Below.refl _ _⟩
  case round =>
    obtain ⟨cur, done, rfl, hsp, hlen, hown, hb⟩ := hrel
    have hws : w.heap.size ≤ wr.heap.size := hb.size
    by_cases hneg : Lib.index cur.data.toList [d] < 0
    · have hm : Lib.index cur.data.toList [d] = -1 := by have := Lib.index_ge cur.data.toList [d]; omega
      have X : Hid ((sp d s.data.toList).map mk = done ++ [cur]) := by
        refine Lib.hid ?_
        have := hsp.out
        rw [index_one_miss d _ hm] at this
        simpa [mk_of] using this
      clear hm hsp
      go_wp2_with (first | (go_at_call 118; refine (tree_zzIndex cur _ _ (by omega) (by show 1 ≤ _; omega) (by show 0 < 1; omega)).mono ?_; rintro e w' ⟨rfl, rfl⟩) | (at_builtin; refine wpList_append_own _ rfl _ _ 22 rfl w.heap.size 9 i0 (.string ByteArray.empty) 1 16 Tryz.underlying22 hi hz0 hz1 hz2 rfl (by decide) _ _ _ rfl (hown.alloc _) ⟨wr.heap.size, 0, none⟩ 1 1 [.string cur] rfl rfl ?c1 ?c2 ?c3 ?c4 ?c5 ?_; (case c1 => exact cell_one_new _ _ _); (case c2 => simp [Value.oneCell']); (case c3 => unfold maxLen; omega); (case c4 => omega); (case c5 => simp; omega); intro v' w1 hown' hgrow _))
      go_ret
      refine ⟨_, rfl, ?_, ?_⟩
      · rw [X.out]
        exact SSK.of_own (base := w.heap.size) (e := 9) (n := done.length + 1) (by simpa using hown')
      · exact (hb.alloc hws _).grown hgrow (by simp; omega) (fun k hk => (World.ownsRow.lt hown k hk).1)
    · have hge := Lib.index_ge cur.data.toList [d]
      obtain ⟨i, hi'⟩ : ∃ i : Nat, Lib.index cur.data.toList [d] = i := ⟨(Lib.index cur.data.toList [d]).toNat, by omega⟩
      have hroom := Lib.index_room cur.data.toList [d] (by omega)
      rw [hi', ← Lib.size_eq] at hroom
      simp only [List.length_singleton] at hroom
      have X : Hid ((sp d s.data.toList).map mk = (done ++ [cur.extract 0 i]) ++ (sp d (cur.extract (i + 1) cur.size).data.toList).map mk) := by
        refine Lib.hid ?_
        have := hsp.out
        rw [index_one_hit d _ i hi'] at this
        rw [extract_end, mk_data, extract_start]
        simpa using this
      have Y : Hid (Lib.index cur.data.toList [d] = i) := hi'
      clear hi' hsp hneg hge
      go_wp2_with (first | (go_at_call 118; refine (tree_zzIndex_at cur _ i _ (by omega) (by show 1 ≤ _; omega) (by show 0 < 1; omega) Y.out).mono ?_; rintro e w' ⟨rfl, rfl⟩) | (at_builtin; refine wpList_append_own _ rfl _ _ 22 rfl w.heap.size 9 i0 (.string ByteArray.empty) 1 16 Tryz.underlying22 hi hz0 hz1 hz2 rfl (by decide) _ _ _ rfl (hown.alloc _) ⟨wr.heap.size, 0, none⟩ 1 1 [.string (cur.extract 0 i)] rfl rfl ?c1 ?c2 ?c3 ?c4 ?c5 ?_; (case c1 => exact cell_one_new _ _ _); (case c2 => simp [Value.oneCell']); (case c3 => unfold maxLen; omega); (case c4 => omega); (case c5 => simp; omega); intro v' w1 hown' hgrow _))
      go_roundw
      case rel => exact ⟨_, done ++ [cur.extract 0 i], rfl, X, by simp; omega, by simpa using hown', (hb.alloc hws _).grown hgrow (by simp; omega) (fun k hk => (World.ownsRow.lt hown k hk).1)⟩
      case measure => simp; omega
end Go.Proofs.YtiamiagjkfioiaaGreatDoor.L
/- Walks: package tree's Parts and Matches (split off XTreeB, XTreeC). -/
namespace Go.Proofs.YtiamiagjkfioiaaGreatDoor.L
set_option linter.unusedVariables false
set_option linter.unusedSimpArgs false
set_option linter.unusedSectionVars false
open Go.RowKit

def starS : ByteArray := ⟨#[42]⟩
theorem drop_at (l : List ByteArray) (k : Nat) (h : k < l.length) : l.drop k = l.getD k ByteArray.empty :: l.drop (k + 1) := by
  rw [List.drop_eq_getElem_cons h, List.getD_eq_getElem?_getD, List.getElem?_eq_getElem h]
  rfl
theorem tree_Parts (s : ByteArray) (w : World) (hs : s.size ≤ 2147483647) :
    Calls Tryz.prog 106 #[.string s] w fun e w' => splitOk w 46 s e w' := by
  go_enter Tryz.func106, Tryz.ntmps106
  go_wp2_with (first | (go_at_call 128; refine (tree_zzSplit s 46 _ hs).mono ?_; rintro e w' ⟨v, rfl, h1, h2⟩))
  go_ret
  exact ⟨_, rfl, h1, h2⟩


/-- each item of the pattern is a star or equals that of the path, as far as both go -/
def matB : List ByteArray → List ByteArray → Bool
  | x :: a, y :: b => (decide (y = starS) || decide (y = x)) && matB a b
  | _, _ => true
theorem matB_end (a b : List ByteArray) (k : Nat) (h : ¬ (k < a.length ∧ k < b.length)) : matB (a.drop k) (b.drop k) = true := by
  rcases Nat.lt_or_ge k a.length with h1 | h1
  · have h2 : b.length ≤ k := by omega
    rw [List.drop_of_length_le h2]
    cases a.drop k <;> rfl
  · rw [List.drop_of_length_le h1]
    rfl
theorem matB_at (a b : List ByteArray) (k : Nat) (h1 : k < a.length) (h2 : k < b.length) :
    matB (a.drop k) (b.drop k) = ((decide (b.getD k ByteArray.empty = starS) || decide (b.getD k ByteArray.empty = a.getD k ByteArray.empty)) && matB (a.drop (k + 1)) (b.drop (k + 1))) := by
  rw [drop_at a k h1, drop_at b k h2]
  rfl
theorem star_yes {y : ByteArray} (h : y = starS) : (y.toList == [42]) = true := by rw [h, Lib.toList_data]; rfl
theorem star_no {y : ByteArray} (h : ¬ y = starS) : (y.toList == [42]) = false := by
  rw [show (y.toList == [42]) = decide (y = starS) from by rw [← eq_iff y starS, Lib.toList_data starS]; rfl]
  exact decide_eq_false h
theorem same_yes {x y : ByteArray} (h : y = x) : (y.toList == x.toList) = true := by rw [eq_iff, decide_eq_true h]
theorem same_no {x y : ByteArray} (h : ¬ y = x) : (y.toList == x.toList) = false := by rw [eq_iff, decide_eq_false h]


def parts (s : ByteArray) : List ByteArray := (sp 46 s.data.toList).map mk
theorem parts_len (s : ByteArray) : (parts s).length ≤ s.size + 1 := by
  have := sp_length 46 s.data.toList
  rw [← Lib.size_eq] at this
  simpa [parts] using this
/-- what Matches is -/
def matchesB (s p : ByteArray) : Bool := decide ((parts s).length = (parts p).length) && matB (parts s) (parts p)

set_option maxHeartbeats 1600000 in
set_option maxRecDepth 100000 in
theorem tree_Matches (s p : ByteArray) (w : World) (hs : s.size ≤ 2147483647) (hp : p.size ≤ 2147483647) :
    Calls Tryz.prog 73 #[.string s, .string p] w fun e w' => e = .returned (.bool (matchesB s p)) ∧ Below w.heap.size w w' := by
  go_enter Tryz.func73, Tryz.ntmps73
  go_wp2_with fail
  refine (tree_Parts p _ hp).mono ?_
  rintro e w1 ⟨vp, rfl, sp1, hb1⟩
  go_wp2_with fail
  refine (tree_Parts s _ hs).mono ?_
  rintro e w2 ⟨vs, rfl, ss2, hb2⟩
  have sp2 := sp1.any.below hb2
  have hb := hb1.trans (hb2.mono hb1.size)
  clear sp1 hb1 hb2
  replace ss2 := ss2.any
  change SS w2 vs (parts s) at ss2
  change SS w2 vp (parts p) at sp2
  have hl1 := parts_len s
  have hl2 := parts_len p
  have hD := Lib.hid (show matchesB s p = (decide ((parts s).length = (parts p).length) && matB (parts s) (parts p)) from rfl)
  generalize parts s = a at *
  generalize parts p = b at *
  obtain ⟨A, ca, rfl, ha1, ha2, ha3⟩ := ss2.get
  obtain ⟨B, cb, rfl, hb1, hb2, hb3⟩ := sp2.get
  have HA := Lib.hid ha3
  have HB := Lib.hid hb3
  clear ha3 hb3 ss2 sp2
  unfold maxLen at ha2 hb2
  by_cases hle : a.length = b.length
  · have hn : ((b.length : Int) != (a.length : Int)) = false := by rw [bne_eq_false_iff_eq]; omega
    rw [decide_eq_true hle, Bool.true_and] at hD
    have HL := Lib.hid hle
    clear hle
    go_wp2
    go_loop [20] (fun i => ∃ k : Nat, i = .int .i64 k ∧ k ≤ a.length ∧ Hid (matB a b = matB (a.drop k) (b.drop k))) (fun i => a.length - (intOf i).toNat)
    case atStart => exact ⟨0, rfl, Nat.zero_le _, rfl⟩
    case round =>
      obtain ⟨k, rfl, hk, hS⟩ := hrel
      by_cases h1 : k < a.length
      · have h2 : k < b.length := by have := HL.out; omega
        have st := Lib.hid (matB_at a b k h1 h2)
        obtain ⟨b1, o1, rfl, hb1', hc1⟩ := HA.out (by omega)
        obtain ⟨b2, o2, rfl, hb2', hc2⟩ := HB.out (by omega)
        have c1 := hc1 k h1
        have c2 := hc2 k h2
        clear hc1 hc2
        generalize a.getD k ByteArray.empty = x at *
        generalize b.getD k ByteArray.empty = y at *
        by_cases hy : y = starS
        · have ey := star_yes hy
          rw [decide_eq_true hy, Bool.true_or, Bool.true_and] at st
          clear hy
          go_wp2
          go_round
          case rel => exact ⟨k + 1, by go_num, h1, hS.out.trans st.out⟩
          case measure => simp [intOf]; omega
        · have ey := star_no hy
          rw [decide_eq_false hy, Bool.false_or] at st
          clear hy
          by_cases hx : y = x
          · have ex := same_yes hx
            rw [decide_eq_true hx, Bool.true_and] at st
            clear hx
            go_wp2
            go_round
            case rel => exact ⟨k + 1, by go_num, h1, hS.out.trans st.out⟩
            case measure => simp [intOf]; omega
          · have ex := same_no hx
            rw [decide_eq_false hx, Bool.false_and] at st
            clear hx
            go_wp2
            go_ret
            exact ⟨by rw [hD.out, hS.out, st.out]; rfl, hb⟩
      · have st := Lib.hid (matB_end a b k (by omega))
        go_wp2
        go_ret
        exact ⟨by rw [hD.out, hS.out, st.out]; rfl, hb⟩
  · have hn : ((b.length : Int) != (a.length : Int)) = true := by rw [bne_iff_ne]; omega
    rw [decide_eq_false hle, Bool.false_and] at hD
    clear hle
    go_wp2
    go_ret
    exact ⟨by rw [hD.out]; rfl, hb⟩
end Go.Proofs.YtiamiagjkfioiaaGreatDoor.L
