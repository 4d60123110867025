/- Walks: package tree's parts of a path, and the reference's, over any strings. -/
import Derived.Test.YtageocibgakhmaaTreeA
namespace Go.Proofs.Ytageocibgakhmaa.L
open Go.RowKit

theorem tree_Parts (s : ByteArray) (w : World) (hs : s.size ≤ 2147483647) :
    Calls Try.prog 59 #[.string s] w fun e w' => splitOk w 46 s e w' := by
  go_enter Try.func59, Try.ntmps59
  go_wp2_with (first | (go_at_call 74; refine (tree_zzSplit s 46 _ hs).mono ?_; rintro e w' ⟨v, rfl, h1, h2⟩))
  go_ret
  exact ⟨_, rfl, h1, h2⟩

/-! ### the reference's parts -/
theorem sp_end (d : UInt8) : ∀ (l : List UInt8), (∀ j, j < l.length → l[j]? ≠ some d) → sp d l = [l]
  | [], _ => rfl
  | c :: r, h => by
    have hc : c ≠ d := fun e => h 0 (by simp) (by simp [e])
    have ih := sp_end d r (fun j hj => by have := h (j + 1) (by simpa using hj); simpa using this)
    rw [sp, if_neg hc, ih]
theorem sp_cut (d : UInt8) : ∀ (l : List UInt8) (k : Nat), (∀ j, j < k → l[j]? ≠ some d) → l[k]? = some d → sp d l = l.take k :: sp d (l.drop (k + 1))
  | [], k, _, h => by simp at h
  | c :: r, 0, _, h => by
    have hc : c = d := by simpa using h
    rw [sp, if_pos hc]
    rfl
  | c :: r, k + 1, hn, h => by
    have hc : c ≠ d := fun e => hn 0 (by omega) (by simp [e])
    have ih := sp_cut d r k (fun j hj => by have := hn (j + 1) (by omega); simpa using this) (by simpa using h)
    rw [sp, if_neg hc, ih]
    rfl
/-- no part is empty -/
def okP (l : List (List UInt8)) : Bool := l.all fun x => !x.isEmpty

def PartsOk (w : World) (s : ByteArray) (e : Ending) (w' : World) : Prop :=
  ∃ v b, e = .returned (.tuple #[v, .bool b]) ∧ b = okP (sp 46 s.data.toList) ∧ SS w' v (if b then (sp 46 s.data.toList).map mk else []) ∧ Below w.heap.size w w'

theorem okP_mk (l : List (List UInt8)) : okP l = (l.map mk).all fun b => !b.data.toList.isEmpty := by
  rw [List.all_map, okP]
  congr 1
theorem okP_of_done {l : List (List UInt8)} {done : List ByteArray} (h : l.map mk = done) : okP l = okP (done.map (·.data.toList)) := by
  rw [okP_mk, h, okP, List.all_map]
  rfl
theorem okP_no {l r : List (List UInt8)} {done : List ByteArray} (h : l.map mk = done ++ ([] :: r).map mk) : okP l = false := by
  rw [okP_mk, h, List.all_append, List.map_cons, List.all_cons, mk_data]
  simp

/-- no dot from place f on, before place i -/
def NoDot (s : ByteArray) (f i : Nat) : Prop := ∀ j, f + j < i → s.data.toList[f + j]? ≠ some 46
theorem NoDot.next {s : ByteArray} {f i : Nat} (h : NoDot s f i) (hi : s.data.toList[i]? ≠ some 46) : NoDot s f (i + 1) := fun j hj => by
  rcases Nat.lt_or_ge (f + j) i with h1 | h1
  · exact h j h1
  · have : f + j = i := by omega
    rw [this]; exact hi
theorem NoDot.start (s : ByteArray) (i : Nat) : NoDot s i i := fun j hj => by omega

theorem parts_last (s : ByteArray) (f : Nat) (hf : f ≤ s.size) (h : NoDot s f s.size) : sp 46 (s.data.toList.drop f) = [s.data.toList.drop f] := by
  refine sp_end 46 _ fun j hj => ?_
  rw [List.getElem?_drop]
  rw [List.length_drop, ← Lib.size_eq] at hj
  exact h j (by omega)
theorem parts_dot (s : ByteArray) (f i : Nat) (hf : f ≤ i) (h : NoDot s f i) (hi : s.data.toList[i]? = some 46) :
    sp 46 (s.data.toList.drop f) = (s.data.toList.drop f).take (i - f) :: sp 46 (s.data.toList.drop (i + 1)) := by
  have := sp_cut 46 (s.data.toList.drop f) (i - f) (fun j hj => by rw [List.getElem?_drop]; exact h j (by omega)) (by rw [List.getElem?_drop]; rw [show f + (i - f) = i from by omega]; exact hi)
  rw [this, List.drop_drop]
  congr 3
  omega

theorem byte_dot (s : ByteArray) (i : Nat) (h : i < s.size) : (at_ s i != 46) = !decide (s.data.toList[i]? = some 46) := by
  rw [getElem_data s i h, ← at_eq s i h]
  by_cases e : s[i] = 46
  · rw [e]; rfl
  · have : (s[i].toNat : Int) ≠ 46 := fun e' => e (UInt8.toNat.inj (by have : (46 : UInt8).toNat = 46 := rfl; omega))
    simp [e, this]

set_option maxHeartbeats 1600000 in
set_option maxRecDepth 100000 in
theorem spec_PathParts (s : ByteArray) (w : World) (hs : s.size ≤ 2147483647) :
    Calls Try.prog 47 #[.string s] w fun e w' => PartsOk w s e w' := by
  obtain ⟨i0, hi, hz0, hz1, hz2⟩ := info_parts strInfo
  go_enter Try.func47, Try.ntmps47
  go_wp2
  go_loopw [4, 5, 6] (fun v f i wr => ∃ (done : List ByteArray) (nf ni : Nat), f = .int .i64 nf ∧ i = .int .i64 ni ∧ nf ≤ ni ∧ ni ≤ s.size + 1 ∧ done.length ≤ nf ∧ Hid (okP (done.map (·.data.toList)) = true) ∧
      Hid (if ni ≤ s.size then NoDot s nf ni ∧ (sp 46 s.data.toList).map mk = done ++ (sp 46 (s.data.toList.drop nf)).map mk else (sp 46 s.data.toList).map mk = done) ∧
      wr.ownsRow w.heap.size 9 1 v done.length (done.map Value.string) ∧ Below w.heap.size w wr) (fun _ _ i _ => s.size + 1 - (intOf i).toNat)
  case atStart => exact ⟨[], 0, 0, rfl, rfl, Nat.le_refl _, Nat.zero_le _, Nat.zero_le _, rfl, by unfold Hid; rw [if_pos (Nat.zero_le _)]; exact ⟨NoDot.start _ _, rfl⟩, ⟨by simp, .inl ⟨rfl, rfl⟩⟩, Below.refl _ _⟩
  case round =>
    obtain ⟨done, nf, ni, rfl, rfl, hfi, hni, hdl, hne, hH, hown, hb⟩ := hrel
    have hws : w.heap.size ≤ wr.heap.size := hb.size
    by_cases hin : ni ≤ s.size
    · have hH' := hH.out
      rw [if_pos hin] at hH'
      obtain ⟨hnd, hsp⟩ := hH'
      have HN := Lib.hid hnd
      have HS := Lib.hid hsp
      clear hnd hsp hH
      by_cases hlt : ni < s.size
      · have e1 := at_eq s ni hlt
        have hbd := byte_dot s ni hlt
        by_cases hdot : s.data.toList[ni]? = some 46
        · rw [decide_eq_true hdot] at hbd
          have hbd' : (at_ s ni != 46) = false := hbd
          clear hbd
          have X := Lib.hid (parts_dot s nf ni hfi HN.out hdot)
          clear hdot
          by_cases heq : ni = nf
          · subst heq
            go_wp2
            go_ret2
            have Y := X.out
            rw [Nat.sub_self, List.take_zero] at Y
            have Z := HS.out
            rw [Y] at Z
            have hf := okP_no Z
            exact ⟨_, false, rfl, hf.symm, SS.nil _, hb⟩
          · have hneq : ((ni : Int) == (nf : Int)) = false := by rw [beq_eq_false_iff_ne]; omega
            go_wp2_with (first | (at_builtin; refine wpList_append_own _ rfl _ _ 28 rfl w.heap.size 9 i0 (.string ByteArray.empty) 1 16 Try.underlying28 hi hz0 hz1 hz2 rfl (by decide) _ _ _ rfl (hown.alloc _) ⟨wr.heap.size, 0, none⟩ 1 1 [.string (s.extract nf ni)] rfl rfl ?c1 ?c2 ?c3 ?c4 ?c5 ?_; (case c1 => exact cell_one_new _ _ _); (case c2 => simp [Value.oneCell']); (case c3 => unfold maxLen; omega); (case c4 => omega); (case c5 => simp; omega); intro v' w1 hown' hgrow _))
            go_roundw
            case rel =>
              refine ⟨done ++ [s.extract nf ni], ni + 1, ni + 1, by go_num, by go_num, Nat.le_refl _, by omega, by simp; omega, ?_, ?_, by simpa using hown', (hb.alloc hws _).grown hgrow (by simp; omega) (fun k hk => (World.ownsRow.lt hown k hk).1)⟩
              · refine Lib.hid ?_
                rw [List.map_append, okP, List.all_append, ← okP, hne.out, extract_mk, List.map_singleton, mk_data]
                simp
                first | omega | (rw [← Lib.size_eq]; omega)
              · refine Lib.hid ?_
                rw [if_pos (by omega)]
                refine ⟨NoDot.start _ _, ?_⟩
                rw [HS.out, X.out, extract_mk]
                simp
            case measure => simp [intOf]; omega
        · rw [decide_eq_false hdot] at hbd
          have hbd' : (at_ s ni != 46) = true := hbd
          clear hbd
          have X := Lib.hid (HN.out.next hdot)
          clear hdot
          go_wp2
          go_roundw
          case rel => exact ⟨done, nf, ni + 1, rfl, by go_num, by omega, by omega, hdl, hne, by refine Lib.hid ?_; rw [if_pos (by omega)]; exact ⟨X.out, HS.out⟩, hown, hb⟩
          case measure => simp [intOf]; omega
      · obtain rfl : ni = s.size := by omega
        have X := Lib.hid (parts_last s nf hfi HN.out)
        by_cases heq : s.size = nf
        · have h0 : ((s.size : Int) == (nf : Int)) = true := by rw [beq_iff_eq]; omega
          have HQ := Lib.hid heq
          clear heq
          go_wp2
          go_ret2
          have Y := X.out
          rw [List.drop_of_length_le (by rw [← Lib.size_eq, HQ.out]; exact Nat.le_refl _)] at Y
          have Z := HS.out
          rw [List.drop_of_length_le (by rw [← Lib.size_eq, HQ.out]; exact Nat.le_refl _), Y] at Z
          have hf := okP_no Z
          exact ⟨_, false, rfl, hf.symm, SS.nil _, hb⟩
        · have h0 : ((s.size : Int) == (nf : Int)) = false := by rw [beq_eq_false_iff_ne]; omega
          go_wp2_with (first | (at_builtin; refine wpList_append_own _ rfl _ _ 28 rfl w.heap.size 9 i0 (.string ByteArray.empty) 1 16 Try.underlying28 hi hz0 hz1 hz2 rfl (by decide) _ _ _ rfl (hown.alloc _) ⟨wr.heap.size, 0, none⟩ 1 1 [.string (s.extract nf s.size)] rfl rfl ?c1 ?c2 ?c3 ?c4 ?c5 ?_; (case c1 => exact cell_one_new _ _ _); (case c2 => simp [Value.oneCell']); (case c3 => unfold maxLen; omega); (case c4 => omega); (case c5 => simp; omega); intro v' w1 hown' hgrow _))
          go_roundw
          case rel =>
            refine ⟨done ++ [s.extract nf s.size], s.size + 1, s.size + 1, by go_num, by go_num, Nat.le_refl _, by omega, by simp; omega, ?_, ?_, by simpa using hown', (hb.alloc hws _).grown hgrow (by simp; omega) (fun k hk => (World.ownsRow.lt hown k hk).1)⟩
            · refine Lib.hid ?_
              rw [List.map_append, okP, List.all_append, ← okP, hne.out, extract_end, List.map_singleton, mk_data]
              simp
              first | omega | (rw [← Lib.size_eq]; omega)
            · refine Lib.hid ?_
              rw [if_neg (by omega)]
              have Z := HS.out
              rw [X.out] at Z
              rw [extract_end]
              exact Z
          case measure => simp [intOf]
    · have hH' := hH.out
      rw [if_neg hin] at hH'
      have HS := Lib.hid hH'
      clear hH' hH
      go_wp2
      go_ret2
      have e := okP_of_done HS.out
      rw [hne.out] at e
      exact ⟨_, true, rfl, e.symm, by rw [if_pos rfl, HS.out]; exact SS.of_own hown, hb⟩

/-! ### stars -/
def starS : ByteArray := ⟨#[42]⟩
def listS : ByteArray := ⟨#[91, 93]⟩
/-- the words of a walk for a text that is a constant -/
theorem is_const (x c : ByteArray) : (x.toList == c.toList) = decide (x = c) := eq_iff x c

/-- a star of the second row meets an element of a list of the first -/
def starB : List ByteArray → List ByteArray → Bool
  | x :: a, y :: b => (decide (x = listS) && decide (y = starS)) || starB a b
  | _, _ => false
theorem starB_end (a b : List ByteArray) (k : Nat) (h : ¬ (k < a.length ∧ k < b.length)) : starB (a.drop k) (b.drop k) = false := by
  rcases Nat.lt_or_ge k a.length with h1 | h1
  · have h2 : b.length ≤ k := by omega
    rw [List.drop_of_length_le h2]
    cases a.drop k <;> rfl
  · rw [List.drop_of_length_le h1]
    rfl
theorem drop_at (l : List ByteArray) (k : Nat) (h : k < l.length) : l.drop k = l.getD k ByteArray.empty :: l.drop (k + 1) := by
  rw [List.drop_eq_getElem_cons h, List.getD_eq_getElem?_getD, List.getElem?_eq_getElem h]
  rfl
theorem starB_at (a b : List ByteArray) (k : Nat) (h1 : k < a.length) (h2 : k < b.length) :
    starB (a.drop k) (b.drop k) = ((decide (a.getD k ByteArray.empty = listS) && decide (b.getD k ByteArray.empty = starS)) || starB (a.drop (k + 1)) (b.drop (k + 1))) := by
  rw [drop_at a k h1, drop_at b k h2]
  rfl

set_option maxHeartbeats 800000 in
set_option maxRecDepth 100000 in
theorem spec_treeStar (a b : List ByteArray) (va vb : Value) (w : World) (ha : SS w va a) (hb : SS w vb b) :
    Calls Try.prog 48 #[va, vb] w fun e w' => e = .returned (.bool (starB a b)) ∧ w = w' := by
  obtain ⟨A, ca, rfl, ha1, ha2, ha3⟩ := ha.get
  obtain ⟨B, cb, rfl, hb1, hb2, hb3⟩ := hb.get
  have HA := Lib.hid ha3
  have HB := Lib.hid hb3
  clear ha3 hb3 ha hb
  unfold maxLen at ha2 hb2
  go_enter Try.func48, Try.ntmps48
  go_wp2
  go_loop [5] (fun i => ∃ k : Nat, i = .int .i64 k ∧ k ≤ a.length ∧ Hid (starB a b = starB (a.drop k) (b.drop k))) (fun i => a.length - (intOf i).toNat)
  case atStart => exact ⟨0, rfl, Nat.zero_le _, rfl⟩
  case round =>
    obtain ⟨k, rfl, hk, hS⟩ := hrel
    by_cases hin : k < a.length ∧ k < b.length
    · obtain ⟨h1, h2⟩ := hin
      have st := Lib.hid (starB_at a b k h1 h2)
      obtain ⟨b1, o1, rfl, hb1', hc1⟩ := HA.out (by omega)
      obtain ⟨b2, o2, rfl, hb2', hc2⟩ := HB.out (by omega)
      have c1 := hc1 k h1
      have c2 := hc2 k h2
      clear hc1 hc2
      generalize hx : a.getD k ByteArray.empty = x at *
      generalize hy : b.getD k ByteArray.empty = y at *
      clear hx hy
      by_cases hx : x = listS
      · have ex : (x.toList == [91, 93]) = true := by rw [hx, Lib.toList_data]; rfl
        by_cases hy : y = starS
        · have ey : (y.toList == [42]) = true := by rw [hy, Lib.toList_data]; rfl
          rw [decide_eq_true hx, decide_eq_true hy] at st
          clear hx hy
          go_wp2
          go_ret
          exact ⟨by rw [hS.out, st.out]; rfl, rfl⟩
        · have ey : (y.toList == [42]) = false := by rw [show (y.toList == [42]) = decide (y = starS) from by rw [← eq_iff y starS, Lib.toList_data starS]; rfl]; exact decide_eq_false hy
          rw [decide_eq_false hy, Bool.and_false, Bool.false_or] at st
          clear hx hy
          go_wp2
          go_round
          case rel => exact ⟨k + 1, by go_num, h1, hS.out.trans st.out⟩
          case measure => simp [intOf]; omega
      · have ex : (x.toList == [91, 93]) = false := by rw [show (x.toList == [91, 93]) = decide (x = listS) from by rw [← eq_iff x listS, Lib.toList_data listS]; rfl]; exact decide_eq_false hx
        rw [decide_eq_false hx, Bool.false_and, Bool.false_or] at st
        clear hx
        go_wp2
        go_round
        case rel => exact ⟨k + 1, by go_num, h1, hS.out.trans st.out⟩
        case measure => simp [intOf]; omega
    · have st := Lib.hid (starB_end a b k hin)
      by_cases h1 : k < a.length
      · have h2 : ¬ k < b.length := by omega
        clear hin
        go_wp2
        go_ret
        exact ⟨by rw [hS.out, st.out]; rfl, rfl⟩
      · clear hin
        go_wp2
        go_ret
        exact ⟨by rw [hS.out, st.out]; rfl, rfl⟩
end Go.Proofs.Ytageocibgakhmaa.L
