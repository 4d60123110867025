/- Walks: what matches a pattern, in the reference and in package tree. -/
import Derived.Test.YtageocibgakhmaaTreeB
namespace Go.Proofs.Ytageocibgakhmaa.L
open Go.RowKit

/-- each item of the pattern is a star or equals that of the path, as far as both go -/
def matB : List ByteArray → List ByteArray → Bool
  | x :: a, y :: b => (decide (y = starS) || decide (y = x)) && matB a b
  | _, _ => true
theorem matB_end (a b : List ByteArray) (k : Nat) (h : ¬ (k < a.length ∧ k < b.length)) : matB (a.drop k) (b.drop k) = true := by
  rcases Nat.lt_or_ge k a.length with h1 | h1
  · have h2 : b.length ≤ k := by omega
    rw [List.drop_of_length_le h2]
    cases a.drop k <;> rfl
  · rw [List.drop_of_length_le h1]
    rfl
theorem matB_at (a b : List ByteArray) (k : Nat) (h1 : k < a.length) (h2 : k < b.length) :
    matB (a.drop k) (b.drop k) = ((decide (b.getD k ByteArray.empty = starS) || decide (b.getD k ByteArray.empty = a.getD k ByteArray.empty)) && matB (a.drop (k + 1)) (b.drop (k + 1))) := by
  rw [drop_at a k h1, drop_at b k h2]
  rfl
theorem star_yes {y : ByteArray} (h : y = starS) : (y.toList == [42]) = true := by rw [h, Lib.toList_data]; rfl
theorem star_no {y : ByteArray} (h : ¬ y = starS) : (y.toList == [42]) = false := by
  rw [show (y.toList == [42]) = decide (y = starS) from by rw [← eq_iff y starS, Lib.toList_data starS]; rfl]
  exact decide_eq_false h
theorem same_yes {x y : ByteArray} (h : y = x) : (y.toList == x.toList) = true := by rw [eq_iff, decide_eq_true h]
theorem same_no {x y : ByteArray} (h : ¬ y = x) : (y.toList == x.toList) = false := by rw [eq_iff, decide_eq_false h]

set_option maxHeartbeats 1600000 in
set_option maxRecDepth 100000 in
theorem spec_treeBegins (a b : List ByteArray) (va vb : Value) (w : World) (ha : SS w va a) (hb : SS w vb b) :
    Calls Try.prog 49 #[va, vb] w fun e w' => e = .returned (.bool (decide (a.length ≤ b.length) && matB a b)) ∧ ∃ n, w' = w.drewN n := by
  obtain ⟨A, ca, rfl, ha1, ha2, ha3⟩ := ha.get
  obtain ⟨B, cb, rfl, hb1, hb2, hb3⟩ := hb.get
  have HA := Lib.hid ha3
  have HB := Lib.hid hb3
  clear ha3 hb3 ha hb
  unfold maxLen at ha2 hb2
  by_cases hle : a.length ≤ b.length
  · rw [decide_eq_true hle, Bool.true_and]
    go_enter Try.func49, Try.ntmps49
    go_wp2
    go_loopw [5] (fun i wr => ∃ k : Nat, i = .int .i64 k ∧ k ≤ a.length ∧ Hid (matB a b = matB (a.drop k) (b.drop k)) ∧ ∃ n, wr = w.drewN n) (fun i _ => a.length - (intOf i).toNat)
    case atStart => exact ⟨0, rfl, Nat.zero_le _, rfl, 0, rfl⟩
    case round =>
      obtain ⟨k, rfl, hk, hS, n, rfl⟩ := hrel
      by_cases h1 : k < a.length
      · have h2 : k < b.length := by omega
        have h1i : (k : Int) < (a.length : Int) := by omega
        have h2i : (k : Int) < (b.length : Int) := by omega
        have st := Lib.hid (matB_at a b k h1 h2)
        obtain ⟨b1, o1, rfl, hb1', hc1⟩ := HA.out (by omega)
        obtain ⟨b2, o2, rfl, hb2', hc2⟩ := HB.out (by omega)
        have c1 := hc1 k h1
        have c2 := hc2 k h2
        clear hc1 hc2
        generalize a.getD k ByteArray.empty = x at *
        generalize b.getD k ByteArray.empty = y at *
        by_cases hy : y = starS
        · have ey := star_yes hy
          have en : (y.toList != [42]) = false := by rw [bne, ey]; rfl
          rw [decide_eq_true hy, Bool.true_or, Bool.true_and] at st
          clear hy
          go_wp2
          go_quiet (fail)
          go_wp2
          go_roundw
          case rel => exact ⟨k + 1, by go_num, h1, hS.out.trans st.out, _, rfl⟩
          case measure => simp [intOf]; omega
        · have ey := star_no hy
          have en : (y.toList != [42]) = true := by rw [bne, ey]; rfl
          rw [decide_eq_false hy, Bool.false_or] at st
          clear hy
          by_cases hx : y = x
          · have ex := same_yes hx
            have exn : (y.toList != x.toList) = false := by rw [bne, ex]; rfl
            rw [decide_eq_true hx, Bool.true_and] at st
            clear hx
            go_wp2
            go_quiet (fail)
            go_wp2
            go_roundw
            case rel => exact ⟨k + 1, by go_num, h1, hS.out.trans st.out, _, rfl⟩
            case measure => simp [intOf]; omega
          · have ex := same_no hx
            have exn : (y.toList != x.toList) = true := by rw [bne, ex]; rfl
            rw [decide_eq_false hx, Bool.false_and] at st
            clear hx
            go_wp2
            go_quiet (fail)
            go_wp2
            go_ret
            exact ⟨by rw [hS.out, st.out]; rfl, _, World.drewN_drewN _ _ _⟩
      · have st := Lib.hid (matB_end a b k (by omega))
        go_wp2
        go_ret
        exact ⟨by rw [hS.out, st.out]; rfl, _, rfl⟩
  · rw [decide_eq_false hle, Bool.false_and]
    go_enter Try.func49, Try.ntmps49
    go_wp2
    go_ret
    exact ⟨rfl, 0, rfl⟩

set_option maxHeartbeats 1600000 in
set_option maxRecDepth 100000 in
theorem tree_matchParts (a b : List ByteArray) (va vb : Value) (w : World) (ha : SS w va a) (hb : SS w vb b) (hle : a.length ≤ b.length) :
    Calls Try.prog 72 #[vb, va] w fun e w' => e = .returned (.bool (matB a b)) ∧ w = w' := by
  obtain ⟨A, ca, rfl, ha1, ha2, ha3⟩ := ha.get
  obtain ⟨B, cb, rfl, hb1, hb2, hb3⟩ := hb.get
  have HA := Lib.hid ha3
  have HB := Lib.hid hb3
  clear ha3 hb3 ha hb
  unfold maxLen at ha2 hb2
  go_enter Try.func72, Try.ntmps72
  go_wp2
  go_loop [9] (fun i => ∃ k : Nat, i = .int .i64 k ∧ k ≤ a.length ∧ Hid (matB a b = matB (a.drop k) (b.drop k))) (fun i => a.length - (intOf i).toNat)
  case atStart => exact ⟨0, rfl, Nat.zero_le _, rfl⟩
  case round =>
    obtain ⟨k, rfl, hk, hS⟩ := hrel
    by_cases h1 : k < a.length
    · have h2 : k < b.length := by omega
      have st := Lib.hid (matB_at a b k h1 h2)
      obtain ⟨b1, o1, rfl, hb1', hc1⟩ := HA.out (by omega)
      obtain ⟨b2, o2, rfl, hb2', hc2⟩ := HB.out (by omega)
      have c1 := hc1 k h1
      have c2 := hc2 k h2
      clear hc1 hc2
      generalize a.getD k ByteArray.empty = x at *
      generalize b.getD k ByteArray.empty = y at *
      by_cases hy : y = starS
      · have ey := star_yes hy
        rw [decide_eq_true hy, Bool.true_or, Bool.true_and] at st
        clear hy
        go_wp2
        go_round
        case rel => exact ⟨k + 1, by go_num, h1, hS.out.trans st.out⟩
        case measure => simp [intOf]; omega
      · have ey := star_no hy
        rw [decide_eq_false hy, Bool.false_or] at st
        clear hy
        by_cases hx : y = x
        · have ex := same_yes hx
          rw [decide_eq_true hx, Bool.true_and] at st
          clear hx
          go_wp2
          go_round
          case rel => exact ⟨k + 1, by go_num, h1, hS.out.trans st.out⟩
          case measure => simp [intOf]; omega
        · have ex := same_no hx
          rw [decide_eq_false hx, Bool.false_and] at st
          clear hx
          go_wp2
          go_ret
          exact ⟨by rw [hS.out, st.out]; rfl, rfl⟩
    · have st := Lib.hid (matB_end a b k (by omega))
      go_wp2
      go_ret
      exact ⟨by rw [hS.out, st.out]; rfl, rfl⟩

def parts (s : ByteArray) : List ByteArray := (sp 46 s.data.toList).map mk
theorem parts_len (s : ByteArray) : (parts s).length ≤ s.size + 1 := by
  have := sp_length 46 s.data.toList
  rw [← Lib.size_eq] at this
  simpa [parts] using this
/-- what Matches is -/
def matchesB (s p : ByteArray) : Bool := decide ((parts s).length = (parts p).length) && matB (parts s) (parts p)

set_option maxHeartbeats 1600000 in
set_option maxRecDepth 100000 in
theorem tree_Matches (s p : ByteArray) (w : World) (hs : s.size ≤ 2147483647) (hp : p.size ≤ 2147483647) :
    Calls Try.prog 50 #[.string s, .string p] w fun e w' => e = .returned (.bool (matchesB s p)) ∧ Below w.heap.size w w' := by
  go_enter Try.func50, Try.ntmps50
  go_wp2_with fail
  refine (tree_Parts p _ hp).mono ?_
  rintro e w1 ⟨vp, rfl, sp1, hb1⟩
  go_wp2_with fail
  refine (tree_Parts s _ hs).mono ?_
  rintro e w2 ⟨vs, rfl, ss2, hb2⟩
  have sp2 := sp1.any.below hb2
  have hb := hb1.trans (hb2.mono hb1.size)
  clear sp1 hb1 hb2
  replace ss2 := ss2.any
  change SS w2 vs (parts s) at ss2
  change SS w2 vp (parts p) at sp2
  have hl1 := parts_len s
  have hl2 := parts_len p
  have hD := Lib.hid (show matchesB s p = (decide ((parts s).length = (parts p).length) && matB (parts s) (parts p)) from rfl)
  generalize parts s = a at *
  generalize parts p = b at *
  obtain ⟨A, ca, rfl, ha1, ha2, ha3⟩ := ss2.get
  obtain ⟨B, cb, rfl, hb1, hb2, hb3⟩ := sp2.get
  have HA := Lib.hid ha3
  have HB := Lib.hid hb3
  clear ha3 hb3 ss2 sp2
  unfold maxLen at ha2 hb2
  by_cases hle : a.length = b.length
  · have hn : ((b.length : Int) != (a.length : Int)) = false := by rw [bne_eq_false_iff_eq]; omega
    rw [decide_eq_true hle, Bool.true_and] at hD
    have HL := Lib.hid hle
    clear hle
    go_wp2
    go_loop [20] (fun i => ∃ k : Nat, i = .int .i64 k ∧ k ≤ a.length ∧ Hid (matB a b = matB (a.drop k) (b.drop k))) (fun i => a.length - (intOf i).toNat)
    case atStart => exact ⟨0, rfl, Nat.zero_le _, rfl⟩
    case round =>
      obtain ⟨k, rfl, hk, hS⟩ := hrel
      by_cases h1 : k < a.length
      · have h2 : k < b.length := by have := HL.out; omega
        have st := Lib.hid (matB_at a b k h1 h2)
        obtain ⟨b1, o1, rfl, hb1', hc1⟩ := HA.out (by omega)
        obtain ⟨b2, o2, rfl, hb2', hc2⟩ := HB.out (by omega)
        have c1 := hc1 k h1
        have c2 := hc2 k h2
        clear hc1 hc2
        generalize a.getD k ByteArray.empty = x at *
        generalize b.getD k ByteArray.empty = y at *
        by_cases hy : y = starS
        · have ey := star_yes hy
          rw [decide_eq_true hy, Bool.true_or, Bool.true_and] at st
          clear hy
          go_wp2
          go_round
          case rel => exact ⟨k + 1, by go_num, h1, hS.out.trans st.out⟩
          case measure => simp [intOf]; omega
        · have ey := star_no hy
          rw [decide_eq_false hy, Bool.false_or] at st
          clear hy
          by_cases hx : y = x
          · have ex := same_yes hx
            rw [decide_eq_true hx, Bool.true_and] at st
            clear hx
            go_wp2
            go_round
            case rel => exact ⟨k + 1, by go_num, h1, hS.out.trans st.out⟩
            case measure => simp [intOf]; omega
          · have ex := same_no hx
            rw [decide_eq_false hx, Bool.false_and] at st
            clear hx
            go_wp2
            go_ret
            exact ⟨by rw [hD.out, hS.out, st.out]; rfl, hb⟩
      · have st := Lib.hid (matB_end a b k (by omega))
        go_wp2
        go_ret
        exact ⟨by rw [hD.out, hS.out, st.out]; rfl, hb⟩
  · have hn : ((b.length : Int) != (a.length : Int)) = true := by rw [bne_iff_ne]; omega
    rw [decide_eq_false hle, Bool.false_and] at hD
    clear hle
    go_wp2
    go_ret
    exact ⟨by rw [hD.out]; rfl, hb⟩

def okS (s : ByteArray) : Bool := okP (sp 46 s.data.toList)
/-- does the reference say something of a path and a pattern -/
def saidB (s p : ByteArray) : Bool := okS s && okS p && !(decide ((parts s).length = (parts p).length) && starB (parts s) (parts p))
def PathMatchesOk (w : World) (s p : ByteArray) (e : Ending) (w' : World) : Prop :=
  e = .returned (.tuple #[.bool (saidB s p && matchesB s p), .bool (saidB s p)]) ∧ Below w.heap.size w w'

set_option maxHeartbeats 1600000 in
set_option maxRecDepth 100000 in
theorem spec_PathMatches (s p : ByteArray) (w : World) (hs : s.size ≤ 2147483647) (hp : p.size ≤ 2147483647) :
    Calls Try.prog 20 #[.string s, .string p] w fun e w' => PathMatchesOk w s p e w' := by
  go_enter Try.func20, Try.ntmps20
  go_wp2_with fail
  refine (spec_PathParts s _ hs).mono ?_
  rintro e w1 ⟨vs, ba, rfl, eba, ss1, hb1⟩
  have E1 : Hid (okS s = ba) := eba.symm
  clear eba
  go_wp2_with fail
  refine (spec_PathParts p _ hp).mono ?_
  rintro e w2 ⟨vp, bb, rfl, ebb, sp2, hb2⟩
  have E2 : Hid (okS p = bb) := ebb.symm
  clear ebb
  have ss2 := ss1.below hb2
  have hb := hb1.trans (hb2.mono hb1.size)
  clear ss1 hb1 hb2
  rcases ba with _ | _
  · have X : Hid (saidB s p = false) := by unfold Hid saidB; rw [E1.out]; rfl
    go_wp2
    go_ret2
    exact ⟨by rw [X.out]; rfl, hb⟩
  · rcases bb with _ | _
    · have X : Hid (saidB s p = false) := by unfold Hid saidB; rw [E1.out, E2.out]; rfl
      go_wp2
      go_ret2
      exact ⟨by rw [X.out]; rfl, hb⟩
    · change SS w2 vs (parts s) at ss2
      change SS w2 vp (parts p) at sp2
      have D : Hid (saidB s p = !(decide ((parts s).length = (parts p).length) && starB (parts s) (parts p))) := by unfold Hid saidB; rw [E1.out, E2.out]; rfl
      have M := Lib.hid (show matchesB s p = (decide ((parts s).length = (parts p).length) && matB (parts s) (parts p)) from rfl)
      have hl1 := parts_len s
      have hl2 := parts_len p
      generalize parts s = a at *
      generalize parts p = b at *
      obtain ⟨A, ca, rfl, ha1, ha2, _⟩ := ss2.get
      obtain ⟨B, cb, rfl, hb1, hb2, _⟩ := sp2.get
      have SA := Lib.hid ss2
      have SB := Lib.hid sp2
      clear ss2 sp2
      by_cases hle : a.length = b.length
      · have hn : ((a.length : Int) == (b.length : Int)) = true := by rw [beq_iff_eq]; omega
        rw [decide_eq_true hle, Bool.true_and] at D M
        have HL := Lib.hid hle
        clear hle
        by_cases hst : starB a b = true
        · rw [hst] at D
          clear hn
          have hn : ((a.length : Int) == (b.length : Int)) = true := by rw [beq_iff_eq]; have := HL.out; omega
          go_wp2_with (first | (go_at_call 48; refine (spec_treeStar a b _ _ _ SA.out SB.out).mono ?_; rintro e w' ⟨rfl, rfl⟩))
          go_ret2
          exact ⟨by rw [D.out]; rfl, hb⟩
        · have hst' : starB a b = false := by simpa using hst
          rw [hst'] at D
          clear hst
          go_wp2_with (first | (go_at_call 48; refine (spec_treeStar a b _ _ _ SA.out SB.out).mono ?_; rintro e w' ⟨rfl, rfl⟩) | (go_at_call 49; refine (spec_treeBegins a b _ _ _ SA.out SB.out).mono ?_; rintro e w' ⟨rfl, n1, rfl⟩))
          go_ret2
          refine ⟨?_, L.below_drewN hb _⟩
          rw [D.out, M.out]
          simp [HL.out]
      · have hn : ((a.length : Int) == (b.length : Int)) = false := by rw [beq_eq_false_iff_ne]; omega
        rw [decide_eq_false hle, Bool.false_and] at D M
        clear hle
        go_wp2
        go_ret2
        exact ⟨by rw [D.out, M.out]; rfl, hb⟩
end Go.Proofs.Ytageocibgakhmaa.L
