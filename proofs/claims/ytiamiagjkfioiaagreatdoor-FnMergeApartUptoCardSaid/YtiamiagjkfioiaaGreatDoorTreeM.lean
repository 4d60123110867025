/- Walks: package tree's Parts and Matches (split off XTreeB, XTreeC). -/
import Derived.Test.YtiamiagjkfioiaaGreatDoorTreeA
namespace Go.Proofs.YtiamiagjkfioiaaGreatDoor.L
set_option linter.unusedVariables false
set_option linter.unusedSimpArgs false
set_option linter.unusedSectionVars false
open Go.RowKit

def starS : ByteArray := ⟨#[42]⟩
theorem drop_at (l : List ByteArray) (k : Nat) (h : k < l.length) : l.drop k = l.getD k ByteArray.empty :: l.drop (k + 1) := by
  rw [List.drop_eq_getElem_cons h, List.getD_eq_getElem?_getD, List.getElem?_eq_getElem h]
  rfl
theorem tree_Parts (s : ByteArray) (w : World) (hs : s.size ≤ 2147483647) :
    Calls Tryz.prog 106 #[.string s] w fun e w' => splitOk w 46 s e w' := by
  go_enter Tryz.func106, Tryz.ntmps106
  go_wp2_with (first | (go_at_call 128; refine (tree_zzSplit s 46 _ hs).mono ?_; rintro e w' ⟨v, rfl, h1, h2⟩))
  go_ret
  exact ⟨_, rfl, h1, h2⟩


/-- each item of the pattern is a star or equals that of the path, as far as both go -/
def matB : List ByteArray → List ByteArray → Bool
  | x :: a, y :: b => (decide (y = starS) || decide (y = x)) && matB a b
  | _, _ => true
theorem matB_end (a b : List ByteArray) (k : Nat) (h : ¬ (k < a.length ∧ k < b.length)) : matB (a.drop k) (b.drop k) = true := by
  rcases Nat.lt_or_ge k a.length with h1 | h1
  · have h2 : b.length ≤ k := by omega
    rw [List.drop_of_length_le h2]
    cases a.drop k <;> rfl
  · rw [List.drop_of_length_le h1]
    rfl
theorem matB_at (a b : List ByteArray) (k : Nat) (h1 : k < a.length) (h2 : k < b.length) :
    matB (a.drop k) (b.drop k) = ((decide (b.getD k ByteArray.empty = starS) || decide (b.getD k ByteArray.empty = a.getD k ByteArray.empty)) && matB (a.drop (k + 1)) (b.drop (k + 1))) := by
  rw [drop_at a k h1, drop_at b k h2]
  rfl
theorem star_yes {y : ByteArray} (h : y = starS) : (y.toList == [42]) = true := by rw [h, Lib.toList_data]; rfl
theorem star_no {y : ByteArray} (h : ¬ y = starS) : (y.toList == [42]) = false := by
  rw [show (y.toList == [42]) = decide (y = starS) from by rw [← eq_iff y starS, Lib.toList_data starS]; rfl]
  exact decide_eq_false h
theorem same_yes {x y : ByteArray} (h : y = x) : (y.toList == x.toList) = true := by rw [eq_iff, decide_eq_true h]
theorem same_no {x y : ByteArray} (h : ¬ y = x) : (y.toList == x.toList) = false := by rw [eq_iff, decide_eq_false h]


def parts (s : ByteArray) : List ByteArray := (sp 46 s.data.toList).map mk
theorem parts_len (s : ByteArray) : (parts s).length ≤ s.size + 1 := by
  have := sp_length 46 s.data.toList
  rw [← Lib.size_eq] at this
  simpa [parts] using this
/-- what Matches is -/
def matchesB (s p : ByteArray) : Bool := decide ((parts s).length = (parts p).length) && matB (parts s) (parts p)

set_option maxHeartbeats 1600000 in
set_option maxRecDepth 100000 in
theorem tree_Matches (s p : ByteArray) (w : World) (hs : s.size ≤ 2147483647) (hp : p.size ≤ 2147483647) :
    Calls Tryz.prog 73 #[.string s, .string p] w fun e w' => e = .returned (.bool (matchesB s p)) ∧ Below w.heap.size w w' := by
  go_enter Tryz.func73, Tryz.ntmps73
  go_wp2_with fail
  refine (tree_Parts p _ hp).mono ?_
  rintro e w1 ⟨vp, rfl, sp1, hb1⟩
  go_wp2_with fail
  refine (tree_Parts s _ hs).mono ?_
  rintro e w2 ⟨vs, rfl, ss2, hb2⟩
  have sp2 := sp1.any.below hb2
  have hb := hb1.trans (hb2.mono hb1.size)
  clear sp1 hb1 hb2
  replace ss2 := ss2.any
  change SS w2 vs (parts s) at ss2
  change SS w2 vp (parts p) at sp2
  have hl1 := parts_len s
  have hl2 := parts_len p
  have hD := Lib.hid (show matchesB s p = (decide ((parts s).length = (parts p).length) && matB (parts s) (parts p)) from rfl)
  generalize parts s = a at *
  generalize parts p = b at *
  obtain ⟨A, ca, rfl, ha1, ha2, ha3⟩ := ss2.get
  obtain ⟨B, cb, rfl, hb1, hb2, hb3⟩ := sp2.get
  have HA := Lib.hid ha3
  have HB := Lib.hid hb3
  clear ha3 hb3 ss2 sp2
  unfold maxLen at ha2 hb2
  by_cases hle : a.length = b.length
  · have hn : ((b.length : Int) != (a.length : Int)) = false := by rw [bne_eq_false_iff_eq]; omega
    rw [decide_eq_true hle, Bool.true_and] at hD
    have HL := Lib.hid hle
    clear hle
    go_wp2
    go_loop [20] (fun i => ∃ k : Nat, i = .int .i64 k ∧ k ≤ a.length ∧ Hid (matB a b = matB (a.drop k) (b.drop k))) (fun i => a.length - (intOf i).toNat)
    case atStart => exact ⟨0, rfl, Nat.zero_le _, rfl⟩
    case round =>
      obtain ⟨k, rfl, hk, hS⟩ := hrel
      by_cases h1 : k < a.length
      · have h2 : k < b.length := by have := HL.out; omega
        have st := Lib.hid (matB_at a b k h1 h2)
        obtain ⟨b1, o1, rfl, hb1', hc1⟩ := HA.out (by omega)
        obtain ⟨b2, o2, rfl, hb2', hc2⟩ := HB.out (by omega)
        have c1 := hc1 k h1
        have c2 := hc2 k h2
        clear hc1 hc2
        generalize a.getD k ByteArray.empty = x at *
        generalize b.getD k ByteArray.empty = y at *
        by_cases hy : y = starS
        · have ey := star_yes hy
          rw [decide_eq_true hy, Bool.true_or, Bool.true_and] at st
          clear hy
          go_wp2
          go_round
          case rel => exact ⟨k + 1, by go_num, h1, hS.out.trans st.out⟩
          case measure => simp [intOf]; omega
        · have ey := star_no hy
          rw [decide_eq_false hy, Bool.false_or] at st
          clear hy
          by_cases hx : y = x
          · have ex := same_yes hx
            rw [decide_eq_true hx, Bool.true_and] at st
            clear hx
            go_wp2
            go_round
            case rel => exact ⟨k + 1, by go_num, h1, hS.out.trans st.out⟩
            case measure => simp [intOf]; omega
          · have ex := same_no hx
            rw [decide_eq_false hx, Bool.false_and] at st
            clear hx
            go_wp2
            go_ret
            exact ⟨by rw [hD.out, hS.out, st.out]; rfl, hb⟩
      · have st := Lib.hid (matB_end a b k (by omega))
        go_wp2
        go_ret
        exact ⟨by rw [hD.out, hS.out, st.out]; rfl, hb⟩
  · have hn : ((b.length : Int) != (a.length : Int)) = true := by rw [bne_iff_ne]; omega
    rw [decide_eq_false hle, Bool.false_and] at hD
    clear hle
    go_wp2
    go_ret
    exact ⟨by rw [hD.out]; rfl, hb⟩
end Go.Proofs.YtiamiagjkfioiaaGreatDoor.L
