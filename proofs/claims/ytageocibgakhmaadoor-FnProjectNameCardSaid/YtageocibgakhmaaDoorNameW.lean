/- Walks: what the statement on a project's name asks: the reference's name. -/
import Derived.Test.YtageocibgakhmaaDoorRows
import Derived.Test.YtageocibgakhmaaDoorName
import Derived.Test.YtageocibgakhmaaDoorBytes
import Derived.IntWalk
namespace Go.Proofs.YtageocibgakhmaaDoor.L
open Go.RowKit

theorem conv_one (w : World) (x : Int) (d : UInt8) (hx : (d.toNat : Int) = x) :
    (convert 60 9 (.slice (some ⟨w.heap.size, 0, none⟩) 1 1)).run Tryd.prog (w.alloc (Obj.cells #[.int .u8 x] 5)) = .ok (.string (mk [d])) (w.alloc (Obj.cells #[.int .u8 x] 5)) := by
  subst hx
  refine run_string_rd (ok := fun _ => True) (n := 1) (l := [d]) 60 5 9 Tryd.underlying60 Tryd.underlying5 Tryd.underlying9 ?_
  refine ⟨some ⟨w.heap.size, 0, none⟩, 1, rfl, Nat.le_refl _, by unfold maxLen; decide, by simp, fun _ => ⟨w.heap.size, 0, rfl, trivial, by simp, fun i hi => ?_⟩⟩
  obtain rfl : i = 0 := by simp at hi; omega
  simp [bv]
theorem mk_snoc (t : List UInt8) (d : UInt8) : mk t ++ mk [d] = mk (t ++ [d]) := by
  apply data_inj
  rw [ByteArray.data_append, Array.toList_append, mk_data, mk_data, mk_data]
theorem lower_up (c : UInt8) (h1 : 65 ≤ c.toNat) (h2 : c.toNat ≤ 90) : (Lib.lowerB c).toNat = c.toNat + 32 := by
  have e1 : (65 : UInt8) ≤ c := by rw [UInt8.le_iff_toNat_le]; exact h1
  have e2 : c ≤ (90 : UInt8) := by rw [UInt8.le_iff_toNat_le]; exact h2
  unfold Lib.lowerB Lib.isUpperB
  rw [show (decide ((65 : UInt8) ≤ c) && decide (c ≤ (90 : UInt8))) = true by simp [e1, e2]]
  rw [if_pos rfl, UInt8.toNat_add]
  have : (32 : UInt8).toNat = 32 := rfl
  omega
theorem lower_not (c : UInt8) (h : ¬ (65 ≤ c.toNat ∧ c.toNat ≤ 90)) : Lib.lowerB c = c := by
  unfold Lib.lowerB Lib.isUpperB
  rw [if_neg]
  intro e
  simp only [Bool.and_eq_true, decide_eq_true_eq, UInt8.le_iff_toNat_le] at e
  exact h e

def asciiB (l : List UInt8) : Bool := l.all (fun c => decide (c.toNat ≤ 127))
def nameOut (s : ByteArray) : Value := if asciiB s.data.toList then .tuple #[.string (mk (nameL [] s.data.toList)), .bool true] else .tuple #[.string ⟨#[]⟩, .bool false]

set_option maxHeartbeats 4000000 in
set_option maxRecDepth 100000 in
theorem spec_ProjectName (s : ByteArray) (w : World) (hs : s.size ≤ 2147483647) :
    Calls Tryd.prog 11 #[.string s] w fun e w' => e = .returned (nameOut s) ∧ Below w.heap.size w w' := by
  go_enter Tryd.func11, Tryd.ntmps11
  go_wp2
  go_loopw [4, 5] (fun x i wr => ∃ (t : List UInt8) (k : Nat), x = .string (mk t) ∧ i = .int .i64 k ∧ k ≤ s.size ∧ t.length ≤ k ∧ Hid (nameL [] s.data.toList = nameL t (s.data.toList.drop k)) ∧ Hid (asciiB s.data.toList = asciiB (s.data.toList.drop k)) ∧ Below w.heap.size w wr) (fun _ i _ => s.size - (intOf i).toNat)
  case atStart => exact ⟨[], 0, rfl, rfl, Nat.zero_le _, Nat.le_refl _, rfl, rfl, Below.refl _ _⟩
  case round =>
    obtain ⟨t, k, rfl, rfl, hk, ht, hN, hA, hb⟩ := hrel
    by_cases hlt : k < s.size
    · have stN : Hid (nameL t (s.data.toList.drop k) = nameL (nameStep t s[k]) (s.data.toList.drop (k + 1))) := Lib.hid (by rw [List.drop_eq_getElem_cons (by rw [← Lib.size_eq]; exact hlt)]; rfl)
      have stA : Hid (asciiB (s.data.toList.drop k) = (decide (s[k].toNat ≤ 127) && asciiB (s.data.toList.drop (k + 1)))) := Lib.hid (by rw [List.drop_eq_getElem_cons (by rw [← Lib.size_eq]; exact hlt)]; rfl)
      by_cases h127 : 127 < (s[k].toNat : Int)
      · have X : Hid (asciiB s.data.toList = false) := Lib.hid (by rw [hA.out, stA.out, decide_eq_false (by omega)]; rfl)
        clear stN stA
        go_wp2
        go_ret2
        exact ⟨by unfold nameOut; rw [X.out]; rfl, hb⟩
      have stA' : Hid (asciiB s.data.toList = asciiB (s.data.toList.drop (k + 1))) := Lib.hid (by rw [hA.out, stA.out, decide_eq_true (by omega)]; rfl)
      clear stA hA
      have hE : (mk t).toList.isEmpty = t.isEmpty := by
        rw [isEmpty_of_size, mk_size]
        cases t <;> rfl
      have hE2 : ((mk t).toList != []) = !t.isEmpty := by
        rw [← hE]
        cases (mk t).toList <;> rfl
      have z1 : (mk t).size ≤ 140737488355328 := by rw [mk_size]; omega
      have z2 : (mk [s[k]]).size ≤ 140737488355328 := by rw [mk_size]; simp
      have z3 : (mk [Lib.lowerB s[k]]).size ≤ 140737488355328 := by rw [mk_size]; simp
      by_cases hU : 65 ≤ s[k].toNat ∧ s[k].toNat ≤ 90
      · obtain ⟨u1, u2⟩ := hU
        have a1 : (65 : Int) ≤ (s[k].toNat : Int) := by omega
        have a2 : (s[k].toNat : Int) ≤ 90 := by omega
        have a3 : (97 : Int) ≤ (s[k].toNat : Int) + 32 := by omega
        have a4 : (s[k].toNat : Int) + 32 ≤ 122 := by omega
        have eW : IntKind.u8.wrap ((s[k].toNat : Int) + 32) = (s[k].toNat : Int) + 32 := by
          unfold IntKind.wrap
          simp [IntKind.signed, IntKind.bits]
          omega
        have hd := lower_up s[k] u1 u2
        have hconv := conv_one wr ((s[k].toNat : Int) + 32) (Lib.lowerB s[k]) (by rw [hd]; omega)
        have hst : Hid (nameStep t s[k] = t ++ [Lib.lowerB s[k]]) := Lib.hid (by
          unfold nameStep
          rw [if_pos]
          have : alnumB (Lib.lowerB s[k]) = true := by
            unfold alnumB
            rw [hd, decide_eq_true (show 97 ≤ s[k].toNat + 32 by omega), decide_eq_true (show s[k].toNat + 32 ≤ 122 by omega)]
            rfl
          rw [this]
          rfl)
        clear hd u1 u2 hE hE2
        go_wp2
        go_roundw
        case rel => exact ⟨t ++ [Lib.lowerB s[k]], k + 1, by rw [← mk_snoc], by go_num, hlt, by rw [List.length_append, List.length_singleton]; omega, hN.out.trans (stN.out.trans (by rw [hst.out])), stA', hb.alloc hb.size _⟩
        case measure => simp [intOf]; omega
      · have hd := lower_not s[k] hU
        have hconv := conv_one wr (s[k].toNat : Int) s[k] rfl
        unfold nameStep at stN
        rw [hd] at stN
        rcases hal : alnumB s[k] with _ | _
        · rcases hem : t.isEmpty with _ | _
          · rcases hda : dashB s[k] with _ | _
            · have st : Hid (nameL [] s.data.toList = nameL t (s.data.toList.drop (k + 1))) := Lib.hid (by rw [hN.out, stN.out, hal, hem, hda]; rfl)
              rw [hem] at hE hE2
              simp only [Bool.not_false, Bool.not_true] at hE2
              unfold alnumB at hal
              unfold dashB at hda
              simp only [Bool.or_eq_false_iff, Bool.and_eq_false_iff, decide_eq_false_iff_not] at hal hda
              clear stN hN hd hem
              have b7 : ((s[k].toNat : Int) == 45) = false := by rw [beq_eq_false_iff_ne]; omega
              have b8 : ((s[k].toNat : Int) == 95) = false := by rw [beq_eq_false_iff_ne]; omega
              by_cases a1 : (65 : Int) ≤ (s[k].toNat : Int) <;> by_cases a2 : (s[k].toNat : Int) ≤ 90 <;> by_cases a3 : (97 : Int) ≤ (s[k].toNat : Int) <;> by_cases a4 : (s[k].toNat : Int) ≤ 122 <;> by_cases a5 : (48 : Int) ≤ (s[k].toNat : Int) <;> by_cases a6 : (s[k].toNat : Int) ≤ 57 <;> try (exfalso; omega)
              all_goals
                clear hal hda hU
                go_wp2
                go_roundw
                case rel => exact ⟨t, k + 1, rfl, by go_num, hlt, by omega, st, stA', hb⟩
                case measure => simp [intOf]; omega
            · have st : Hid (nameL [] s.data.toList = nameL (t ++ [s[k]]) (s.data.toList.drop (k + 1))) := Lib.hid (by rw [hN.out, stN.out, hal, hem, hda]; rfl)
              rw [hem] at hE hE2
              simp only [Bool.not_false, Bool.not_true] at hE2
              unfold alnumB at hal
              unfold dashB at hda
              simp only [Bool.or_eq_false_iff, Bool.and_eq_false_iff, decide_eq_false_iff_not] at hal
              simp only [Bool.or_eq_true, decide_eq_true_eq] at hda
              clear stN hN hd hem
              rcases b7 : ((s[k].toNat : Int) == 45) with _ | _ <;> rcases b8 : ((s[k].toNat : Int) == 95) with _ | _ <;> by_cases a1 : (65 : Int) ≤ (s[k].toNat : Int) <;> by_cases a2 : (s[k].toNat : Int) ≤ 90 <;> by_cases a3 : (97 : Int) ≤ (s[k].toNat : Int) <;> by_cases a4 : (s[k].toNat : Int) ≤ 122 <;> by_cases a5 : (48 : Int) ≤ (s[k].toNat : Int) <;> by_cases a6 : (s[k].toNat : Int) ≤ 57 <;> try (exfalso; simp only [beq_eq_false_iff_ne, beq_iff_eq] at b7 b8; omega)
              all_goals
                clear hal hda hU
                go_wp2
                go_roundw
                case rel => exact ⟨t ++ [s[k]], k + 1, by rw [← mk_snoc], by go_num, hlt, by rw [List.length_append, List.length_singleton]; omega, st, stA', hb.alloc hb.size _⟩
                case measure => simp [intOf]; omega
          · have st : Hid (nameL [] s.data.toList = nameL t (s.data.toList.drop (k + 1))) := Lib.hid (by rw [hN.out, stN.out, hal, hem]; rfl)
            rw [hem] at hE hE2
            simp only [Bool.not_false, Bool.not_true] at hE2
            unfold alnumB at hal
            simp only [Bool.or_eq_false_iff, Bool.and_eq_false_iff, decide_eq_false_iff_not] at hal
            clear stN hN hd hem
            by_cases a1 : (65 : Int) ≤ (s[k].toNat : Int) <;> by_cases a2 : (s[k].toNat : Int) ≤ 90 <;> by_cases a3 : (97 : Int) ≤ (s[k].toNat : Int) <;> by_cases a4 : (s[k].toNat : Int) ≤ 122 <;> by_cases a5 : (48 : Int) ≤ (s[k].toNat : Int) <;> by_cases a6 : (s[k].toNat : Int) ≤ 57 <;> try (exfalso; omega)
            all_goals
              clear hal hU
              go_wp2
              go_roundw
              case rel => exact ⟨t, k + 1, rfl, by go_num, hlt, by omega, st, stA', hb⟩
              case measure => simp [intOf]; omega
        · have st : Hid (nameL [] s.data.toList = nameL (t ++ [s[k]]) (s.data.toList.drop (k + 1))) := Lib.hid (by rw [hN.out, stN.out, hal]; rfl)
          unfold alnumB at hal
          simp only [Bool.or_eq_true, Bool.and_eq_true, decide_eq_true_eq] at hal
          clear stN hN hd hE hE2
          by_cases a1 : (65 : Int) ≤ (s[k].toNat : Int) <;> by_cases a2 : (s[k].toNat : Int) ≤ 90 <;> by_cases a3 : (97 : Int) ≤ (s[k].toNat : Int) <;> by_cases a4 : (s[k].toNat : Int) ≤ 122 <;> by_cases a5 : (48 : Int) ≤ (s[k].toNat : Int) <;> by_cases a6 : (s[k].toNat : Int) ≤ 57 <;> try (exfalso; omega)
          all_goals
            clear hal hU
            go_wp2
            go_roundw
            case rel => exact ⟨t ++ [s[k]], k + 1, by rw [← mk_snoc], by go_num, hlt, by rw [List.length_append, List.length_singleton]; omega, st, stA', hb.alloc hb.size _⟩
            case measure => simp [intOf]; omega
    · have X : Hid (nameL [] s.data.toList = t) := Lib.hid (by rw [hN.out, List.drop_of_length_le (by rw [← Lib.size_eq]; omega)]; rfl)
      have Y : Hid (asciiB s.data.toList = true) := Lib.hid (by rw [hA.out, List.drop_of_length_le (by rw [← Lib.size_eq]; omega)]; rfl)
      clear hN hA
      go_wp2
      go_ret2
      exact ⟨by unfold nameOut; rw [X.out, Y.out]; rfl, hb⟩
end Go.Proofs.YtageocibgakhmaaDoor.L
