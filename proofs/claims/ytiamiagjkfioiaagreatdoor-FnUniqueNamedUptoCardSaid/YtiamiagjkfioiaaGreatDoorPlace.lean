/- The walk of spec.place: where a key stands among a map's keys, or would stand. -/
import Derived.Test.YtiamiagjkfioiaaGreatDoorWithK
import Derived.IntWalk
namespace Go.Proofs.YtiamiagjkfioiaaGreatDoor.A
set_option linter.unusedVariables false
set_option linter.unusedSimpArgs false
set_option linter.unusedSectionVars false
open Go.RowKit Go.Proofs.YtiamiagjkfioiaaGreatDoorW.PrintWords Go.Proofs.YtiamiagjkfioiaaGreatDoorW.PrintLast Go.Proofs.YtiamiagjkfioiaaGreatDoorW.PrintMore Go.Proofs.YtiamiagjkfioiaaGreatDoor.PT Go.Proofs.YtiamiagjkfioiaaGreatDoor.L

/-- where a key stands among rising keys, or would stand -/
def placeN (x : ByteArray) : List ByteArray → Nat
  | [] => 0
  | y :: r => if Op.bytesLess y.toList x.toList then placeN x r + 1 else 0
def placeB (x : ByteArray) : List ByteArray → Bool
  | [] => false
  | y :: r => if Op.bytesLess y.toList x.toList then placeB x r else (y.toList == x.toList)
theorem placeN_le (x : ByteArray) : ∀ l, placeN x l ≤ l.length
  | [] => Nat.le_refl _
  | y :: r => by
    have := placeN_le x r
    unfold placeN
    split
    · simp; omega
    · exact Nat.zero_le _
theorem placeB_lt (x : ByteArray) : ∀ l, placeB x l = true → placeN x l < l.length
  | [], h => by cases h
  | y :: r, h => by
    unfold placeB at h
    unfold placeN
    split at h
    · rename_i hl
      rw [if_pos hl]
      have := placeB_lt x r h
      simp; omega
    · rename_i hl
      rw [if_neg hl]
      simp
theorem drop_rd (l : List ByteArray) (k : Nat) (h : k < l.length) : l.drop k = rdOf ByteArray.empty l (k : Int) :: l.drop (k + 1) := by
  rw [List.drop_eq_getElem_cons h]
  simp [rdOf, List.getD_eq_getElem?_getD, List.getElem?_eq_getElem h]
def placeOut (x : ByteArray) (l : List ByteArray) : Value := .tuple #[.int .i64 (placeN x l), .bool (placeB x l)]
set_option maxHeartbeats 1000000 in
set_option maxRecDepth 100000 in
theorem spec_place (l : List ByteArray) (x t : ByteArray) (n m : Int) (A : Option Addr) (c : Nat) (vv : Value) (w : World) (hk : Kd.C Kd.string w A l.length l) (hn : l.length ≤ 1099511627776) :
    Calls Tryz.prog 43 #[.agg #[.int .i64 n, .int .i64 m, .string t, .slice A l.length c, vv], .string x] w fun e w' => e = .returned (placeOut x l) ∧ Below w.heap.size w w' := by
  have HK := Aside0.mk hk
  clear hk
  have hb1 : Below w.heap.size w (w.alloc (Obj.cells #[Value.int IntKind.i64 n, Value.int IntKind.i64 m, Value.string t, Value.slice A l.length c, vv] 26)) := (Below.refl _ _).alloc (Nat.le_refl _) _
  go_enter Tryz.func43, Tryz.ntmps43
  go_wp2
  go_loop [6] (fun i => ∃ k : Nat, i = .int .i64 k ∧ k ≤ l.length ∧ Hid (placeN x l = k + placeN x (l.drop k)) ∧ Hid (placeB x l = placeB x (l.drop k))) (fun i => l.length - (intOf i).toNat)
  case atStart => exact ⟨0, rfl, Nat.zero_le _, Lib.hid (by simp), rfl⟩
  case round =>
    obtain ⟨k, rfl, hk, hN, hB⟩ := hrel
    by_cases hlt : k < l.length
    · have i1 : (0 : Int) ≤ (k : Int) := by omega
      have i2 : (k : Int) < (l.length : Int) := by omega
      obtain ⟨ad, rfl, hp⟩ := Kd.at_string HK.out (k : Int) i1 i2
      replace hp := (hb1.cell (World.block_lt_of_cell? w _ hp)).trans hp
      simp only [Int.toNat_natCast] at hp
      have stN : Hid (placeN x (l.drop k) = if Op.bytesLess (rdOf ByteArray.empty l (k : Int)).toList x.toList then placeN x (l.drop (k + 1)) + 1 else 0) := Lib.hid (by rw [drop_rd l k hlt]; rfl)
      have stB : Hid (placeB x (l.drop k) = if Op.bytesLess (rdOf ByteArray.empty l (k : Int)).toList x.toList then placeB x (l.drop (k + 1)) else ((rdOf ByteArray.empty l (k : Int)).toList == x.toList)) := Lib.hid (by rw [drop_rd l k hlt]; rfl)
      generalize rdOf ByteArray.empty l (k : Int) = y at *
      rcases hless : Op.bytesLess y.toList x.toList with _ | _
      · have X : Hid (placeN x l = k) := Lib.hid (by rw [hN.out, stN.out, hless]; rfl)
        have Y : Hid (placeB x l = (y.toList == x.toList)) := Lib.hid (by rw [hB.out, stB.out, hless]; rfl)
        clear stN stB hN hB
        go_wp2
        go_region
        go_wp2
        go_ret2
        exact ⟨by unfold placeOut; rw [X.out, Y.out]; rfl, hb1.drew⟩
      · have X : Hid (placeN x l = (k + 1 : Nat) + placeN x (l.drop (k + 1))) := Lib.hid (by rw [hN.out, stN.out, hless, if_pos rfl]; omega)
        have Y : Hid (placeB x l = placeB x (l.drop (k + 1))) := Lib.hid (by rw [hB.out, stB.out, hless]; rfl)
        clear stN stB hN hB
        go_wp2
        go_round
        case rel => exact ⟨k + 1, by go_num, hlt, X, Y⟩
        case measure => simp [intOf]; omega
    · have X : Hid (placeN x l = l.length) := Lib.hid (by rw [hN.out, List.drop_of_length_le (by omega)]; show k + 0 = _; omega)
      have Y : Hid (placeB x l = false) := Lib.hid (by rw [hB.out, List.drop_of_length_le (by omega)]; rfl)
      clear hN hB
      go_wp2
      go_ret2
      exact ⟨by unfold placeOut; rw [X.out, Y.out]; rfl, hb1⟩
end Go.Proofs.YtiamiagjkfioiaaGreatDoor.A
