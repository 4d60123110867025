/- Walks: the index of an exposed port, and the law on it. -/
import Derived.Test.YtageocibgakhmaaDoorVal
import Derived.Test.YtageocibgakhmaaDoorLaw
import Derived.Laws.Entries
namespace Go.Proofs.YtageocibgakhmaaDoor.L
open Go.RowKit

theorem assert_str_str (s : ByteArray) (xT : TypeId) (w : World) : (Instr.typeAssert (.iface 9 (.string s)) xT 9 true).run Tryd.prog w = .ok (.tuple #[.string s, .bool true]) w := by
  simp [Instr.typeAssert, run_underlying Tryd.underlying9, go_sem, Result.andThen]

set_option maxRecDepth 100000 in
theorem override_exposeIndexer (s p : ByteArray) (w : World) :
    Calls Tryd.prog 33 #[.iface 9 (.string s), .string p] w fun e w' => e = .returned (.tuple #[.string s, .nilIface]) ∧ w = w' := by
  have eA := fun xT => assert_str_str s xT w
  go_enter Tryd.func33, Tryd.ntmps33
  go_wp2
  go_ret2
  exact ⟨rfl, rfl⟩

theorem override_IndexExpose (s p : ByteArray) (w : World) :
    Calls Tryd.prog 23 #[.iface 9 (.string s), .string p] w fun e w' => e = .returned (.tuple #[.string s, .nilIface]) ∧ w = w' := by
  go_enter Tryd.func23, Tryd.ntmps23
  go_wp2_with (first | (go_at_call 33; refine (override_exposeIndexer s p _).mono ?_; rintro e w1 ⟨rfl, rfl⟩))
  go_ret2
  exact ⟨rfl, rfl⟩

theorem impl_IndexExpose (s : ByteArray) (k : Value) (w : World) :
    Calls Tryd.prog 8 #[valI s k] w fun e w' => e = .returned (.tuple #[.string s, .bool true]) ∧ Below w.heap.size w w' := by
  unfold valI
  go_enter Tryd.func8, Tryd.ntmps8
  go_wp2_with fail
  refine (impl_toAny s k _).mono ?_
  rintro e w1 ⟨rfl, hb1⟩
  go_wp2_with fail
  refine (impl_at _).mono ?_
  rintro e w2 ⟨⟨p, rfl⟩, hb2⟩
  go_wp2_with fail
  refine (override_IndexExpose s p _).mono ?_
  rintro e w3 ⟨rfl, rfl⟩
  go_wp2_with fail
  refine (impl_index _ _).mono ?_
  rintro e w4 ⟨rfl, rfl⟩
  go_wp2
  go_ret2
  have h0 := (Below.refl w.heap.size w).alloc (Nat.le_refl _) (Obj.cells #[.int .i64 3, .int .i64 0, .string s, k, .slice none 0 0] 28)
  have h1 := h0.trans (hb1.mono h0.size)
  exact ⟨rfl, h1.trans (hb2.mono h1.size)⟩

def isBool (e : Ending) : Prop := ∃ b, e = .returned (.bool b)
theorem isBool.mk (b : Bool) : isBool (.returned (.bool b)) := ⟨b, rfl⟩

set_option maxHeartbeats 1000000 in
set_option maxRecDepth 100000 in
theorem spec_sayDigits (s : ByteArray) (l m : Int) (w : World) (hs : s.size ≤ 2147483647) :
    Calls Tryd.prog 21 #[.string s, .int .i64 l, .int .i64 m] w fun e w' => isBool e ∧ w = w' := by
  go_enter Tryd.func21, Tryd.ntmps21
  go_wp2
  go_loop [7, 8] (fun n i => ∃ (k : Nat) (x : Int), n = .int .i64 x ∧ i = .int .i64 k ∧ k ≤ s.size) (fun _ i => s.size - (intOf i).toNat)
  case atStart => exact ⟨0, 0, rfl, rfl, Nat.zero_le _⟩
  case round =>
    obtain ⟨k, x, rfl, rfl, hk⟩ := hrel
    by_cases hlt : k < s.size
    · have h0 : 0 < s.size := by omega
      by_cases c1 : (s[k].toNat : Int) < 48
      · go_wp2
        go_ret
        exact ⟨isBool.mk _, rfl⟩
      by_cases c2 : 57 < (s[k].toNat : Int)
      · go_wp2
        go_ret
        exact ⟨isBool.mk _, rfl⟩
      by_cases c3 : 5 < (k : Int)
      · by_cases c4 : 0 < (k : Int)
        · rcases c5 : (((s[0].toNat : Int)) == 48) with _ | _
          · go_wp2
            go_ret
            exact ⟨isBool.mk _, rfl⟩
          · go_wp2
            go_ret
            exact ⟨isBool.mk _, rfl⟩
        · omega
      by_cases c4 : 0 < (k : Int)
      · rcases c5 : (((s[0].toNat : Int)) == 48) with _ | _
        · go_wp2
          go_round
          case rel => exact ⟨k + 1, _, rfl, by go_num, hlt⟩
          case measure => simp [intOf]; omega
        · go_wp2
          go_ret
          exact ⟨isBool.mk _, rfl⟩
      · go_wp2
        go_round
        case rel => exact ⟨k + 1, _, rfl, by go_num, hlt⟩
        case measure => simp [intOf]; omega
    · by_cases h0 : 0 < s.size
      case neg =>
        have hE' : s.toList.isEmpty = true := by rw [isEmpty_of_size, decide_eq_true (by omega)]
        go_wp2
        go_ret
        exact ⟨isBool.mk _, rfl⟩
      have hE' : s.toList.isEmpty = false := by rw [isEmpty_of_size, decide_eq_false (by omega)]
      by_cases c1 : l ≤ x
      · by_cases c2 : x ≤ m
        · go_wp2
          go_ret
          exact ⟨isBool.mk _, rfl⟩
        · go_wp2
          go_ret
          exact ⟨isBool.mk _, rfl⟩
      · go_wp2
        go_ret
        exact ⟨isBool.mk _, rfl⟩

theorem spec_PartExposed (s : ByteArray) (w : World) (hs : s.size ≤ 2147483647) :
    Calls Tryd.prog 7 #[.string s] w fun e w' => isBool e ∧ w = w' := by
  go_enter Tryd.func7, Tryd.ntmps7
  go_wp2_with (first | (go_at_call 21; refine (spec_sayDigits s _ _ _ hs).mono ?_; rintro e w1 ⟨⟨b, rfl⟩, rfl⟩))
  go_ret
  exact ⟨isBool.mk _, rfl⟩

set_option maxHeartbeats 1000000 in
set_option maxRecDepth 100000 in
theorem law_IndexExpose (a b : ByteArray) (w : World) :
    Calls Tryd.prog 3 #[.string a, .string b] w fun e w' => e = .returned (.bool true) ∧ Below w.heap.size w w' := by
  by_cases ha : a.size ≤ 2147483647
  case neg =>
    have ga : 2147483647 < (a.size : Int) := by omega
    go_enter Tryd.func3, Tryd.ntmps3
    go_wp2_with fail
    go_ret
    exact ⟨rfl, Below.refl _ _⟩
  have ga : ¬ 2147483647 < (a.size : Int) := by omega
  by_cases hb : b.size ≤ 2147483647
  case neg =>
    have gb : 2147483647 < (b.size : Int) := by omega
    go_enter Tryd.func3, Tryd.ntmps3
    go_wp2_with fail
    go_ret
    exact ⟨rfl, Below.refl _ _⟩
  have gb : ¬ 2147483647 < (b.size : Int) := by omega
  go_enter Tryd.func3, Tryd.ntmps3
  go_wp2_with fail
  refine (spec_PartExposed a _ ha).mono ?_
  rintro e w0 ⟨⟨x, rfl⟩, rfl⟩
  cases x
  · go_wp2_with fail
    go_ret
    exact ⟨rfl, Below.refl _ _⟩
  go_wp2_with fail
  refine (spec_PartExposed b _ hb).mono ?_
  rintro e w0 ⟨⟨x, rfl⟩, rfl⟩
  cases x
  · go_wp2_with fail
    go_ret
    exact ⟨rfl, Below.refl _ _⟩
  go_wp2_with fail
  refine (spec_T _ _).mono ?_
  rintro e w1 ⟨rfl, hc1⟩
  go_wp2_with fail
  refine (laws_to _ _).mono ?_
  rintro e w2 ⟨⟨k2, rfl⟩, hb2⟩
  have hc2 := hc1.trans (hb2.mono hc1.size)
  go_wp2_with fail
  refine (impl_IndexExpose _ k2 _).mono ?_
  rintro e w3 ⟨rfl, hb3⟩
  have hc3 := hc2.trans (hb3.mono hc2.size)
  go_wp2_with fail
  refine (spec_T _ _).mono ?_
  rintro e w4 ⟨rfl, hb4⟩
  have hc4 := hc3.trans (hb4.mono hc3.size)
  go_wp2_with fail
  refine (laws_to _ _).mono ?_
  rintro e w5 ⟨⟨k5, rfl⟩, hb5⟩
  have hc5 := hc4.trans (hb5.mono hc4.size)
  go_wp2_with fail
  refine (impl_IndexExpose _ k5 _).mono ?_
  rintro e w6 ⟨rfl, hb6⟩
  have hc6 := hc5.trans (hb6.mono hc5.size)
  rcases heq : (a.toList == b.toList) with _ | _
  · go_wp2
    go_ret
    exact ⟨rfl, hc6⟩
  · go_wp2
    go_ret
    exact ⟨rfl, hc6⟩
end Go.Proofs.YtageocibgakhmaaDoor.L
