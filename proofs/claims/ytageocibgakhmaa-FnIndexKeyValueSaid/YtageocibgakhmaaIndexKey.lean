/- Walks: the index of an entry KEY=VALUE, and the law on it. -/
import Derived.Test.YtageocibgakhmaaKey
import Derived.Test.YtageocibgakhmaaVal
import Derived.Test.YtageocibgakhmaaLaw
import Derived.Laws.Entries
import Derived.Deep.RegionHeld3
namespace Go.Proofs.Ytageocibgakhmaa.L
open Go.RowKit

theorem assert_string (s : ByteArray) (xT : TypeId) (w : World) : (Instr.typeAssert (.iface 9 (.string s)) xT 9 true).run Try.prog w = .ok (.tuple #[.string s, .bool true]) w := by
  simp [Instr.typeAssert, run_underlying Try.underlying9, go_sem, Result.andThen]

set_option maxRecDepth 100000 in
theorem override_keyValueIndexer (s p : ByteArray) (w : World) (hs : s.size ≤ 140737488355328) :
    Calls Try.prog 69 #[.iface 9 (.string s), .string p] w fun e w' => e = .returned (.tuple #[.string (keyOf s), .nilIface]) ∧ Below w.heap.size w w' := by
  have eA := fun xT => assert_string s xT w
  go_enter Try.func69, Try.ntmps69
  go_wp2_with fail
  refine (override_zzCut s _ hs).mono ?_
  rintro e w1 ⟨⟨b, t, hb, rfl⟩, hbe⟩
  cases b
  · have e : keyOf s = s := by simpa using hb
    go_wp2
    go_ret2
    exact ⟨by rw [e]; rfl, hbe⟩
  · clear hb
    go_wp2
    go_ret2
    exact ⟨rfl, hbe⟩

theorem override_IndexKeyValue (s p : ByteArray) (w : World) (hs : s.size ≤ 140737488355328) :
    Calls Try.prog 51 #[.iface 9 (.string s), .string p] w fun e w' => e = .returned (.tuple #[.string (keyOf s), .nilIface]) ∧ Below w.heap.size w w' := by
  go_enter Try.func51, Try.ntmps51
  go_wp2_with (first | (go_at_call 69; refine (override_keyValueIndexer s p _ hs).mono ?_; rintro e w1 ⟨rfl, hb⟩))
  go_ret2
  exact ⟨rfl, hb⟩

theorem impl_IndexKeyValue (s : ByteArray) (k : Value) (w : World) (hs : s.size ≤ 140737488355328) :
    Calls Try.prog 23 #[valI s k] w fun e w' => e = .returned (.tuple #[.string (keyOf s), .bool true]) ∧ Below w.heap.size w w' := by
  unfold valI
  go_enter Try.func23, Try.ntmps23
  go_wp2_with fail
  refine (impl_toAny s k _).mono ?_
  rintro e w1 ⟨rfl, hb1⟩
  go_wp2_with fail
  refine (impl_at _).mono ?_
  rintro e w2 ⟨⟨p, rfl⟩, hb2⟩
  go_wp2_with fail
  refine (override_IndexKeyValue s p _ hs).mono ?_
  rintro e w3 ⟨rfl, hb3⟩
  go_wp2_with fail
  refine (impl_index _ _).mono ?_
  rintro e w4 ⟨rfl, rfl⟩
  go_wp2
  go_ret2
  have h0 := (Below.refl w.heap.size w).alloc (Nat.le_refl _) (Obj.cells #[.int .i64 3, .int .i64 0, .string s, k, .slice none 0 0] 31)
  have h1 := h0.trans (hb1.mono h0.size)
  have h2 := h1.trans (hb2.mono h1.size)
  exact ⟨rfl, h2.trans (hb3.mono h2.size)⟩

/-! ### what the statement asks -/
set_option maxRecDepth 100000 in
theorem spec_mergeSplit (s : ByteArray) (w : World) (hs : s.size ≤ 140737488355328) :
    Calls Try.prog 52 #[.string s] w fun e w' => (∃ (n : Int) (t : ByteArray), e = .returned (.tuple #[.string (keyOf s), .agg #[.int .i64 n, .int .i64 0, .string t, .slice none 0 0, .slice none 0 0]])) ∧ Below w.heap.size w w' := by
  go_enter Try.func52, Try.ntmps52
  go_wp2
  go_loop [4] (fun i => ∃ k : Nat, i = .int .i64 k ∧ k ≤ s.size ∧ Hid (Lib.NoOcc s.data.toList [61] k)) (fun i => s.size - (intOf i).toNat)
  case atStart => exact ⟨0, rfl, Nat.zero_le _, Lib.NoOcc.zero _ _⟩
  case round =>
    obtain ⟨k, rfl, hk, hN⟩ := hrel
    by_cases hlt : k < s.size
    · have e1 := at_eq s k hlt
      have hg := getElem_data s k hlt
      by_cases hc : s[k] = 61
      · have ec : (at_ s k == 61) = true := by rw [← e1, hc]; rfl
        have X : Hid (keyOf s = s.extract 0 k) := Lib.hid (keyOf_hit s k (Lib.index_hit hN.out (by rw [← Lib.size_eq]; omega) (by rw [occ61, hg, hc]; simp)))
        clear hc hg
        have i1 : (0 : Int) ≤ (k : Int) := by omega
        have i2 : (k : Int) ≤ (s.size : Int) := by omega
        have i3 : (k : Int) + 1 ≤ (s.size : Int) := by omega
        have i4 : (0 : Int) ≤ (k : Int) + 1 := by omega
        have eW : IntKind.i64.wrap ((k : Int) + 1) = (k : Int) + 1 := IntWalk.i64_in _ (by omega)
        go_wp2_with fail
        go_region_held3 (fun _ => True) (first | exact trivial) (first | (go_at_call 17; refine (spec_T_at _ _).mono ?_; unfold valT; rintro e w1 ⟨rfl, rfl⟩))
        go_wp2
        refine bodyPost_ret (v := .tuple #[.string (s.extract 0 k), .agg #[.int .i64 3, .int .i64 0, .string (s.extract (k + 1) s.size), .slice none 0 0, .slice none 0 0]]) (by simp [results, Try.results52, go_sem]) rfl ?_
        exact ⟨⟨_, _, by rw [X.out]⟩, (((Below.refl _ _).alloc (Nat.le_refl _) _).alloc (by simp) _).drew⟩
      · have ec : (at_ s k == 61) = false := by
          rw [← e1, beq_eq_false_iff_ne]
          intro e
          exact hc (UInt8.toNat.inj (by have : (61 : UInt8).toNat = 61 := rfl; omega))
        have X : Hid (Lib.NoOcc s.data.toList [61] (k + 1)) := Lib.NoOcc.succ hN.out (by rw [occ61, hg]; simp [hc])
        clear hc hg
        go_wp2
        go_round
        case rel => exact ⟨k + 1, by go_num, hlt, X⟩
        case measure => simp [intOf]; omega
    · have X := Lib.hid (keyOf_miss s (Lib.index_past (by simp) hN.out (by rw [← Lib.size_eq]; simp; omega)))
      go_wp2
      refine bodyPost_ret (v := .tuple #[.string s, .agg #[.int .i64 0, .int .i64 0, .string ⟨#[]⟩, .slice none 0 0, .slice none 0 0]]) (by simp [results, Try.results52, go_sem]) rfl ?_
      exact ⟨⟨_, _, by rw [X.out]⟩, (Below.refl _ _).alloc (Nat.le_refl _) _⟩

set_option maxRecDepth 100000 in
theorem spec_PartKey (s : ByteArray) (w : World) (hs : s.size ≤ 140737488355328) :
    Calls Try.prog 24 #[.string s] w fun e w' => e = .returned (.string (keyOf s)) ∧ Below w.heap.size w w' := by
  go_enter Try.func24, Try.ntmps24
  go_wp2_with fail
  refine (spec_mergeSplit s _ hs).mono ?_
  rintro e w1 ⟨⟨n, t, rfl⟩, hb⟩
  go_wp2
  go_ret
  exact ⟨rfl, hb.alloc hb.size _⟩

theorem laws_partIndex (s : ByteArray) (w : World) :
    Calls Try.prog 19 #[.string s, .bool true, .string s] w fun e w' => e = .returned (.bool true) ∧ w = w' := by
  have e1 : (s.toList == s.toList) = true := by simp
  go_enter Try.func19, Try.ntmps19
  go_wp2
  go_ret
  exact ⟨rfl, rfl⟩

set_option maxHeartbeats 1000000 in
set_option maxRecDepth 100000 in
theorem law_IndexKeyValue (s v : ByteArray) (w : World) :
    Calls Try.prog 6 #[.string s, .string v] w fun e w' => e = .returned (.bool true) ∧ Below w.heap.size w w' := by
  by_cases h1 : s.size ≤ 2147483647
  · have h1' : ¬ 2147483647 < (s.size : Int) := by omega
    by_cases h2 : v.size ≤ 2147483647
    · have h2' : ¬ 2147483647 < (v.size : Int) := by omega
      have hk := keyOf_size s
      have H1 := Lib.hid (keyOf_twice s)
      have H2 := Lib.hid (keyOf_eq s v)
      have hs : s.size ≤ 140737488355328 := by omega
      have hks : (keyOf s).size ≤ 140737488355328 := by omega
      have hkv : (keyOf s ++ ⟨#[61]⟩ ++ v).size ≤ 140737488355328 := by
        rw [ByteArray.size_append, ByteArray.size_append]
        have : (⟨#[61]⟩ : ByteArray).size = 1 := rfl
        omega
      go_enter Try.func6, Try.ntmps6
      go_wp2_with fail
      refine (spec_PartKey s _ hs).mono ?_
      rintro e w1 ⟨rfl, hb1⟩
      go_wp2_with fail
      refine (spec_T _ _).mono ?_
      rintro e w2 ⟨rfl, hb2⟩
      have hc2 := hb1.trans (hb2.mono hb1.size)
      clear hb1 hb2
      go_wp2_with fail
      refine (laws_to _ _).mono ?_
      rintro e w3 ⟨⟨k3, rfl⟩, hb3⟩
      have hc3 := hc2.trans (hb3.mono hc2.size)
      clear hb3 hc2
      go_wp2_with fail
      refine (impl_IndexKeyValue _ k3 _ hks).mono ?_
      rintro e w4 ⟨rfl, hb4⟩
      have hc4 := hc3.trans (hb4.mono hc3.size)
      clear hb4 hc3
      rw [H1.out]
      go_wp2_with fail
      refine (spec_PartKey s _ hs).mono ?_
      rintro e w5 ⟨rfl, hb5⟩
      have hc5 := hc4.trans (hb5.mono hc4.size)
      clear hb5 hc4
      go_wp2_with fail
      refine (spec_T _ _).mono ?_
      rintro e w6 ⟨rfl, hb6⟩
      have hc6 := hc5.trans (hb6.mono hc5.size)
      clear hb6 hc5
      go_wp2_with fail
      refine (laws_to _ _).mono ?_
      rintro e w7 ⟨⟨k7, rfl⟩, hb7⟩
      have hc7 := hc6.trans (hb7.mono hc6.size)
      clear hb7 hc6
      go_wp2_with fail
      refine (impl_IndexKeyValue _ k7 _ hkv).mono ?_
      rintro e w8 ⟨rfl, hb8⟩
      have hc8 := hc7.trans (hb8.mono hc7.size)
      clear hb8 hc7
      rw [H2.out]
      go_wp2_with fail
      refine (spec_PartKey s _ hs).mono ?_
      rintro e w9 ⟨rfl, hb9⟩
      have hc9 := hc8.trans (hb9.mono hc8.size)
      clear hb9 hc8
      go_wp2_with fail
      refine (laws_partIndex _ _).mono ?_
      rintro e w10 ⟨rfl, rfl⟩
      go_wp2_with fail
      refine (spec_PartKey s _ hs).mono ?_
      rintro e w11 ⟨rfl, hb11⟩
      have hc11 := hc9.trans (hb11.mono hc9.size)
      clear hb11 hc9
      go_wp2_with fail
      refine (laws_partIndex _ _).mono ?_
      rintro e w12 ⟨rfl, rfl⟩
      go_wp2_with fail
      go_ret
      exact ⟨rfl, hc11⟩
    · have h2' : 2147483647 < (v.size : Int) := by omega
      go_enter Try.func6, Try.ntmps6
      go_wp2_with fail
      go_ret
      exact ⟨rfl, Below.refl _ _⟩
  · have h1' : 2147483647 < (s.size : Int) := by omega
    go_enter Try.func6, Try.ntmps6
    go_wp2_with fail
    go_ret
    exact ⟨rfl, Below.refl _ _⟩
end Go.Proofs.Ytageocibgakhmaa.L
