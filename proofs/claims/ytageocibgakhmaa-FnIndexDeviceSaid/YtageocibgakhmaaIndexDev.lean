/- Walks: the index of a device, and the law on it. -/
import Derived.Test.YtageocibgakhmaaOverrideA
import Derived.Test.YtageocibgakhmaaVal
import Derived.Test.YtageocibgakhmaaLaw
import Derived.Test.YtageocibgakhmaaWord
import Derived.Laws.Entries
namespace Go.Proofs.Ytageocibgakhmaa.L
open Go.RowKit

theorem sp_cons (d : UInt8) : ∀ (l : List UInt8), d ∉ l → ∀ r, sp d (l ++ d :: r) = l :: sp d r
  | [], _, r => by simp [sp]
  | c :: l, h, r => by
    have hc : ¬ c = d := fun e => h (by simp [e])
    rw [List.cons_append, sp, if_neg hc, sp_cons d l (fun e => h (List.mem_cons_of_mem _ e)) r]
theorem sp_last (d : UInt8) : ∀ (l : List UInt8), d ∉ l → sp d l = [l]
  | [], _ => rfl
  | c :: l, h => by
    have hc : ¬ c = d := fun e => h (by simp [e])
    rw [sp, if_neg hc, sp_last d l (fun e => h (List.mem_cons_of_mem _ e))]

theorem assert_str_map (s : ByteArray) (xT : TypeId) (w : World) : (Instr.typeAssert (.iface 9 (.string s)) xT 77 true).run Try.prog w = .ok (.tuple #[.map none, .bool false]) w := by
  simp [Instr.typeAssert, run_underlying Try.underlying77, go_sem, Result.andThen]
theorem assert_str_str (s : ByteArray) (xT : TypeId) (w : World) : (Instr.typeAssert (.iface 9 (.string s)) xT 9 true).run Try.prog w = .ok (.tuple #[.string s, .bool true]) w := by
  simp [Instr.typeAssert, run_underlying Try.underlying9, go_sem, Result.andThen]

set_option maxRecDepth 100000 in
theorem override_deviceMappingIndexer (s p x y : ByteArray) (r : List ByteArray) (w : World) (hs : s.size ≤ 4398046511104) (h : (sp 58 s.data.toList).map mk = x :: y :: r) :
    Calls Try.prog 70 #[.iface 9 (.string s), .string p] w fun e w' => e = .returned (.tuple #[.string y, .nilIface]) ∧ Below w.heap.size w w' := by
  have eA := fun xT => assert_str_str s xT w
  have eB := fun xT => assert_str_map s xT w
  have H := Lib.hid h
  have e0 : ((r.length + 1 + 1 : Nat) : Int) = (r.length : Int) + 2 := by omega
  have e1 : (((r.length : Int) + 2) == 1) = false := by rw [beq_eq_false_iff_ne]; omega
  have e2 : (1 : Int) < (r.length : Int) + 2 := by omega
  clear h
  go_enter Try.func70, Try.ntmps70
  go_wp2_with fail
  refine (override_zzSplit s 58 _ hs).mono ?_
  rintro e w1 ⟨v, rfl, hv, hb⟩
  rw [H.out] at hv
  have hss := hv.any
  clear eA eB
  obtain ⟨A, c, rfl, h1, h2, h3⟩ := SS.get hss
  obtain ⟨pb, po, rfl, hpb, hpc⟩ := h3 (by simp)
  have hc : w1.cell? ⟨pb, po + 1, none⟩ = some (.string y) := hpc 1 (by simp)
  clear hpc h3 hss hv
  rw [List.length_cons, List.length_cons] at *
  unfold maxLen at h2
  go_wp2

  go_ret2
  exact ⟨rfl, hb⟩

theorem override_IndexDevice (s p x y : ByteArray) (r : List ByteArray) (w : World) (hs : s.size ≤ 4398046511104) (h : (sp 58 s.data.toList).map mk = x :: y :: r) :
    Calls Try.prog 53 #[.iface 9 (.string s), .string p] w fun e w' => e = .returned (.tuple #[.string y, .nilIface]) ∧ Below w.heap.size w w' := by
  go_enter Try.func53, Try.ntmps53
  go_wp2_with (first | (go_at_call 70; refine (override_deviceMappingIndexer s p x y r _ hs h).mono ?_; rintro e w1 ⟨rfl, hb⟩))
  go_ret2
  exact ⟨rfl, hb⟩

theorem impl_IndexDevice (s : ByteArray) (k : Value) (x y : ByteArray) (r : List ByteArray) (w : World) (hs : s.size ≤ 4398046511104) (h : (sp 58 s.data.toList).map mk = x :: y :: r) :
    Calls Try.prog 25 #[valI s k] w fun e w' => e = .returned (.tuple #[.string y, .bool true]) ∧ Below w.heap.size w w' := by
  have H := Lib.hid h
  clear h
  unfold valI
  go_enter Try.func25, Try.ntmps25
  go_wp2_with fail
  refine (impl_toAny s k _).mono ?_
  rintro e w1 ⟨rfl, hb1⟩
  go_wp2_with fail
  refine (impl_at _).mono ?_
  rintro e w2 ⟨⟨p, rfl⟩, hb2⟩
  go_wp2_with fail
  refine (override_IndexDevice s p x y r _ hs H.out).mono ?_
  rintro e w3 ⟨rfl, hb3⟩
  go_wp2_with fail
  refine (impl_index _ _).mono ?_
  rintro e w4 ⟨rfl, rfl⟩
  go_wp2
  go_ret2
  have h0 := (Below.refl w.heap.size w).alloc (Nat.le_refl _) (Obj.cells #[.int .i64 3, .int .i64 0, .string s, k, .slice none 0 0] 31)
  have h1 := h0.trans (hb1.mono h0.size)
  have h2 := h1.trans (hb2.mono h1.size)
  exact ⟨rfl, h2.trans (hb3.mono h2.size)⟩

set_option maxHeartbeats 2000000 in
set_option maxRecDepth 100000 in
theorem law_IndexDevice (a b c d p : ByteArray) (w : World) :
    Calls Try.prog 7 #[.string a, .string b, .string c, .string d, .string p] w fun e w' => e = .returned (.bool true) ∧ Below w.heap.size w w' := by
  by_cases ha : a.size ≤ 2147483647
  case neg =>
    have ga : 2147483647 < (a.size : Int) := by omega
    go_enter Try.func7, Try.ntmps7
    go_wp2_with fail
    go_ret
    exact ⟨rfl, Below.refl _ _⟩
  have ga : ¬ 2147483647 < (a.size : Int) := by omega
  by_cases hb : b.size ≤ 2147483647
  case neg =>
    have gb : 2147483647 < (b.size : Int) := by omega
    go_enter Try.func7, Try.ntmps7
    go_wp2_with fail
    go_ret
    exact ⟨rfl, Below.refl _ _⟩
  have gb : ¬ 2147483647 < (b.size : Int) := by omega
  by_cases hc : c.size ≤ 2147483647
  case neg =>
    have gc : 2147483647 < (c.size : Int) := by omega
    go_enter Try.func7, Try.ntmps7
    go_wp2_with fail
    go_ret
    exact ⟨rfl, Below.refl _ _⟩
  have gc : ¬ 2147483647 < (c.size : Int) := by omega
  by_cases hd : d.size ≤ 2147483647
  case neg =>
    have gd : 2147483647 < (d.size : Int) := by omega
    go_enter Try.func7, Try.ntmps7
    go_wp2_with fail
    go_ret
    exact ⟨rfl, Below.refl _ _⟩
  have gd : ¬ 2147483647 < (d.size : Int) := by omega
  by_cases hp : p.size ≤ 2147483647
  case neg =>
    have gp : 2147483647 < (p.size : Int) := by omega
    go_enter Try.func7, Try.ntmps7
    go_wp2_with fail
    go_ret
    exact ⟨rfl, Below.refl _ _⟩
  have gp : ¬ 2147483647 < (p.size : Int) := by omega
  go_enter Try.func7, Try.ntmps7
  go_wp2_with fail
  refine (spec_PartWord a _ ha).mono ?_
  rintro e w0 ⟨rfl, hb0⟩
  have hc0 := hb0
  rcases hwa : wordB a with _ | _
  · clear hwa
    go_wp2_with fail
    go_ret
    exact ⟨rfl, hc0⟩
  have HWa := Lib.hid hwa
  clear hwa
  go_wp2_with fail
  refine (spec_PartWord b _ hb).mono ?_
  rintro e w1 ⟨rfl, hb1⟩
  have hc1 := hc0.trans (hb1.mono hc0.size)
  rcases hwb : wordB b with _ | _
  · clear hwb
    go_wp2_with fail
    go_ret
    exact ⟨rfl, hc1⟩
  have HWb := Lib.hid hwb
  clear hwb
  go_wp2_with fail
  refine (spec_PartWord c _ hc).mono ?_
  rintro e w2 ⟨rfl, hb2⟩
  have hc2 := hc1.trans (hb2.mono hc1.size)
  rcases hwc : wordB c with _ | _
  · clear hwc
    go_wp2_with fail
    go_ret
    exact ⟨rfl, hc2⟩
  have HWc := Lib.hid hwc
  clear hwc
  go_wp2_with fail
  refine (spec_PartWord d _ hd).mono ?_
  rintro e w3 ⟨rfl, hb3⟩
  have hc3 := hc2.trans (hb3.mono hc2.size)
  rcases hwd : wordB d with _ | _
  · clear hwd
    go_wp2_with fail
    go_ret
    exact ⟨rfl, hc3⟩
  have HWd := Lib.hid hwd
  clear hwd
  go_wp2_with fail
  refine (spec_PartWord p _ hp).mono ?_
  rintro e w4 ⟨rfl, hb4⟩
  have hc4 := hc3.trans (hb4.mono hc3.size)
  rcases hwp : wordB p with _ | _
  · clear hwp
    go_wp2_with fail
    go_ret
    exact ⟨rfl, hc4⟩
  have HWp := Lib.hid hwp
  clear hwp
  go_wp2_with fail
  clear hb0 hb1 hb2 hb3 hb4 hc0 hc1 hc2 hc3
  have HS1 := Lib.hid (show (sp 58 (a ++ (⟨#[58]⟩ : ByteArray) ++ b).data.toList).map mk = [a, b] by
    have e : (a ++ (⟨#[58]⟩ : ByteArray) ++ b).data.toList = a.data.toList ++ 58 :: b.data.toList := by
      rw [ByteArray.data_append, ByteArray.data_append]
      simp
    rw [e, sp_cons 58 _ (wordB_no 58 byteOk_colon a HWa.out), sp_last 58 _ (wordB_no 58 byteOk_colon b HWb.out), List.map_cons, List.map_cons, List.map_nil, mk_of, mk_of])
  have HS2 := Lib.hid (show (sp 58 (c ++ (⟨#[58]⟩ : ByteArray) ++ d ++ (⟨#[58]⟩ : ByteArray) ++ p).data.toList).map mk = [c, d, p] by
    have e : (c ++ (⟨#[58]⟩ : ByteArray) ++ d ++ (⟨#[58]⟩ : ByteArray) ++ p).data.toList = c.data.toList ++ 58 :: (d.data.toList ++ 58 :: p.data.toList) := by
      rw [ByteArray.data_append, ByteArray.data_append, ByteArray.data_append, ByteArray.data_append]
      simp
    rw [e, sp_cons 58 _ (wordB_no 58 byteOk_colon c HWc.out), sp_cons 58 _ (wordB_no 58 byteOk_colon d HWd.out), sp_last 58 _ (wordB_no 58 byteOk_colon p HWp.out), List.map_cons, List.map_cons, List.map_cons, List.map_nil, mk_of, mk_of, mk_of])
  have hn1 : (a ++ (⟨#[58]⟩ : ByteArray) ++ b).size ≤ 4398046511104 := by
    rw [ByteArray.size_append, ByteArray.size_append, show (⟨#[58]⟩ : ByteArray).size = 1 from rfl]
    omega
  have hn2 : (c ++ (⟨#[58]⟩ : ByteArray) ++ d ++ (⟨#[58]⟩ : ByteArray) ++ p).size ≤ 4398046511104 := by
    rw [ByteArray.size_append, ByteArray.size_append, ByteArray.size_append, ByteArray.size_append, show (⟨#[58]⟩ : ByteArray).size = 1 from rfl]
    omega
  refine (spec_T _ _).mono ?_
  rintro e w5 ⟨rfl, hb5⟩
  have hc5 := hc4.trans (hb5.mono hc4.size)
  clear hb5 hc4
  go_wp2_with fail
  refine (laws_to _ _).mono ?_
  rintro e w6 ⟨⟨k6, rfl⟩, hb6⟩
  have hc6 := hc5.trans (hb6.mono hc5.size)
  clear hb6 hc5
  go_wp2_with fail
  refine (impl_IndexDevice _ k6 _ _ _ _ hn1 HS1.out).mono ?_
  rintro e w7 ⟨rfl, hb7⟩
  have hc7 := hc6.trans (hb7.mono hc6.size)
  clear hb7 hc6
  go_wp2_with fail
  refine (spec_T _ _).mono ?_
  rintro e w8 ⟨rfl, hb8⟩
  have hc8 := hc7.trans (hb8.mono hc7.size)
  clear hb8 hc7
  go_wp2_with fail
  refine (laws_to _ _).mono ?_
  rintro e w9 ⟨⟨k9, rfl⟩, hb9⟩
  have hc9 := hc8.trans (hb9.mono hc8.size)
  clear hb9 hc8
  go_wp2_with fail
  refine (impl_IndexDevice _ k9 _ _ _ _ hn2 HS2.out).mono ?_
  rintro e w10 ⟨rfl, hb10⟩
  have hc10 := hc9.trans (hb10.mono hc9.size)
  clear hb10 hc9
  rcases heq : (b.toList == d.toList) with _ | _
  · go_wp2
    go_ret
    exact ⟨rfl, hc10⟩
  · go_wp2
    go_ret
    exact ⟨rfl, hc10⟩
end Go.Proofs.Ytageocibgakhmaa.L
