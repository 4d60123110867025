/- The walk of laws.FnPartition. -/
import Derived.Test.YtlncdacoefoldaaGreatDoorSubJ
import Derived.Test.YtlncdacoefoldaaGreatDoorSubH
namespace Go.Proofs.YtlncdacoefoldaaGreatDoor.U
set_option linter.unusedVariables false
set_option linter.unusedSimpArgs false
set_option linter.unusedSectionVars false
open Go.RowKit Go.Proofs.YtlncdacoefoldaaGreatDoorW.PrintWords Go.Proofs.YtlncdacoefoldaaGreatDoorW.PrintLast Go.Proofs.YtlncdacoefoldaaGreatDoor.PX Go.Proofs.YtlncdacoefoldaaGreatDoor.L

theorem impl_part (a b : ByteArray) (w : World) (ha : a.size ≤ 2147483647) (hb : b.size ≤ 2147483647) (hp : 1 ≤ b.size) :
    Calls Tryz.prog 25 #[.string a, .string b] w fun e w' => e = .returned (.tuple #[.string (mk (part b.data.toList a.data.toList).1), .string (mk (part b.data.toList a.data.toList).2)]) ∧ Below w.heap.size w w' := by
  have HP := Lib.hid (partition_l a b (a.size + 1) (by omega) hp (by omega) (Nat.le_refl _))
  clear ha hb hp
  obtain ⟨x, hx⟩ : ∃ x, x = mk (part b.data.toList a.data.toList).1 := ⟨_, rfl⟩
  obtain ⟨y, hy⟩ : ∃ y, y = mk (part b.data.toList a.data.toList).2 := ⟨_, rfl⟩
  rw [← hx, ← hy] at HP ⊢
  clear hx hy
  have HQ : Hid (∀ W : World, Calls Tryz.prog 37 #[.string a, .string b] W fun e w' => e = .returned (.tuple #[.string x, .string y]) ∧ Below W.heap.size W w') := Lib.hid (fun W => by
    go_enter Tryz.func37, Tryz.ntmps37
    go_wp2_with (go_at_call 54; refine (template_partition.calls _ _ _ _ _ _ HP.out).mono ?_; rintro e w2 ⟨rfl, hb2⟩; have HB2 := Aside0.mk hb2; clear hb2)
    go_ret2
    exact ⟨rfl, HB2.out⟩)
  go_enter Tryz.func25, Tryz.ntmps25
  go_wp2_with (go_at_call 37; refine (HQ.out _).mono ?_; rintro e w2 ⟨rfl, hb2⟩; have HB2 := Aside0.mk hb2; clear hb2)
  go_ret2
  exact ⟨rfl, HB2.out⟩
/-- nothing found ahead of a place -/
def NoneYet (sep t : Bs) (i : Nat) : Prop := idx sep t = (idx sep (t.drop i)).map (· + i)
theorem noneYet_zero (sep t : Bs) : NoneYet sep t 0 := by
  unfold NoneYet
  rw [List.drop_zero]
  cases idx sep t <;> rfl
theorem noneYet_next {sep t : Bs} {i : Nat} (h : NoneYet sep t i) (hi : i < t.length) (hn : sep.isPrefixOf (t.drop i) = false) : NoneYet sep t (i + 1) := by
  unfold NoneYet at *
  rw [h, List.drop_eq_getElem_cons hi] at *
  rw [idx]
  rw [hn]
  rw [if_neg (by decide)]
  cases idx sep (t.drop (i + 1)) with
  | none => rfl
  | some j => simp; omega
set_option maxHeartbeats 4000000 in
set_option maxRecDepth 100000 in
theorem law_part_main (a b : ByteArray) (w : World) (ha : a.size ≤ 2147483647) (hb : b.size ≤ 2147483647) (hp : 1 ≤ b.size) :
    Calls Tryz.prog 9 #[.string a, .string b] w fun e w' => e = .returned (.bool true) ∧ Below w.heap.size w w' := by
  have HI := Lib.hid (fun W => impl_part a b W ha hb hp)
  have ha' : ¬ (2147483647 : Int) < (a.size : Int) := by omega
  have hb' : ¬ (2147483647 : Int) < (b.size : Int) := by omega
  have hbe : b.toList.isEmpty = false := by rw [isEmpty_of_size]; exact decide_eq_false (by omega)
  have hbn : b.toList ≠ [] := fun e => by rw [e] at hbe; cases hbe
  have hb2 : (b.toList == []) = false := by simpa using hbn
  obtain ⟨x, hx⟩ : ∃ x, x = mk (part b.data.toList a.data.toList).1 := ⟨_, rfl⟩
  obtain ⟨y, hy⟩ : ∃ y, y = mk (part b.data.toList a.data.toList).2 := ⟨_, rfl⟩
  rw [← hx, ← hy] at HI
  have HX := Lib.hid hx
  have HY := Lib.hid hy
  clear hx hy hbn
  go_enter Tryz.func9, Tryz.ntmps9
  go_wp2_with (go_at_call 25; refine (HI.out _).mono ?_; rintro e w1 ⟨rfl, hb1⟩; have HB1 := Aside0.mk hb1; clear hb1)
  go_loop [7] (fun v7 => ∃ i : Nat, i ≤ a.size ∧ v7 = .int .i64 i ∧ Hid (NoneYet b.data.toList a.data.toList i)) (fun v7 => a.size + 1 - (intOf v7).toNat)
  case atStart => exact ⟨0, Nat.zero_le _, rfl, noneYet_zero _ _⟩
  case round =>
    obtain ⟨i, hi, rfl, HN⟩ := hrel
    have hbl : b.data.toList.length = b.size := by rw [Array.length_toList]; rfl
    have hal : a.data.toList.length = a.size := by rw [Array.length_toList]; rfl
    have HBL := Lib.hid hbl
    have HAL := Lib.hid hal
    clear hbl hal
    have f1 : (0 : Int) ≤ (i : Int) := by omega
    by_cases hlt : i + b.size ≤ a.size
    · have f2 : (i : Int) + (b.size : Int) ≤ (a.size : Int) := by omega
      have f3 : (i : Int) ≤ (i : Int) + (b.size : Int) := by omega
      have hpre := pre_iff a b.data.toList i (by rw [HBL.out]; exact hlt)
      rw [HBL.out] at hpre
      have HPRE := Lib.hid hpre
      clear hpre
      have hbt : b.toList = b.data.toList := by rw [Lib.toList_data]
      by_cases hh : (a.extract i (i + b.size)).toList = b.toList
      · have hidx : idx b.data.toList a.data.toList = some i := by
          have := HN.out
          unfold NoneYet at this
          rw [this]
          have hp : b.data.toList.isPrefixOf (a.data.toList.drop i) = true := HPRE.out.1 (by rw [hh, hbt])
          have hne : a.data.toList.drop i ≠ [] := fun e => by have := congrArg List.length e; rw [List.length_drop, HAL.out] at this; simp at this; omega
          obtain ⟨c, r, hc⟩ := List.exists_cons_of_ne_nil hne
          rw [hc] at hp ⊢
          rw [idx, if_pos hp]
          simp
        have hx2 : x = a.extract 0 i := by rw [HX.out]; unfold part; rw [hidx, extract_start]
        have hy2 : y = a.extract (i + b.size) a.size := by rw [HY.out]; unfold part; rw [hidx, extract_end, ← HBL.out]
        have HX2 := Lib.hid hx2
        have HY2 := Lib.hid hy2
        clear hidx hx2 hy2 hbt HPRE
        have hex : (x.toList == (a.extract 0 i).toList) = true := by rw [HX2.out]; simp
        have hey : (y.toList == (a.extract (i + b.size) a.size).toList) = true := by rw [HY2.out]; simp
        have hbb : ((a.extract i (i + b.size)).toList == b.toList) = true := by rw [hh]; simp
        go_wp2_with (go_at_call 16; refine (laws_lives _).mono ?_; rintro e w7 ⟨rfl, hb7⟩; have HB7 := Aside0.mk (below_then HB1.out HB1.out.size hb7); clear hb7)
        go_ret
        exact ⟨rfl, HB7.out⟩
      · have hbb : ((a.extract i (i + b.size)).toList == b.toList) = false := by simpa using hh
        have hpf : b.data.toList.isPrefixOf (D a i) = false := by
          cases e : b.data.toList.isPrefixOf (D a i)
          · rfl
          · exact absurd ((HPRE.out.2 e).trans hbt.symm) hh
        have HN2 := Lib.hid (noneYet_next HN.out (by rw [HAL.out]; omega) hpf)
        clear hbt HPRE hpf
        go_wp2
        go_round
        case rel => exact ⟨i + 1, by omega, by go_num, HN2⟩
        case measure => simp [intOf]; omega
    · have f2 : ¬ (i : Int) + (b.size : Int) ≤ (a.size : Int) := by omega
      have hidx : idx b.data.toList a.data.toList = none := by
        have := HN.out
        unfold NoneYet at this
        rw [this, idx_none_short _ _ (by rw [List.length_drop, HAL.out, HBL.out]; omega)]
        rfl
      have hx2 : x = a := by rw [HX.out]; unfold part; rw [hidx, mk_of]
      have hy2 : y = ⟨#[]⟩ := by rw [HY.out]; unfold part; rw [hidx]; rfl
      clear hidx HX HY
      subst hx2
      subst hy2
      go_wp2_with (go_at_call 16; refine (laws_lives _).mono ?_; rintro e w7 ⟨rfl, hb7⟩; have HB7 := Aside0.mk (below_then HB1.out HB1.out.size hb7); clear hb7)
      go_ret
      exact ⟨rfl, HB7.out⟩
theorem law_FnPartition (a b : ByteArray) (w : World) :
    Calls Tryz.prog 9 #[.string a, .string b] w fun e w' => e = .returned (.bool true) ∧ Below w.heap.size w w' := by
  by_cases ha : (2147483647 : Int) < (a.size : Int)
  · go_enter Tryz.func9, Tryz.ntmps9
    go_wp2
    go_ret
    exact ⟨rfl, Below.refl _ _⟩
  by_cases hb : (2147483647 : Int) < (b.size : Int)
  · go_enter Tryz.func9, Tryz.ntmps9
    go_wp2
    go_ret
    exact ⟨rfl, Below.refl _ _⟩
  by_cases hp : 1 ≤ b.size
  · exact law_part_main a b w (by omega) (by omega) hp
  · have hbe : b = ⟨#[]⟩ := by
      apply data_inj
      have : b.data.toList.length = b.size := by rw [Array.length_toList]; rfl
      exact List.eq_nil_of_length_eq_zero (by omega)
    subst hbe
    go_enter Tryz.func9, Tryz.ntmps9
    go_wp2_with (go_at_call 16; refine (laws_lives _).mono ?_; rintro e w7 ⟨rfl, hb7⟩; have HB7 := Aside0.mk hb7; clear hb7)
    go_ret
    exact ⟨rfl, HB7.out⟩
end Go.Proofs.YtlncdacoefoldaaGreatDoor.U
