/- Walks: the package's name of a project, whole; the law on it. -/
import Derived.Test.YtageocibgakhmaaDoorNameI
namespace Go.Proofs.YtageocibgakhmaaDoor.L
open Go.RowKit

theorem iterPosOf {w : World} {k : Nat} {s : ByteArray} {p : Nat} (h : w.heap[k]? = some (.stringIter s p)) : w.iterPos k = p := by simp [World.iterPos, h]

set_option maxHeartbeats 1000000 in
set_option maxRecDepth 100000 in
theorem loader_zzTrimLeft (s : ByteArray) (w : World) (hs : s.size ≤ 2147483647) (ha : asciiB s.data.toList = true) :
    Calls Tryd.prog 38 #[.string s, .string ⟨#[95, 45]⟩] w fun e w' => e = .returned (.string (mk (s.data.toList.dropWhile dashB))) ∧ Below w.heap.size w w' := by
  have HA := Lib.hid ha
  clear ha
  go_enter Tryd.func38, Tryd.ntmps38
  go_wp2
  go_loopw [6] (fun _ wr => ∃ pos, wr.heap[w.heap.size]? = some (.stringIter s pos) ∧ pos ≤ s.size ∧ Hid (s.data.toList.dropWhile dashB = (s.data.toList.drop pos).dropWhile dashB) ∧ Below w.heap.size w wr) (fun _ wr => s.size - wr.iterPos w.heap.size)
  case atStart => exact ⟨0, World.iter_heap w s 0, Nat.zero_le _, rfl, (Below.refl _ _).alloc (Nat.le_refl _) _⟩
  case round =>
    obtain ⟨pos, hit, hp, hD, hb⟩ := hrel
    have HI := Lib.hid hit
    have hms := iterPosOf hit
    by_cases hlt : pos < s.size
    · have hl : pos < s.data.toList.length := by rw [← Lib.size_eq]; exact hlt
      have hasc : (s[pos]'hlt).toNat < 128 := by
        have h := List.all_eq_true.1 HA.out (s.data.toList[pos]) (List.getElem_mem hl)
        have e : s.data.toList[pos] = s[pos]'hlt := rfl
        rw [e] at h
        have := of_decide_eq_true h
        omega
      have hnx : ∀ ty, (Instr.next (.pointer (some ⟨w.heap.size, 0, none⟩)) true ty).run Tryd.prog wr = .ok (.tuple #[.bool true, .int .i64 pos, .int .i32 (s[pos]'hlt).toNat]) (wr.iterAt w.heap.size s (pos + 1)) := fun ty => Lib.run_next_ascii_at wr w.heap.size s pos ty hit hlt hasc
      have st : Hid ((s.data.toList.drop pos).dropWhile dashB = if dashB (s[pos]'hlt) then (s.data.toList.drop (pos + 1)).dropWhile dashB else s.data.toList.drop pos) := Lib.hid (by
        rw [List.drop_eq_getElem_cons hl, List.dropWhile_cons]
        rfl)
      have hb2 := Lib.below_iterAt hb (Nat.le_refl _) s (pos + 1)
      have hit2 := Lib.iterAt_heap wr w.heap.size s pos (pos + 1) hit
      have i1 : (0 : Int) ≤ (pos : Int) := by omega
      have i2 : (pos : Int) ≤ (s.size : Int) := by omega
      clear hit hasc hl
      generalize wr.iterAt w.heap.size s (pos + 1) = w2 at *
      have hlt2 : w.heap.size < w2.heap.size := by
        rcases Nat.lt_or_ge w.heap.size w2.heap.size with h | h
        · exact h
        · rw [Array.getElem?_eq_none h] at hit2; cases hit2
      have HI2 := Lib.hid hit2
      clear hit2
      go_wp2_with fail
      refine (loader_zzInSet (s[pos]'hlt) _).mono ?_
      rintro e w3 ⟨rfl, hb3⟩
      have hbb := hb2.trans (hb3.mono hb2.size)
      have HI3 : Hid (w3.heap[w.heap.size]? = some (.stringIter s (pos + 1))) := Lib.hid ((hb3.block _ hlt2).trans HI2.out)
      rcases hd : dashB (s[pos]'hlt) with _ | _
      · have X : Hid (s.data.toList.dropWhile dashB = s.data.toList.drop pos) := Lib.hid (by rw [hD.out, st.out, hd]; rfl)
        clear st hnx hd
        go_wp2
        go_ret
        refine ⟨?_, hbb⟩
        have e : mk (s.data.toList.dropWhile dashB) = s.extract pos s.size := by rw [X.out, extract_end]
        rw [e]
        rfl
      · have X : Hid (s.data.toList.dropWhile dashB = (s.data.toList.drop (pos + 1)).dropWhile dashB) := Lib.hid (by rw [hD.out, st.out, hd]; rfl)
        clear st hnx hd
        go_wp2
        go_roundw
        case rel => exact ⟨pos + 1, HI3.out, hlt, X, hbb⟩
        case measure =>
          have h3 := iterPosOf HI3.out
          rw [h3, hms]
          omega
    · have hnx : ∀ ty, (Instr.next (.pointer (some ⟨w.heap.size, 0, none⟩)) true ty).run Tryd.prog wr = .ok (.tuple #[.bool false]) wr := fun ty => Lib.run_next_end_at wr w.heap.size s pos ty hit hlt
      have X : Hid (s.data.toList.dropWhile dashB = []) := Lib.hid (by rw [hD.out, List.drop_of_length_le (by rw [← Lib.size_eq]; omega)]; rfl)
      clear hit hms
      go_wp2
      go_ret
      exact ⟨by rw [X.out]; rfl, hb⟩

/-- the name, as the package goes to it -/
def pkgName (s : ByteArray) : ByteArray := mk (((s.data.toList.map Lib.lowerB).filter keepB).dropWhile dashB)
theorem pkgName_is (s : ByteArray) : pkgName s = mk (nameL [] s.data.toList) := by unfold pkgName; rw [nameL_is]

theorem keep_ascii (c : UInt8) (h : keepB c = true) : c.toNat ≤ 127 := by
  unfold keepB alnumB dashB at h
  simp only [Bool.or_eq_true, Bool.and_eq_true, decide_eq_true_eq] at h
  omega

set_option maxRecDepth 100000 in
theorem loader_Normalize (s : ByteArray) (w : World) (hs : s.size ≤ 2147483647) (ha : asciiB s.data.toList = true) :
    Calls Tryd.prog 26 #[.string s] w fun e w' => e = .returned (.string (pkgName s)) ∧ Below w.heap.size w w' := by
  have H1 : Hid (∀ (j : Nat) (b : UInt8), s.data.toList[j]? = some b → b.toNat < 128) := Lib.hid fun j b h => by
    have := List.all_eq_true.1 ha b (List.mem_of_getElem? h)
    have := of_decide_eq_true this
    omega
  have e1 : (mk (Lib.toLowerA s.data.toList)).data.toList = s.data.toList.map Lib.lowerB := by rw [mk_data]; rfl
  have z1 : (mk (Lib.toLowerA s.data.toList)).size ≤ 2147483647 := by
    rw [Lib.size_eq, e1, List.length_map, ← Lib.size_eq]; exact hs
  have z2 : (mk ((s.data.toList.map Lib.lowerB).filter keepB)).size ≤ 2147483647 := by
    rw [mk_size]
    refine Nat.le_trans (List.length_filter_le _ _) ?_
    rw [List.length_map, ← Lib.size_eq]; exact hs
  have H2 : Hid (asciiB (mk ((s.data.toList.map Lib.lowerB).filter keepB)).data.toList = true) := Lib.hid (by
    rw [mk_data]
    refine List.all_eq_true.2 fun c hc => decide_eq_true (keep_ascii c ?_)
    exact (List.mem_filter.1 hc).2)
  have E1 := Lib.hid e1
  clear ha e1
  have hs' : s.size ≤ 140737488355328 := by omega
  go_enter Tryd.func26, Tryd.ntmps26
  go_wp2_with fail
  refine (Tryd.strings_ToLower_ascii s _ hs' H1.out).mono ?_
  rintro e w1 ⟨rfl, hb1⟩
  change _ at z1
  go_wp2_with fail
  refine (loader_zzNameChars (mk (Lib.toLowerA s.data.toList)) _ z1).mono ?_
  rintro e w2 ⟨rfl, hb2⟩
  rw [E1.out]
  have hc2 := hb1.trans (hb2.mono hb1.size)
  go_wp2_with fail
  refine (loader_zzTrimLeft _ _ z2 H2.out).mono ?_
  rintro e w3 ⟨rfl, hb3⟩
  rw [mk_data]
  have hc3 := hc2.trans (hb3.mono hc2.size)
  go_wp2
  go_ret
  exact ⟨rfl, hc3⟩

theorem impl_ProjectName (s : ByteArray) (w : World) (hs : s.size ≤ 2147483647) (ha : asciiB s.data.toList = true) :
    Calls Tryd.prog 12 #[.string s] w fun e w' => e = .returned (.string (pkgName s)) ∧ Below w.heap.size w w' := by
  have HA := Lib.hid ha
  clear ha
  go_enter Tryd.func12, Tryd.ntmps12
  go_wp2_with (first | (go_at_call 26; refine (loader_Normalize s _ hs HA.out).mono ?_; rintro e w1 ⟨rfl, hb⟩))
  go_ret
  exact ⟨rfl, hb⟩

set_option maxRecDepth 100000 in
theorem normAwake (w : World) :
    Calls Tryd.prog 13 #[] w fun e w' => e = .returned (.bool true) ∧ Below w.heap.size w w' := by
  have eq : ((pkgName ⟨#[95, 65, 45, 98]⟩).toList == [97, 45, 98]) = true := by kernel_rfl
  have ha : asciiB (⟨#[95, 65, 45, 98]⟩ : ByteArray).data.toList = true := by kernel_rfl
  have HA := Lib.hid ha
  clear ha
  go_enter Tryd.func13, Tryd.ntmps13
  go_wp2_with fail
  refine (impl_ProjectName ⟨#[95, 65, 45, 98]⟩ _ (by decide) HA.out).mono ?_
  rintro e w1 ⟨rfl, hb⟩
  generalize pkgName ⟨#[95, 65, 45, 98]⟩ = x at *
  go_wp2
  go_ret
  exact ⟨rfl, hb⟩

set_option maxRecDepth 100000 in
theorem law_ProjectName (s : ByteArray) (w : World) :
    Calls Tryd.prog 4 #[.string s] w fun e w' => e = .returned (.bool true) ∧ Below w.heap.size w w' := by
  by_cases hs : s.size ≤ 2147483647
  case neg =>
    have g : 2147483647 < (s.size : Int) := by omega
    go_enter Tryd.func4, Tryd.ntmps4
    go_wp2_with fail
    go_ret
    exact ⟨rfl, Below.refl _ _⟩
  have g : ¬ 2147483647 < (s.size : Int) := by omega
  go_enter Tryd.func4, Tryd.ntmps4
  go_wp2_with fail
  refine (spec_ProjectName s _ hs).mono ?_
  rintro e w1 ⟨rfl, hb1⟩
  unfold nameOut
  rcases ha : asciiB s.data.toList with _ | _
  · simp only [Bool.false_eq_true, if_false]
    clear ha
    go_wp2_with fail
    refine (normAwake _).mono ?_
    rintro e w2 ⟨rfl, hb2⟩
    go_wp2
    go_ret
    exact ⟨rfl, hb1.trans (hb2.mono hb1.size)⟩
  · simp only [if_true]
    have HA := Lib.hid ha
    clear ha
    rw [← pkgName_is]
    go_wp2_with fail
    refine (impl_ProjectName s _ hs HA.out).mono ?_
    rintro e w2 ⟨rfl, hb2⟩
    have hc2 := hb1.trans (hb2.mono hb1.size)
    have eq : ((pkgName s).toList == (pkgName s).toList) = true := by simp
    go_wp2_with fail
    refine (normAwake _).mono ?_
    rintro e w3 ⟨rfl, hb3⟩
    go_wp2
    go_ret
    exact ⟨rfl, hc2.trans (hb3.mono hc2.size)⟩
end Go.Proofs.YtageocibgakhmaaDoor.L
