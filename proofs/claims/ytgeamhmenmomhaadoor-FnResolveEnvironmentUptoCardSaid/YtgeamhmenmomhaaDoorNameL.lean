/- Joined texts. -/
import Derived.Test.YtgeamhmenmomhaaDoorL
import Derived.Lib.Case
import Derived.Test.YtgeamhmenmomhaaDoorRows
import Derived.Test.YtgeamhmenmomhaaDoorBytes
import Derived.IntWalk
import Derived.Test.YtgeamhmenmomhaaDoorShelf
import Derived.Test.YtgeamhmenmomhaaDoorLaw
import Derived.Lib.OthersKept
import Derived.WalkSmall
/- Plain: what a project's name is; the two ways to it are one. -/
namespace Go.Proofs.YtgeamhmenmomhaaDoor.L
set_option linter.unusedVariables false
set_option linter.unusedSimpArgs false
set_option linter.unusedSectionVars false
open Go.RowKit

def alnumB (c : UInt8) : Bool := (decide (97 ≤ c.toNat) && decide (c.toNat ≤ 122)) || (decide (48 ≤ c.toNat) && decide (c.toNat ≤ 57))
def dashB (c : UInt8) : Bool := decide (c.toNat = 95) || decide (c.toNat = 45)
def keepB (c : UInt8) : Bool := alnumB c || dashB c
end Go.Proofs.YtgeamhmenmomhaaDoor.L
/- Walks: the package's name of a project, and the law on it. -/
namespace Go.Proofs.YtgeamhmenmomhaaDoor.L
set_option linter.unusedVariables false
set_option linter.unusedSimpArgs false
set_option linter.unusedSectionVars false
open Go.RowKit

set_option maxHeartbeats 4000000 in
set_option maxRecDepth 100000 in
theorem loader_zzNameChars (s : ByteArray) (w : World) (hs : s.size ≤ 2147483647) :
    Calls Tryd.prog 54 #[.string s] w fun e w' => e = .returned (.string (mk (s.data.toList.filter keepB))) ∧ Below w.heap.size w w' := by
  obtain ⟨b0, bi, bz0, bz1, bz2⟩ := info_parts (show (Tryd.prog.info? 5).map (fun i => (i.zero, i.size, i.bytes)) = some (some (.int .u8 0), 1, 1) by kernel_rfl)
  go_enter Tryd.func54, Tryd.ntmps54
  go_wp2
  go_loopw [3, 4] (fun v i wr => ∃ (t : List UInt8) (k : Nat), i = .int .i64 k ∧ k ≤ s.size ∧ t.length ≤ k ∧ wr.ownsRow w.heap.size 5 1 v t.length (t.map bv) ∧ Hid (s.data.toList.filter keepB = t ++ (s.data.toList.drop k).filter keepB) ∧ Below w.heap.size w wr) (fun _ i _ => s.size - (intOf i).toNat)
  case atStart => exact ⟨[], 0, rfl, Nat.zero_le _, Nat.le_refl _, ⟨by simp, .inl ⟨rfl, rfl⟩⟩, rfl, Below.refl _ _⟩
  case round =>
    obtain ⟨t, k, rfl, hk, ht, hown, hN, hb⟩ := hrel
    have hws : w.heap.size ≤ wr.heap.size := hb.size
    by_cases hlt : k < s.size
    · have stN : Hid ((s.data.toList.drop k).filter keepB = if keepB s[k] then s[k] :: (s.data.toList.drop (k + 1)).filter keepB else (s.data.toList.drop (k + 1)).filter keepB) := Lib.hid (by rw [List.drop_eq_getElem_cons (by rw [← Lib.size_eq]; exact hlt), List.filter_cons]; rfl)
      rcases hkp : keepB s[k] with _ | _
      · have st : Hid (s.data.toList.filter keepB = t ++ (s.data.toList.drop (k + 1)).filter keepB) := Lib.hid (by rw [hN.out, stN.out, hkp]; rfl)
        unfold keepB alnumB dashB at hkp
        simp only [Bool.or_eq_false_iff, Bool.and_eq_false_iff, decide_eq_false_iff_not] at hkp
        clear stN hN
        have b7 : ((s[k].toNat : Int) == 45) = false := by rw [beq_eq_false_iff_ne]; omega
        have b8 : ((s[k].toNat : Int) == 95) = false := by rw [beq_eq_false_iff_ne]; omega
        by_cases a3 : (97 : Int) ≤ (s[k].toNat : Int) <;> by_cases a4 : (s[k].toNat : Int) ≤ 122 <;> by_cases a5 : (48 : Int) ≤ (s[k].toNat : Int) <;> by_cases a6 : (s[k].toNat : Int) ≤ 57 <;> try (exfalso; omega)
        all_goals
          clear hkp
          go_wp2
          go_roundw
          case rel => exact ⟨t, k + 1, by go_num, hlt, by omega, hown, st, hb⟩
          case measure => simp [intOf]; omega
      · have st : Hid (s.data.toList.filter keepB = (t ++ [s[k]]) ++ (s.data.toList.drop (k + 1)).filter keepB) := Lib.hid (by rw [hN.out, stN.out, hkp]; simp)
        unfold keepB alnumB dashB at hkp
        simp only [Bool.or_eq_true, Bool.and_eq_true, decide_eq_true_eq] at hkp
        clear stN hN
        rcases b7 : ((s[k].toNat : Int) == 45) with _ | _ <;> rcases b8 : ((s[k].toNat : Int) == 95) with _ | _ <;> by_cases a3 : (97 : Int) ≤ (s[k].toNat : Int) <;> by_cases a4 : (s[k].toNat : Int) ≤ 122 <;> by_cases a5 : (48 : Int) ≤ (s[k].toNat : Int) <;> by_cases a6 : (s[k].toNat : Int) ≤ 57 <;> try (exfalso; simp only [beq_eq_false_iff_ne, beq_iff_eq] at b7 b8; omega)
        all_goals
          clear hkp
          go_wp2_with (first | (at_builtin; refine wpList_append_own _ rfl _ _ 92 rfl w.heap.size 5 b0 (.int .u8 0) 1 1 Tryd.underlying92 bi bz0 bz1 bz2 rfl (by decide) _ _ _ rfl (hown.alloc _) ⟨wr.heap.size, 0, none⟩ 1 1 [.int .u8 (s[k].toNat : Int)] rfl rfl ?c1 ?c2 ?c3 ?c4 ?c5 ?_; (case c1 => exact cell_one_new _ _ _); (case c2 => simp [Value.oneCell']); (case c3 => unfold maxLen; omega); (case c4 => omega); (case c5 => simp; omega); intro v' w1 hown' hgrow _))
          go_roundw
          case rel => exact ⟨t ++ [s[k]], k + 1, by go_num, hlt, by simp; omega, by simpa [bv] using hown', st, (hb.alloc hws _).grown hgrow (by simp; omega) (fun k' hk' => (World.ownsRow.lt hown k' hk').1)⟩
          case measure => simp [intOf]; omega
    · have X : Hid (s.data.toList.filter keepB = t) := Lib.hid (by rw [hN.out, List.drop_of_length_le (by rw [← Lib.size_eq]; omega)]; simp)
      have HO := Lib.hid hown
      clear hN hown
      go_wp2_with (refine wpList_string_own rfl _ 92 5 9 rfl Tryd.underlying92 Tryd.underlying5 Tryd.underlying9 _ rfl _ _ (RdK.of_own HO.out) ?_)
      go_ret
      exact ⟨by rw [X.out]; rfl, hb⟩

def setDash : ByteArray := ⟨#[95, 45]⟩
set_option maxRecDepth 100000 in
theorem loader_zzInSet (c : UInt8) (w : World) :
    Calls Tryd.prog 64 #[.int .i32 (c.toNat : Int), .string ⟨#[95, 45]⟩] w fun e w' => e = .returned (.bool (dashB c)) ∧ Below w.heap.size w w' := by
  have hsz : setDash.size = 2 := rfl
  go_enter Tryd.func64, Tryd.ntmps64
  go_wp2
  go_loopw [6] (fun _ wr => ∃ pos, wr = w.iter setDash pos ∧ pos ≤ 2 ∧ Hid (0 < pos → c.toNat ≠ 95) ∧ Hid (1 < pos → c.toNat ≠ 45)) (fun _ wr => 2 - wr.iterPos w.heap.size)
  case atStart => exact ⟨0, rfl, by omega, Lib.hid (fun h => by omega), Lib.hid (fun h => by omega)⟩
  case round =>
    obtain ⟨pos, rfl, hp, h1, h2⟩ := hrel
    have hbi : Below w.heap.size w (w.iter setDash pos) := (Below.refl _ _).alloc (Nat.le_refl _) _
    have hbi' : ∀ q, Below w.heap.size w (w.iter setDash q) := fun q => (Below.refl _ _).alloc (Nat.le_refl _) _
    have HB := Lib.hid hbi'
    clear hbi hbi'
    match pos, hp with
    | 0, _ =>
      have hnx : ∀ ty, (Instr.next (.pointer (some ⟨w.heap.size, 0, none⟩)) true ty).run Tryd.prog (w.iter setDash 0) = .ok (.tuple #[.bool true, .int .i64 0, .int .i32 95]) (w.iter setDash 1) := fun ty => run_next_ascii w setDash 0 ty (by decide) (by decide)
      rcases he : ((c.toNat : Int) == 95) with _ | _
      · have hc : Hid (0 < 1 → c.toNat ≠ 95) := Lib.hid (fun _ e => by rw [e] at he; cases he)
        go_wp2
        go_roundw
        case rel => exact ⟨1, rfl, by omega, hc, Lib.hid (fun h => by omega)⟩
        case measure => simp
      · have X : Hid (dashB c = true) := Lib.hid (by unfold dashB; rw [decide_eq_true (show c.toNat = 95 by have := eq_of_beq he; omega)]; rfl)
        go_wp2
        go_ret
        exact ⟨by rw [X.out]; rfl, HB.out _⟩
    | 1, _ =>
      have hnx : ∀ ty, (Instr.next (.pointer (some ⟨w.heap.size, 0, none⟩)) true ty).run Tryd.prog (w.iter setDash 1) = .ok (.tuple #[.bool true, .int .i64 1, .int .i32 45]) (w.iter setDash 2) := fun ty => run_next_ascii w setDash 1 ty (by decide) (by decide)
      rcases he : ((c.toNat : Int) == 45) with _ | _
      · have hc : Hid (1 < 2 → c.toNat ≠ 45) := Lib.hid (fun _ e => by rw [e] at he; cases he)
        have hc2 : Hid (0 < 2 → c.toNat ≠ 95) := Lib.hid (fun _ => h1.out (by omega))
        go_wp2
        go_roundw
        case rel => exact ⟨2, rfl, by omega, hc2, hc⟩
        case measure => simp
      · have X : Hid (dashB c = true) := Lib.hid (by unfold dashB; rw [decide_eq_true (show c.toNat = 45 by have := eq_of_beq he; omega)]; simp)
        go_wp2
        go_ret
        exact ⟨by rw [X.out]; rfl, HB.out _⟩
    | 2, _ =>
      have hnx : ∀ ty, (Instr.next (.pointer (some ⟨w.heap.size, 0, none⟩)) true ty).run Tryd.prog (w.iter setDash 2) = .ok (.tuple #[.bool false]) (w.iter setDash 2) := fun ty => run_next_end w setDash 2 ty (by decide)
      have X : Hid (dashB c = false) := Lib.hid (by unfold dashB; rw [decide_eq_false (h1.out (by omega)), decide_eq_false (h2.out (by omega))]; rfl)
      go_wp2
      go_ret
      exact ⟨by rw [X.out]; rfl, HB.out _⟩
    | n + 3, hp => omega
end Go.Proofs.YtgeamhmenmomhaaDoor.L
/- Walks: the package's name of a project, whole; the law on it. -/
namespace Go.Proofs.YtgeamhmenmomhaaDoor.L
set_option linter.unusedVariables false
set_option linter.unusedSimpArgs false
set_option linter.unusedSectionVars false
open Go.RowKit

def asciiB (l : List UInt8) : Bool := l.all (fun c => decide (c.toNat ≤ 127))
theorem iterPosOf {w : World} {k : Nat} {s : ByteArray} {p : Nat} (h : w.heap[k]? = some (.stringIter s p)) : w.iterPos k = p := by simp [World.iterPos, h]

set_option maxHeartbeats 1000000 in
set_option maxRecDepth 100000 in
theorem loader_zzTrimLeft (s : ByteArray) (w : World) (hs : s.size ≤ 2147483647) (ha : asciiB s.data.toList = true) :
    Calls Tryd.prog 55 #[.string s, .string ⟨#[95, 45]⟩] w fun e w' => e = .returned (.string (mk (s.data.toList.dropWhile dashB))) ∧ Below w.heap.size w w' := by
  have HA := Lib.hid ha
  clear ha
  go_enter Tryd.func55, Tryd.ntmps55
  go_wp2
  go_loopw [6] (fun _ wr => ∃ pos, wr.heap[w.heap.size]? = some (.stringIter s pos) ∧ pos ≤ s.size ∧ Hid (s.data.toList.dropWhile dashB = (s.data.toList.drop pos).dropWhile dashB) ∧ Below w.heap.size w wr) (fun _ wr => s.size - wr.iterPos w.heap.size)
  case atStart => exact ⟨0, World.iter_heap w s 0, Nat.zero_le _, rfl, (Below.refl _ _).alloc (Nat.le_refl _) _⟩
  case round =>
    obtain ⟨pos, hit, hp, hD, hb⟩ := hrel
    have HI := Lib.hid hit
    have hms := iterPosOf hit
    by_cases hlt : pos < s.size
    · have hl : pos < s.data.toList.length := by rw [← Lib.size_eq]; exact hlt
      have hasc : (s[pos]'hlt).toNat < 128 := by
        have h := List.all_eq_true.1 HA.out (s.data.toList[pos]) (List.getElem_mem hl)
        have e : s.data.toList[pos] = s[pos]'hlt := rfl
        rw [e] at h
        have := of_decide_eq_true h
        omega
      have hnx : ∀ ty, (Instr.next (.pointer (some ⟨w.heap.size, 0, none⟩)) true ty).run Tryd.prog wr = .ok (.tuple #[.bool true, .int .i64 pos, .int .i32 (s[pos]'hlt).toNat]) (wr.iterAt w.heap.size s (pos + 1)) := fun ty => Lib.run_next_ascii_at wr w.heap.size s pos ty hit hlt hasc
      have st : Hid ((s.data.toList.drop pos).dropWhile dashB = if dashB (s[pos]'hlt) then (s.data.toList.drop (pos + 1)).dropWhile dashB else s.data.toList.drop pos) := Lib.hid (by
        rw [List.drop_eq_getElem_cons hl, List.dropWhile_cons]
        rfl)
      have hb2 := Lib.below_iterAt hb (Nat.le_refl _) s (pos + 1)
      have hit2 := Lib.iterAt_heap wr w.heap.size s pos (pos + 1) hit
      have i1 : (0 : Int) ≤ (pos : Int) := by omega
      have i2 : (pos : Int) ≤ (s.size : Int) := by omega
      clear hit hasc hl
      generalize wr.iterAt w.heap.size s (pos + 1) = w2 at *
      have hlt2 : w.heap.size < w2.heap.size := by
        rcases Nat.lt_or_ge w.heap.size w2.heap.size with h | h
        · exact h
        · rw [Array.getElem?_eq_none h] at hit2; cases hit2
      have HI2 := Lib.hid hit2
      clear hit2
      go_wp2_with fail
      refine (loader_zzInSet (s[pos]'hlt) _).mono ?_
      rintro e w3 ⟨rfl, hb3⟩
      have hbb := hb2.trans (hb3.mono hb2.size)
      have HI3 : Hid (w3.heap[w.heap.size]? = some (.stringIter s (pos + 1))) := Lib.hid ((hb3.block _ hlt2).trans HI2.out)
      rcases hd : dashB (s[pos]'hlt) with _ | _
      · have X : Hid (s.data.toList.dropWhile dashB = s.data.toList.drop pos) := Lib.hid (by rw [hD.out, st.out, hd]; rfl)
        clear st hnx hd
        go_wp2
        go_ret
        refine ⟨?_, hbb⟩
        have e : mk (s.data.toList.dropWhile dashB) = s.extract pos s.size := by rw [X.out, extract_end]
        rw [e]
        rfl
      · have X : Hid (s.data.toList.dropWhile dashB = (s.data.toList.drop (pos + 1)).dropWhile dashB) := Lib.hid (by rw [hD.out, st.out, hd]; rfl)
        clear st hnx hd
        go_wp2
        go_roundw
        case rel => exact ⟨pos + 1, HI3.out, hlt, X, hbb⟩
        case measure =>
          have h3 := iterPosOf HI3.out
          rw [h3, hms]
          omega
    · have hnx : ∀ ty, (Instr.next (.pointer (some ⟨w.heap.size, 0, none⟩)) true ty).run Tryd.prog wr = .ok (.tuple #[.bool false]) wr := fun ty => Lib.run_next_end_at wr w.heap.size s pos ty hit hlt
      have X : Hid (s.data.toList.dropWhile dashB = []) := Lib.hid (by rw [hD.out, List.drop_of_length_le (by rw [← Lib.size_eq]; omega)]; rfl)
      clear hit hms
      go_wp2
      go_ret
      exact ⟨by rw [X.out]; rfl, hb⟩

/-- the name, as the package goes to it -/
def pkgName (s : ByteArray) : ByteArray := mk (((s.data.toList.map Lib.lowerB).filter keepB).dropWhile dashB)
theorem keep_ascii (c : UInt8) (h : keepB c = true) : c.toNat ≤ 127 := by
  unfold keepB alnumB dashB at h
  simp only [Bool.or_eq_true, Bool.and_eq_true, decide_eq_true_eq] at h
  omega

set_option maxRecDepth 100000 in
theorem loader_Normalize (s : ByteArray) (w : World) (hs : s.size ≤ 2147483647) (ha : asciiB s.data.toList = true) :
    Calls Tryd.prog 43 #[.string s] w fun e w' => e = .returned (.string (pkgName s)) ∧ Below w.heap.size w w' := by
  have H1 : Hid (∀ (j : Nat) (b : UInt8), s.data.toList[j]? = some b → b.toNat < 128) := Lib.hid fun j b h => by
    have := List.all_eq_true.1 ha b (List.mem_of_getElem? h)
    have := of_decide_eq_true this
    omega
  have e1 : (mk (Lib.toLowerA s.data.toList)).data.toList = s.data.toList.map Lib.lowerB := by rw [mk_data]; rfl
  have z1 : (mk (Lib.toLowerA s.data.toList)).size ≤ 2147483647 := by
    rw [Lib.size_eq, e1, List.length_map, ← Lib.size_eq]; exact hs
  have z2 : (mk ((s.data.toList.map Lib.lowerB).filter keepB)).size ≤ 2147483647 := by
    rw [mk_size]
    refine Nat.le_trans (List.length_filter_le _ _) ?_
    rw [List.length_map, ← Lib.size_eq]; exact hs
  have H2 : Hid (asciiB (mk ((s.data.toList.map Lib.lowerB).filter keepB)).data.toList = true) := Lib.hid (by
    rw [mk_data]
    refine List.all_eq_true.2 fun c hc => decide_eq_true (keep_ascii c ?_)
    exact (List.mem_filter.1 hc).2)
  have E1 := Lib.hid e1
  clear ha e1
  have hs' : s.size ≤ 140737488355328 := by omega
  go_enter Tryd.func43, Tryd.ntmps43
  go_wp2_with fail
  refine (Tryd.strings_ToLower_ascii s _ hs' H1.out).mono ?_
  rintro e w1 ⟨rfl, hb1⟩
  change _ at z1
  go_wp2_with fail
  refine (loader_zzNameChars (mk (Lib.toLowerA s.data.toList)) _ z1).mono ?_
  rintro e w2 ⟨rfl, hb2⟩
  rw [E1.out]
  have hc2 := hb1.trans (hb2.mono hb1.size)
  go_wp2_with fail
  refine (loader_zzTrimLeft _ _ z2 H2.out).mono ?_
  rintro e w3 ⟨rfl, hb3⟩
  rw [mk_data]
  have hc3 := hc2.trans (hb3.mono hc2.size)
  go_wp2
  go_ret
  exact ⟨rfl, hc3⟩

theorem impl_ProjectName (s : ByteArray) (w : World) (hs : s.size ≤ 2147483647) (ha : asciiB s.data.toList = true) :
    Calls Tryd.prog 28 #[.string s] w fun e w' => e = .returned (.string (pkgName s)) ∧ Below w.heap.size w w' := by
  have HA := Lib.hid ha
  clear ha
  go_enter Tryd.func28, Tryd.ntmps28
  go_wp2_with (first | (go_at_call 43; refine (loader_Normalize s _ hs HA.out).mono ?_; rintro e w1 ⟨rfl, hb⟩))
  go_ret
  exact ⟨rfl, hb⟩

set_option maxRecDepth 100000 in
theorem normAwake (w : World) :
    Calls Tryd.prog 10 #[] w fun e w' => e = .returned (.bool true) ∧ Below w.heap.size w w' := by
  have eq : ((pkgName ⟨#[95, 65, 45, 98]⟩).toList == [97, 45, 98]) = true := by kernel_rfl
  have ha : asciiB (⟨#[95, 65, 45, 98]⟩ : ByteArray).data.toList = true := by kernel_rfl
  have HA := Lib.hid ha
  clear ha
  go_enter Tryd.func10, Tryd.ntmps10
  go_wp2_with fail
  refine (impl_ProjectName ⟨#[95, 65, 45, 98]⟩ _ (by decide) HA.out).mono ?_
  rintro e w1 ⟨rfl, hb⟩
  generalize pkgName ⟨#[95, 65, 45, 98]⟩ = x at *
  go_wp2
  go_ret
  exact ⟨rfl, hb⟩
end Go.Proofs.YtgeamhmenmomhaaDoor.L
