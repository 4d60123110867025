/- Walks: the package's name of a project, and the law on it. -/
import Derived.Test.YtageocibgakhmaaDoorNameW
import Derived.Test.YtageocibgakhmaaDoorShelf
import Derived.Test.YtageocibgakhmaaDoorLaw
import Derived.Lib.OthersKept
import Derived.WalkSmall
namespace Go.Proofs.YtageocibgakhmaaDoor.L
open Go.RowKit

set_option maxHeartbeats 4000000 in
set_option maxRecDepth 100000 in
theorem loader_zzNameChars (s : ByteArray) (w : World) (hs : s.size ≤ 2147483647) :
    Calls Tryd.prog 37 #[.string s] w fun e w' => e = .returned (.string (mk (s.data.toList.filter keepB))) ∧ Below w.heap.size w w' := by
  obtain ⟨b0, bi, bz0, bz1, bz2⟩ := info_parts (show (Tryd.prog.info? 5).map (fun i => (i.zero, i.size, i.bytes)) = some (some (.int .u8 0), 1, 1) by kernel_rfl)
  go_enter Tryd.func37, Tryd.ntmps37
  go_wp2
  go_loopw [3, 4] (fun v i wr => ∃ (t : List UInt8) (k : Nat), i = .int .i64 k ∧ k ≤ s.size ∧ t.length ≤ k ∧ wr.ownsRow w.heap.size 5 1 v t.length (t.map bv) ∧ Hid (s.data.toList.filter keepB = t ++ (s.data.toList.drop k).filter keepB) ∧ Below w.heap.size w wr) (fun _ i _ => s.size - (intOf i).toNat)
  case atStart => exact ⟨[], 0, rfl, Nat.zero_le _, Nat.le_refl _, ⟨by simp, .inl ⟨rfl, rfl⟩⟩, rfl, Below.refl _ _⟩
  case round =>
    obtain ⟨t, k, rfl, hk, ht, hown, hN, hb⟩ := hrel
    have hws : w.heap.size ≤ wr.heap.size := hb.size
    by_cases hlt : k < s.size
    · have stN : Hid ((s.data.toList.drop k).filter keepB = if keepB s[k] then s[k] :: (s.data.toList.drop (k + 1)).filter keepB else (s.data.toList.drop (k + 1)).filter keepB) := Lib.hid (by rw [List.drop_eq_getElem_cons (by rw [← Lib.size_eq]; exact hlt), List.filter_cons]; rfl)
      rcases hkp : keepB s[k] with _ | _
      · have st : Hid (s.data.toList.filter keepB = t ++ (s.data.toList.drop (k + 1)).filter keepB) := Lib.hid (by rw [hN.out, stN.out, hkp]; rfl)
        unfold keepB alnumB dashB at hkp
        simp only [Bool.or_eq_false_iff, Bool.and_eq_false_iff, decide_eq_false_iff_not] at hkp
        clear stN hN
        have b7 : ((s[k].toNat : Int) == 45) = false := by rw [beq_eq_false_iff_ne]; omega
        have b8 : ((s[k].toNat : Int) == 95) = false := by rw [beq_eq_false_iff_ne]; omega
        by_cases a3 : (97 : Int) ≤ (s[k].toNat : Int) <;> by_cases a4 : (s[k].toNat : Int) ≤ 122 <;> by_cases a5 : (48 : Int) ≤ (s[k].toNat : Int) <;> by_cases a6 : (s[k].toNat : Int) ≤ 57 <;> try (exfalso; omega)
        all_goals
          clear hkp
          go_wp2
          go_roundw
          case rel => exact ⟨t, k + 1, by go_num, hlt, by omega, hown, st, hb⟩
          case measure => simp [intOf]; omega
      · have st : Hid (s.data.toList.filter keepB = (t ++ [s[k]]) ++ (s.data.toList.drop (k + 1)).filter keepB) := Lib.hid (by rw [hN.out, stN.out, hkp]; simp)
        unfold keepB alnumB dashB at hkp
        simp only [Bool.or_eq_true, Bool.and_eq_true, decide_eq_true_eq] at hkp
        clear stN hN
        rcases b7 : ((s[k].toNat : Int) == 45) with _ | _ <;> rcases b8 : ((s[k].toNat : Int) == 95) with _ | _ <;> by_cases a3 : (97 : Int) ≤ (s[k].toNat : Int) <;> by_cases a4 : (s[k].toNat : Int) ≤ 122 <;> by_cases a5 : (48 : Int) ≤ (s[k].toNat : Int) <;> by_cases a6 : (s[k].toNat : Int) ≤ 57 <;> try (exfalso; simp only [beq_eq_false_iff_ne, beq_iff_eq] at b7 b8; omega)
        all_goals
          clear hkp
          go_wp2_with (first | (at_builtin; refine wpList_append_own _ rfl _ _ 60 rfl w.heap.size 5 b0 (.int .u8 0) 1 1 Tryd.underlying60 bi bz0 bz1 bz2 rfl (by decide) _ _ _ rfl (hown.alloc _) ⟨wr.heap.size, 0, none⟩ 1 1 [.int .u8 (s[k].toNat : Int)] rfl rfl ?c1 ?c2 ?c3 ?c4 ?c5 ?_; (case c1 => exact cell_one_new _ _ _); (case c2 => simp [Value.oneCell']); (case c3 => unfold maxLen; omega); (case c4 => omega); (case c5 => simp; omega); intro v' w1 hown' hgrow _))
          go_roundw
          case rel => exact ⟨t ++ [s[k]], k + 1, by go_num, hlt, by simp; omega, by simpa [bv] using hown', st, (hb.alloc hws _).grown hgrow (by simp; omega) (fun k' hk' => (World.ownsRow.lt hown k' hk').1)⟩
          case measure => simp [intOf]; omega
    · have X : Hid (s.data.toList.filter keepB = t) := Lib.hid (by rw [hN.out, List.drop_of_length_le (by rw [← Lib.size_eq]; omega)]; simp)
      have HO := Lib.hid hown
      clear hN hown
      go_wp2_with (refine wpList_string_own rfl _ 60 5 9 rfl Tryd.underlying60 Tryd.underlying5 Tryd.underlying9 _ rfl _ _ (RdK.of_own HO.out) ?_)
      go_ret
      exact ⟨by rw [X.out]; rfl, hb⟩

def setDash : ByteArray := ⟨#[95, 45]⟩
set_option maxRecDepth 100000 in
theorem loader_zzInSet (c : UInt8) (w : World) :
    Calls Tryd.prog 54 #[.int .i32 (c.toNat : Int), .string ⟨#[95, 45]⟩] w fun e w' => e = .returned (.bool (dashB c)) ∧ Below w.heap.size w w' := by
  have hsz : setDash.size = 2 := rfl
  go_enter Tryd.func54, Tryd.ntmps54
  go_wp2
  go_loopw [6] (fun _ wr => ∃ pos, wr = w.iter setDash pos ∧ pos ≤ 2 ∧ Hid (0 < pos → c.toNat ≠ 95) ∧ Hid (1 < pos → c.toNat ≠ 45)) (fun _ wr => 2 - wr.iterPos w.heap.size)
  case atStart => exact ⟨0, rfl, by omega, Lib.hid (fun h => by omega), Lib.hid (fun h => by omega)⟩
  case round =>
    obtain ⟨pos, rfl, hp, h1, h2⟩ := hrel
    have hbi : Below w.heap.size w (w.iter setDash pos) := (Below.refl _ _).alloc (Nat.le_refl _) _
    have hbi' : ∀ q, Below w.heap.size w (w.iter setDash q) := fun q => (Below.refl _ _).alloc (Nat.le_refl _) _
    have HB := Lib.hid hbi'
    clear hbi hbi'
    match pos, hp with
    | 0, _ =>
      have hnx : ∀ ty, (Instr.next (.pointer (some ⟨w.heap.size, 0, none⟩)) true ty).run Tryd.prog (w.iter setDash 0) = .ok (.tuple #[.bool true, .int .i64 0, .int .i32 95]) (w.iter setDash 1) := fun ty => run_next_ascii w setDash 0 ty (by decide) (by decide)
      rcases he : ((c.toNat : Int) == 95) with _ | _
      · have hc : Hid (0 < 1 → c.toNat ≠ 95) := Lib.hid (fun _ e => by rw [e] at he; cases he)
        go_wp2
        go_roundw
        case rel => exact ⟨1, rfl, by omega, hc, Lib.hid (fun h => by omega)⟩
        case measure => simp
      · have X : Hid (dashB c = true) := Lib.hid (by unfold dashB; rw [decide_eq_true (show c.toNat = 95 by have := eq_of_beq he; omega)]; rfl)
        go_wp2
        go_ret
        exact ⟨by rw [X.out]; rfl, HB.out _⟩
    | 1, _ =>
      have hnx : ∀ ty, (Instr.next (.pointer (some ⟨w.heap.size, 0, none⟩)) true ty).run Tryd.prog (w.iter setDash 1) = .ok (.tuple #[.bool true, .int .i64 1, .int .i32 45]) (w.iter setDash 2) := fun ty => run_next_ascii w setDash 1 ty (by decide) (by decide)
      rcases he : ((c.toNat : Int) == 45) with _ | _
      · have hc : Hid (1 < 2 → c.toNat ≠ 45) := Lib.hid (fun _ e => by rw [e] at he; cases he)
        have hc2 : Hid (0 < 2 → c.toNat ≠ 95) := Lib.hid (fun _ => h1.out (by omega))
        go_wp2
        go_roundw
        case rel => exact ⟨2, rfl, by omega, hc2, hc⟩
        case measure => simp
      · have X : Hid (dashB c = true) := Lib.hid (by unfold dashB; rw [decide_eq_true (show c.toNat = 45 by have := eq_of_beq he; omega)]; simp)
        go_wp2
        go_ret
        exact ⟨by rw [X.out]; rfl, HB.out _⟩
    | 2, _ =>
      have hnx : ∀ ty, (Instr.next (.pointer (some ⟨w.heap.size, 0, none⟩)) true ty).run Tryd.prog (w.iter setDash 2) = .ok (.tuple #[.bool false]) (w.iter setDash 2) := fun ty => run_next_end w setDash 2 ty (by decide)
      have X : Hid (dashB c = false) := Lib.hid (by unfold dashB; rw [decide_eq_false (h1.out (by omega)), decide_eq_false (h2.out (by omega))]; rfl)
      go_wp2
      go_ret
      exact ⟨by rw [X.out]; rfl, HB.out _⟩
    | n + 3, hp => omega
end Go.Proofs.YtageocibgakhmaaDoor.L
