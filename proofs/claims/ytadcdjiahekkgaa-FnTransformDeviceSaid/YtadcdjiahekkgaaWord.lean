/- Walks: the reference's words: a text of printable bytes without the seven that part things. -/
import Derived.Test.YtadcdjiahekkgaaRows
import Derived.Test.YtadcdjiahekkgaaL
import Derived.Test.YtadcdjiahekkgaaBytes
import Derived.IntWalk
namespace Go.Proofs.Ytadcdjiahekkgaa.L
set_option linter.unusedVariables false
set_option linter.unusedSimpArgs false
set_option linter.unusedSectionVars false
open Go.RowKit

theorem str_at' {w wr : World} {A : Option Addr} {l : List ByteArray} {k : Nat} (hb : Below w.heap.size w wr) (hlt : k < l.length)
    (HV : Hid (0 < l.length → ∃ b o, A = some ⟨b, o, none⟩ ∧ b < w.heap.size ∧ ∀ i, i < l.length → w.cell? ⟨b, o + i, none⟩ = some (.string (l.getD i ByteArray.empty)))) :
    ∃ b o, A = some ⟨b, o, none⟩ ∧ b < w.heap.size ∧ wr.cell? ⟨b, o + k, none⟩ = some (.string (l.getD k ByteArray.empty)) := by
  obtain ⟨b, o, e, hlt', hc⟩ := HV.out (by omega)
  exact ⟨b, o, e, hlt', (hb.cell (p := ⟨b, o + k, none⟩) hlt').trans (hc k hlt)⟩
theorem drop_at' {α : Type} (l : List α) (k : Nat) (h : k < l.length) (d : α) : l.drop k = l.getD k d :: l.drop (k + 1) := by
  rw [List.drop_eq_getElem_cons h, List.getD_eq_getElem?_getD, List.getElem?_eq_getElem h]
  rfl

/-- a row of strings in a block of its own -/
theorem ss_new (w : World) (l : List ByteArray) (t : TypeId) (n : Nat) (hn : l.length = n) (hm : n ≤ maxLen) : SS (w.alloc (Obj.cells (l.map Value.string).toArray t)) (.slice (some ⟨w.heap.size, 0, none⟩) n n) l := by
  subst hn
  refine ⟨some ⟨w.heap.size, 0, none⟩, l.length, rfl, Nat.le_refl _, hm, by simp, fun _ => ⟨w.heap.size, 0, rfl, trivial, by simp, fun i hi => ?_⟩⟩
  rw [List.length_map] at hi
  have hb : (w.alloc (Obj.cells (l.map Value.string).toArray t)).heap[w.heap.size]? = some (Obj.cells (l.map Value.string).toArray t) := by
    show (w.heap.push _)[w.heap.size]? = _
    simp
  simp only [World.cell?, hb]
  rw [List.getD_eq_getElem?_getD, List.getElem?_map, List.getElem?_eq_getElem hi]
  simp [hi]

def inB (s : ByteArray) (l : List ByteArray) : Bool := l.any (fun x => x.toList == s.toList)

set_option maxRecDepth 100000 in
theorem spec_sayIn (s : ByteArray) (l : List ByteArray) (v : Value) (w : World) (hv : SS w v l) :
    Calls Try.prog 44 #[.string s, v] w fun e w' => e = .returned (.bool (inB s l)) ∧ w = w' := by
  obtain ⟨A, c, rfl, h1, h2, h3⟩ := hv.get
  have HV := Lib.hid h3
  clear h3 hv
  unfold maxLen at h2
  go_enter Try.func44, Try.ntmps44
  go_wp2
  go_loop [5] (fun i => ∃ k : Nat, i = .int .i64 k ∧ k ≤ l.length ∧ Hid (inB s l = inB s (l.drop k))) (fun i => l.length - (intOf i).toNat)
  case atStart => exact ⟨0, rfl, Nat.zero_le _, rfl⟩
  case round =>
    obtain ⟨k, rfl, hk, hH⟩ := hrel
    by_cases hlt : k < l.length
    · obtain ⟨pb, po, rfl, hpb, hp⟩ := str_at' (Below.refl _ _) hlt HV
      have st : Hid (inB s (l.drop k) = ((l.getD k ByteArray.empty).toList == s.toList || inB s (l.drop (k + 1)))) := Lib.hid (by rw [drop_at' l k hlt ByteArray.empty]; rfl)
      generalize l.getD k ByteArray.empty = x at *
      rcases hx : (x.toList == s.toList) with _ | _
      · rw [hx] at st
        rw [Bool.false_or] at st
        go_wp2
        go_round
        case rel => exact ⟨k + 1, by go_num, hlt, hH.out.trans st.out⟩
        case measure => simp [intOf]; omega
      · rw [hx] at st
        have X : Hid (inB s l = true) := Lib.hid (by rw [hH.out, st.out]; rfl)
        clear st
        go_wp2
        go_ret
        exact ⟨by rw [X.out]; rfl, rfl⟩
    · have X : Hid (inB s l = false) := Lib.hid (by rw [hH.out, List.drop_of_length_le (by omega)]; rfl)
      go_wp2
      go_ret
      exact ⟨by rw [X.out]; rfl, rfl⟩

/-- the seven bytes that part things -/
def partsB : List ByteArray := [⟨#[61]⟩, ⟨#[36]⟩, ⟨#[58]⟩, ⟨#[34]⟩, ⟨#[39]⟩, ⟨#[92]⟩, ⟨#[126]⟩]
def byteOk (c : UInt8) : Bool := decide (33 ≤ c.toNat) && (decide (c.toNat ≤ 126) && !inB (mk [c]) partsB)
def wordB (s : ByteArray) : Bool := s.data.toList.all byteOk && decide (0 < s.size)

set_option maxHeartbeats 1000000 in
set_option maxRecDepth 100000 in
theorem spec_sayWord (s : ByteArray) (w : World) (hs : s.size ≤ 2147483647) :
    Calls Try.prog 26 #[.string s] w fun e w' => e = .returned (.bool (wordB s)) ∧ Below w.heap.size w w' := by
  go_enter Try.func26, Try.ntmps26
  go_wp2
  go_loopw [3] (fun i wr => ∃ k : Nat, i = .int .i64 k ∧ k ≤ s.size ∧ Hid (s.data.toList.all byteOk = (s.data.toList.drop k).all byteOk) ∧ Below w.heap.size w wr) (fun i _ => s.size - (intOf i).toNat)
  case atStart => exact ⟨0, rfl, Nat.zero_le _, rfl, Below.refl _ _⟩
  case round =>
    obtain ⟨k, rfl, hk, hH, hb⟩ := hrel
    by_cases hlt : k < s.size
    · have st : Hid ((s.data.toList.drop k).all byteOk = (byteOk s[k] && (s.data.toList.drop (k + 1)).all byteOk)) := by
        refine Lib.hid ?_
        have hl : k < s.data.toList.length := by rw [← Lib.size_eq]; exact hlt
        rw [List.drop_eq_getElem_cons hl, List.all_cons]
        rfl
      by_cases h33 : 33 ≤ s[k].toNat
      · have g33 : ¬ (s[k].toNat : Int) < 33 := by omega
        by_cases h126 : s[k].toNat ≤ 126
        · have g126 : ¬ 126 < (s[k].toNat : Int) := by omega
          have hok : byteOk s[k] = !inB (mk [s[k]]) partsB := by
            unfold byteOk
            rw [decide_eq_true h33, decide_eq_true h126]
            simp
          rw [hok] at st
          have hcell : (wr.alloc (Obj.cells #[.int .u8 ((s[k].toNat : Int))] 5)).cell? ⟨wr.heap.size, 0, none⟩ = some (.int .u8 ((s[k].toNat : Int))) := by simp
          have hconv : (convert 70 9 (.slice (some ⟨wr.heap.size, 0, none⟩) 1 1)).run Try.prog (wr.alloc (Obj.cells #[.int .u8 ((s[k].toNat : Int))] 5)) = .ok (.string (mk [s[k]])) (wr.alloc (Obj.cells #[.int .u8 ((s[k].toNat : Int))] 5)) := by
            refine run_string_rd (ok := fun _ => True) (n := 1) (l := [s[k]]) 70 5 9 Try.underlying70 Try.underlying5 Try.underlying9 ?_
            refine ⟨some ⟨wr.heap.size, 0, none⟩, 1, rfl, Nat.le_refl _, by unfold maxLen; decide, by simp, fun _ => ⟨wr.heap.size, 0, rfl, trivial, by simp, fun i hi => ?_⟩⟩
            obtain rfl : i = 0 := by simp at hi; omega
            simp [bv]
          clear hok hcell
          go_wp2_with fail
          have hss := ss_new (wr.alloc (Obj.cells #[.int .u8 (s[k].toNat : Int)] 5)) partsB 9 7 rfl (by unfold maxLen; decide)
          rw [show (wr.alloc (Obj.cells #[.int .u8 (s[k].toNat : Int)] 5)).heap.size = wr.heap.size + 1 from by simp] at hss
          refine (spec_sayIn (mk [s[k]]) partsB _ _ hss).mono ?_
          rintro e w1 ⟨rfl, rfl⟩
          have hb1 := (hb.alloc hb.size (Obj.cells #[.int .u8 (s[k].toNat : Int)] 5)).alloc (by have := hb.size; simp; omega) (Obj.cells (partsB.map Value.string).toArray 9)
          clear hss
          rcases hin : inB (mk [s[k]]) partsB with _ | _
          · rw [hin] at st
            have st' : Hid ((s.data.toList.drop k).all byteOk = (s.data.toList.drop (k + 1)).all byteOk) := Lib.hid (by rw [st.out]; rfl)
            clear st hin hconv
            go_wp2
            go_roundw
            case rel => exact ⟨k + 1, by go_num, hlt, hH.out.trans st'.out, hb1⟩
            case measure => simp [intOf]; omega
          · rw [hin] at st
            have X : Hid (wordB s = false) := Lib.hid (by unfold wordB; rw [hH.out, st.out]; rfl)
            clear st hin hconv
            go_wp2
            go_ret
            exact ⟨by rw [X.out]; rfl, hb1⟩
        · have g126 : 126 < (s[k].toNat : Int) := by omega
          have X : Hid (wordB s = false) := Lib.hid (by unfold wordB; rw [hH.out, st.out]; unfold byteOk; rw [decide_eq_false h126]; simp)
          clear st
          go_wp2
          go_ret
          exact ⟨by rw [X.out]; rfl, hb⟩
      · have g33 : (s[k].toNat : Int) < 33 := by omega
        have X : Hid (wordB s = false) := Lib.hid (by unfold wordB; rw [hH.out, st.out]; unfold byteOk; rw [decide_eq_false h33]; simp)
        clear st
        go_wp2
        go_ret
        exact ⟨by rw [X.out]; rfl, hb⟩
    · have X : Hid (wordB s = decide (0 < s.size)) := Lib.hid (by unfold wordB; rw [hH.out, List.drop_of_length_le (by rw [← Lib.size_eq]; omega)]; simp)
      by_cases h0 : 0 < s.size
      · have hE : (s.toList != []) = true := by have := isEmpty_of_size s; rw [decide_eq_false (by omega)] at this; cases h : s.toList <;> simp_all
        have hE' : s.toList.isEmpty = false := by rw [isEmpty_of_size, decide_eq_false (by omega)]
        rw [decide_eq_true h0] at X
        go_wp2
        go_ret
        exact ⟨by rw [X.out]; rfl, hb⟩
      · have hE : (s.toList != []) = false := by have := isEmpty_of_size s; rw [decide_eq_true (by omega)] at this; cases h : s.toList <;> simp_all
        have hE' : s.toList.isEmpty = true := by rw [isEmpty_of_size, decide_eq_true (by omega)]
        rw [decide_eq_false h0] at X
        go_wp2
        go_ret
        exact ⟨by rw [X.out]; rfl, hb⟩

theorem spec_PartWord (s : ByteArray) (w : World) (hs : s.size ≤ 2147483647) :
    Calls Try.prog 8 #[.string s] w fun e w' => e = .returned (.bool (wordB s)) ∧ Below w.heap.size w w' := by
  go_enter Try.func8, Try.ntmps8
  go_wp2_with (first | (go_at_call 26; refine (spec_sayWord s _ hs).mono ?_; rintro e w1 ⟨rfl, hb⟩))
  go_ret
  exact ⟨rfl, hb⟩
/-- no word holds a colon -/
theorem wordB_no (d : UInt8) (hd : byteOk d = false) (s : ByteArray) (h : wordB s = true) : d ∉ s.data.toList := by
  intro hm
  unfold wordB at h
  simp only [Bool.and_eq_true] at h
  have := List.all_eq_true.1 h.1 d hm
  rw [hd] at this
  cases this
theorem byteOk_colon : byteOk 58 = false := by kernel_rfl
end Go.Proofs.Ytadcdjiahekkgaa.L
