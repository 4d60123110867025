/- Small words of my own: strings by bytes, rows of strings that are read, what is laid below. No statement. -/
import Derived.WalkKit
import Derived.BigQuiet
import Derived.Deep.QuietTactic
import Derived.ProofKit
import Derived.OpenShut
import Derived.ShutString
import Derived.Lib.Hide
import Derived.WalkSpells
import Derived.WalkLawsBesides
import Derived.Lib.IndexMore
import Derived.Lib.Index
import Derived.Lib.IndexLaws
namespace Go.Proofs.YtiamiagjkfioiaaGreatDoor.L
set_option linter.unusedVariables false
set_option linter.unusedSimpArgs false
set_option linter.unusedSectionVars false
open Go.RowKit

/-! ### strings -/
theorem isEmpty_of_size (s : ByteArray) : s.toList.isEmpty = decide (s.size = 0) := by
  rw [← Go.decide_eq_emptyBytes]
  by_cases h : s.size = 0
  · rw [decide_eq_true h, decide_eq_true]
    apply ByteArray.ext
    have h' : s.data.size = 0 := h
    exact Array.eq_empty_of_size_eq_zero h'
  · rw [decide_eq_false h, decide_eq_false]
    rintro rfl
    exact h rfl

/-- a string of a list of bytes -/
def mk (l : List UInt8) : ByteArray := ⟨l.toArray⟩
theorem mk_data (l : List UInt8) : (mk l).data.toList = l := by simp [mk]
theorem mk_size (l : List UInt8) : (mk l).size = l.length := by rw [Lib.size_eq, mk_data]
theorem mk_of (s : ByteArray) : mk s.data.toList = s := Lib.mk_data s
theorem data_inj {s t : ByteArray} (h : s.data.toList = t.data.toList) : s = t := by rw [← mk_of s, ← mk_of t, h]
theorem extract_mk (s : ByteArray) (a b : Nat) : s.extract a b = mk ((s.data.toList.drop a).take (b - a)) := Lib.extract_eq s a b
theorem extract_end (s : ByteArray) (a : Nat) : s.extract a s.size = mk (s.data.toList.drop a) := by
  rw [extract_mk, List.take_of_length_le]
  rw [List.length_drop, ← Lib.size_eq]
  exact Nat.le_refl _
theorem extract_start (s : ByteArray) (b : Nat) : s.extract 0 b = mk (s.data.toList.take b) := by rw [extract_mk, List.drop_zero, Nat.sub_zero]
theorem eq_iff (s t : ByteArray) : (s.toList == t.toList) = decide (s = t) := by
  rw [Lib.toList_data, Lib.toList_data]
  by_cases h : s = t
  · subst h; simp
  · rw [decide_eq_false h, beq_eq_false_iff_ne]
    exact fun e => h (data_inj e)
/-- the byte at a place, as a number; -1 behind the end -/
def at_ (s : ByteArray) (k : Nat) : Int := if h : k < s.size then (s[k].toNat : Int) else -1
theorem getElem_data (s : ByteArray) (k : Nat) (h : k < s.size) : s.data.toList[k]? = some s[k] := by
  rw [Array.getElem?_toList]
  exact Array.getElem?_eq_getElem h

/-! ### worlds -/
/-- what a call lays, told from a later base -/
theorem Below.up {B : Nat} {a b c : World} (h : Below B a b) (k : Below b.heap.size b c) (hB : B ≤ b.heap.size) : Below B a c := h.trans (k.mono hB)

theorem below_un {B : Nat} {w w1 : World} (h : Below B w.drew w1) : Below B w w1 := ⟨h.os, h.tape, h.output, h.size, h.block⟩
/-! ### rows that are read: cells in line -/
/-- n cells in line, from the address on, hold these values; ok: which block they may lie in -/
def RowK (ok : Nat → Prop) (w : World) (A : Option Addr) (xs : List Value) : Prop :=
  0 < xs.length → ∃ b o, A = some ⟨b, o, none⟩ ∧ ok b ∧ b < w.heap.size ∧ ∀ i, i < xs.length → w.cell? ⟨b, o + i, none⟩ = some (xs.getD i undef)
theorem RowK.move {ok ok' : Nat → Prop} {w w' : World} {A : Option Addr} {xs : List Value} (h : RowK ok w A xs) (hm : ∀ b, ok b → b < w.heap.size → w'.heap[b]? = w.heap[b]? ∧ ok' b) (hs : w.heap.size ≤ w'.heap.size) : RowK ok' w' A xs := fun hl => by
  obtain ⟨b, o, e, hok, hlt, hc⟩ := h hl
  obtain ⟨m1, m2⟩ := hm b hok hlt
  exact ⟨b, o, e, m2, Nat.lt_of_lt_of_le hlt hs, fun i hi => by rw [World.cell?_of_block (w := w) m1]; exact hc i hi⟩
theorem RowK.below {ok : Nat → Prop} {w w' : World} {A : Option Addr} {xs : List Value} (h : RowK ok w A xs) (hb : Below w.heap.size w w') : RowK ok w' A xs :=
  h.move (fun b hok hlt => ⟨hb.block b hlt, hok⟩) hb.size
theorem RowK.none (ok : Nat → Prop) (w : World) (A : Option Addr) : RowK ok w A [] := fun h => absurd h (by simp)
theorem RowK.of_own {w : World} {base n size : Nat} {e : TypeId} {v : Value} {xs : List Value} (h : w.ownsRow base e size v n xs) : ∃ A c, v = .slice A n c ∧ n ≤ c ∧ RowK (fun b => base ≤ b) w A xs := by
  obtain ⟨h1, h2⟩ := h
  rcases h2 with ⟨rfl, rfl⟩ | ⟨g, cap, cur, rfl, hg, hh, hn, hc, hz, ht⟩
  · have : xs = [] := by simpa using h1
    subst this
    exact ⟨Option.none, 0, rfl, Nat.le_refl _, RowK.none _ _ _⟩
  · refine ⟨_, cap, rfl, hn, fun hl => ⟨g, 0, rfl, hg, ?_, fun i hi => ?_⟩⟩
    · rcases Nat.lt_or_ge g w.heap.size with h | h
      · exact h
      · rw [Array.getElem?_eq_none h] at hh; cases hh
    · have e1 : w.cell? ⟨g, 0 + i, Option.none⟩ = cur[i]? := by simp [World.cell?, hh]
      rw [e1]
      have e2 : cur[i]? = xs[i]? := by
        rw [← ht, List.getElem?_take, if_pos (by omega), Array.getElem?_toList]
      rw [e2, List.getElem?_eq_getElem hi, List.getD_eq_getElem?_getD, List.getElem?_eq_getElem hi]
      rfl
/-- a slice value that holds these cells, size of each element given -/
def RdK (ok : Nat → Prop) (w : World) (size : Nat) (v : Value) (n : Nat) (xs : List Value) : Prop := ∃ A c, v = .slice A n c ∧ n ≤ c ∧ c ≤ maxLen ∧ xs.length = n * size ∧ RowK ok w A xs
theorem RdK.move {ok ok' : Nat → Prop} {w w' : World} {size n : Nat} {v : Value} {xs : List Value} (h : RdK ok w size v n xs) (hm : ∀ b, ok b → b < w.heap.size → w'.heap[b]? = w.heap[b]? ∧ ok' b) (hs : w.heap.size ≤ w'.heap.size) : RdK ok' w' size v n xs := by
  obtain ⟨A, c, e, h1, h0, h2, h3⟩ := h
  exact ⟨A, c, e, h1, h0, h2, h3.move hm hs⟩
theorem RdK.below {ok : Nat → Prop} {w w' : World} {size n : Nat} {v : Value} {xs : List Value} (h : RdK ok w size v n xs) (hb : Below w.heap.size w w') : RdK ok w' size v n xs :=
  h.move (fun b hok hlt => ⟨hb.block b hlt, hok⟩) hb.size
theorem RdK.of_own {w : World} {base n size : Nat} {e : TypeId} {v : Value} {xs : List Value} (h : w.ownsRow base e size v n xs) : RdK (fun b => base ≤ b) w size v n xs := by
  have h' := h
  obtain ⟨A, c, rfl, h1, h2⟩ := RowK.of_own h
  refine ⟨A, c, rfl, h1, ?_, h'.1, h2⟩
  rcases h'.2 with ⟨e, _⟩ | ⟨g, cap, cur, e, _, _, _, hc, _⟩
  · injection e with _ _ e; rw [e]; exact Nat.zero_le _
  · injection e with _ _ e; rw [e]; exact hc
theorem RdK.nil (ok : Nat → Prop) (w : World) (size : Nat) : RdK ok w size (.slice none 0 0) 0 [] := ⟨none, 0, rfl, Nat.le_refl _, Nat.zero_le _, by simp, RowK.none _ _ _⟩
/-- one more, of fewer blocks -/
theorem RdK.imp {ok ok' : Nat → Prop} {w : World} {size n : Nat} {v : Value} {xs : List Value} (h : RdK ok w size v n xs) (hok : ∀ b, ok b → b < w.heap.size → ok' b) : RdK ok' w size v n xs :=
  h.move (fun b h1 h2 => ⟨rfl, hok b h1 h2⟩) (Nat.le_refl _)

/-- a slice of strings -/
def SSK (ok : Nat → Prop) (w : World) (v : Value) (l : List ByteArray) : Prop := RdK ok w 1 v l.length (l.map .string)
def SS (w : World) (v : Value) (l : List ByteArray) : Prop := SSK (fun _ => True) w v l
theorem SSK.any {ok : Nat → Prop} {w : World} {v : Value} {l : List ByteArray} (h : SSK ok w v l) : SS w v l := RdK.imp h (fun _ _ _ => trivial)
theorem SS.below {w w' : World} {v : Value} {l : List ByteArray} (h : SS w v l) (hb : Below w.heap.size w w') : SS w' v l := RdK.below h hb
theorem SS.nil (w : World) : SS w (.slice none 0 0) [] := RdK.nil _ w 1
theorem SSK.of_own {w : World} {base n : Nat} {e : TypeId} {v : Value} {l : List ByteArray} (h : w.ownsRow base e 1 v n (l.map .string)) : SSK (fun b => base ≤ b) w v l := by
  have hn : n = l.length := by have := h.1; simp at this; omega
  subst hn
  exact RdK.of_own h
theorem SS.of_own {w : World} {base n : Nat} {e : TypeId} {v : Value} {l : List ByteArray} (h : w.ownsRow base e 1 v n (l.map .string)) : SS w v l := (SSK.of_own h).any
/-- the parts of it, for a walk -/
theorem SS.get {w : World} {v : Value} {l : List ByteArray} (h : SS w v l) : ∃ A c, v = .slice A l.length c ∧ l.length ≤ c ∧ c ≤ maxLen ∧
    (0 < l.length → ∃ b o, A = some ⟨b, o, none⟩ ∧ b < w.heap.size ∧ ∀ i, i < l.length → w.cell? ⟨b, o + i, none⟩ = some (.string (l.getD i ByteArray.empty))) := by
  obtain ⟨A, c, rfl, h1, h0, h2, h3⟩ := h
  refine ⟨A, c, rfl, h1, h0, fun hl => ?_⟩
  obtain ⟨b, o, e, _, hb, hc⟩ := h3 (by simpa using hl)
  refine ⟨b, o, e, hb, fun i hi => ?_⟩
  rw [hc i (by simpa using hi)]
  congr 1
  rw [List.getD_eq_getElem?_getD, List.getD_eq_getElem?_getD, List.getElem?_map, List.getElem?_eq_getElem hi]
  rfl
end Go.Proofs.YtiamiagjkfioiaaGreatDoor.L
