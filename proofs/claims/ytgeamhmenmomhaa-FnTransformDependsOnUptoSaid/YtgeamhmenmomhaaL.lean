/- Small words of my own: strings by bytes, rows of strings that are read, what is laid below. No statement. -/
import Derived.WalkKit
import Derived.BigQuiet
import Derived.Deep.QuietTactic
import Derived.ProofKit
import Derived.OpenShut
import Derived.ShutString
import Derived.Lib.Hide
import Derived.WalkSpells
import Derived.WalkLawsBesides
import Derived.Lib.IndexMore
import Derived.Lib.Index
import Derived.Lib.IndexLaws
namespace Go.Proofs.Ytgeamhmenmomhaa.L
set_option linter.unusedVariables false
set_option linter.unusedSimpArgs false
set_option linter.unusedSectionVars false
open Go.RowKit

/-! ### strings -/
/-- a string of a list of bytes -/
def mk (l : List UInt8) : ByteArray := ⟨l.toArray⟩
theorem mk_data (l : List UInt8) : (mk l).data.toList = l := by simp [mk]
theorem mk_size (l : List UInt8) : (mk l).size = l.length := by rw [Lib.size_eq, mk_data]
/-- the byte at a place, as a number; -1 behind the end -/
def at_ (s : ByteArray) (k : Nat) : Int := if h : k < s.size then (s[k].toNat : Int) else -1
/-! ### worlds -/
/-- what a call lays, told from a later base -/
theorem Below.up {B : Nat} {a b c : World} (h : Below B a b) (k : Below b.heap.size b c) (hB : B ≤ b.heap.size) : Below B a c := h.trans (k.mono hB)

theorem below_un {B : Nat} {w w1 : World} (h : Below B w.drew w1) : Below B w w1 := ⟨h.os, h.tape, h.output, h.size, h.block⟩
/-! ### rows that are read: cells in line -/
/-- n cells in line, from the address on, hold these values; ok: which block they may lie in -/
def RowK (ok : Nat → Prop) (w : World) (A : Option Addr) (xs : List Value) : Prop :=
  0 < xs.length → ∃ b o, A = some ⟨b, o, none⟩ ∧ ok b ∧ b < w.heap.size ∧ ∀ i, i < xs.length → w.cell? ⟨b, o + i, none⟩ = some (xs.getD i undef)
theorem RowK.move {ok ok' : Nat → Prop} {w w' : World} {A : Option Addr} {xs : List Value} (h : RowK ok w A xs) (hm : ∀ b, ok b → b < w.heap.size → w'.heap[b]? = w.heap[b]? ∧ ok' b) (hs : w.heap.size ≤ w'.heap.size) : RowK ok' w' A xs := fun hl => by
  obtain ⟨b, o, e, hok, hlt, hc⟩ := h hl
  obtain ⟨m1, m2⟩ := hm b hok hlt
  exact ⟨b, o, e, m2, Nat.lt_of_lt_of_le hlt hs, fun i hi => by rw [World.cell?_of_block (w := w) m1]; exact hc i hi⟩
theorem RowK.below {ok : Nat → Prop} {w w' : World} {A : Option Addr} {xs : List Value} (h : RowK ok w A xs) (hb : Below w.heap.size w w') : RowK ok w' A xs :=
  h.move (fun b hok hlt => ⟨hb.block b hlt, hok⟩) hb.size
theorem RowK.none (ok : Nat → Prop) (w : World) (A : Option Addr) : RowK ok w A [] := fun h => absurd h (by simp)
/-- a slice value that holds these cells, size of each element given -/
def RdK (ok : Nat → Prop) (w : World) (size : Nat) (v : Value) (n : Nat) (xs : List Value) : Prop := ∃ A c, v = .slice A n c ∧ n ≤ c ∧ c ≤ maxLen ∧ xs.length = n * size ∧ RowK ok w A xs
theorem RdK.move {ok ok' : Nat → Prop} {w w' : World} {size n : Nat} {v : Value} {xs : List Value} (h : RdK ok w size v n xs) (hm : ∀ b, ok b → b < w.heap.size → w'.heap[b]? = w.heap[b]? ∧ ok' b) (hs : w.heap.size ≤ w'.heap.size) : RdK ok' w' size v n xs := by
  obtain ⟨A, c, e, h1, h0, h2, h3⟩ := h
  exact ⟨A, c, e, h1, h0, h2, h3.move hm hs⟩
theorem RdK.below {ok : Nat → Prop} {w w' : World} {size n : Nat} {v : Value} {xs : List Value} (h : RdK ok w size v n xs) (hb : Below w.heap.size w w') : RdK ok w' size v n xs :=
  h.move (fun b hok hlt => ⟨hb.block b hlt, hok⟩) hb.size
theorem RdK.nil (ok : Nat → Prop) (w : World) (size : Nat) : RdK ok w size (.slice none 0 0) 0 [] := ⟨none, 0, rfl, Nat.le_refl _, Nat.zero_le _, by simp, RowK.none _ _ _⟩
/-- one more, of fewer blocks -/
theorem RdK.imp {ok ok' : Nat → Prop} {w : World} {size n : Nat} {v : Value} {xs : List Value} (h : RdK ok w size v n xs) (hok : ∀ b, ok b → b < w.heap.size → ok' b) : RdK ok' w size v n xs :=
  h.move (fun b h1 h2 => ⟨rfl, hok b h1 h2⟩) (Nat.le_refl _)

/-- a slice of strings -/
def SSK (ok : Nat → Prop) (w : World) (v : Value) (l : List ByteArray) : Prop := RdK ok w 1 v l.length (l.map .string)
def SS (w : World) (v : Value) (l : List ByteArray) : Prop := SSK (fun _ => True) w v l
theorem SSK.any {ok : Nat → Prop} {w : World} {v : Value} {l : List ByteArray} (h : SSK ok w v l) : SS w v l := RdK.imp h (fun _ _ _ => trivial)
theorem SS.below {w w' : World} {v : Value} {l : List ByteArray} (h : SS w v l) (hb : Below w.heap.size w w') : SS w' v l := RdK.below h hb
theorem SS.nil (w : World) : SS w (.slice none 0 0) [] := RdK.nil _ w 1
/-- the parts of it, for a walk -/
theorem SS.get {w : World} {v : Value} {l : List ByteArray} (h : SS w v l) : ∃ A c, v = .slice A l.length c ∧ l.length ≤ c ∧ c ≤ maxLen ∧
    (0 < l.length → ∃ b o, A = some ⟨b, o, none⟩ ∧ b < w.heap.size ∧ ∀ i, i < l.length → w.cell? ⟨b, o + i, none⟩ = some (.string (l.getD i ByteArray.empty))) := by
  obtain ⟨A, c, rfl, h1, h0, h2, h3⟩ := h
  refine ⟨A, c, rfl, h1, h0, fun hl => ?_⟩
  obtain ⟨b, o, e, _, hb, hc⟩ := h3 (by simpa using hl)
  refine ⟨b, o, e, hb, fun i hi => ?_⟩
  rw [hc i (by simpa using hi)]
  congr 1
  rw [List.getD_eq_getElem?_getD, List.getD_eq_getElem?_getD, List.getElem?_map, List.getElem?_eq_getElem hi]
  rfl
end Go.Proofs.Ytgeamhmenmomhaa.L
