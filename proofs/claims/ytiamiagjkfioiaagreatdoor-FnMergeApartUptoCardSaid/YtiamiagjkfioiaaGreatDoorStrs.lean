/- sort.Strings of a row of one's own: the row then holds the same texts, rising. -/
import Derived.Test.YtiamiagjkfioiaaGreatDoorShelf
import Derived.Test.YtiamiagjkfioiaaGreatDoorSort
import Derived.Test.YtiamiagjkfioiaaGreatDoorOrd
import Derived.Test.YtiamiagjkfioiaaGreatDoorWLast
import Derived.Lib.Hide
import Derived.Outline
namespace Go.Proofs.YtiamiagjkfioiaaGreatDoor.Srt
set_option linter.unusedVariables false
set_option linter.unusedSimpArgs false
set_option linter.unusedSectionVars false
open Go.RowKit Go.Shelf Go.Lib Go.Sort Go.Proofs.YtiamiagjkfioiaaGreatDoorW.PrintWords Go.Proofs.YtiamiagjkfioiaaGreatDoorW.PrintLast

def encB (l : List UInt8) : List Value := [encStr l]
theorem flat_one (d : Array (List UInt8)) : flatK encB 1 d = d.map encStr := by
  apply Array.ext
  · simp [flatK]
  · intro i h1 h2
    have hi : i < d.size := by simpa using h2
    simp only [flatK, Array.getElem_map, Array.getElem_range, Nat.div_one, Nat.mod_one, getElem!_pos d i hi, encB]
    rfl
theorem putRow_one (w : World) (blk : Nat) (d : Array (List UInt8)) : putRow encStr w blk 0 d = putRowK encB 1 w blk 0 d := by
  unfold putRowK putRow
  rw [flat_one]
  congr 1
  funext c
  unfold putCells
  congr 1
  funext k x
  simp only [Array.size_map, Nat.zero_le, true_and, Nat.zero_add, Nat.sub_zero, id]
  by_cases h : k < d.size
  · rw [if_pos h, if_pos h, getElem!_pos d k h, getElem!_pos (d.map encStr) k (by simpa using h), Array.getElem_map]
  · rw [if_neg h, if_neg h]
theorem holds_one {w : World} {blk : Nat} {d : Array (List UInt8)} (h : HoldsK encB 1 w blk 0 d) : Holds encStr w blk 0 d := by
  intro j hj
  unfold HoldsK at h
  rw [flat_one] at h
  have := h j (by simpa using hj)
  rw [getElem!_pos (d.map encStr) j (by simpa using hj), Array.getElem_map, id] at this
  rw [getElem!_pos d j hj]
  exact this
theorem encStr_toList (s : ByteArray) : encStr s.toList = Value.string s := by
  have : s.toList = s.data.toList := Lib.toList_data s
  unfold encStr
  rw [this]
theorem flat_str (l : List ByteArray) : (l.map ByteArray.toList).flatMap encB = l.map Value.string := by
  induction l with
  | nil => rfl
  | cons x l ih => rw [List.map_cons, List.flatMap_cons, ih, List.map_cons, encB, encStr_toList]; rfl
theorem sorted_str (l : List ByteArray) : ((l.map ByteArray.toList).mergeSort fun x y => decide (x ≤ y)) = (Ord.sortS l).map ByteArray.toList := by
  unfold Ord.sortS
  refine (List.map_mergeSort (fun a _ b _ => ?_)).symm
  rw [Ord.lt, bytesLess_eq, Bool.eq_iff_iff]
  simp [List.not_lt]
theorem strings_own {P : Program} {ρ : Ren} (Ly : Lays.n192 P ρ) {W : World} {base e : Nat} {v : Value} {l : List ByteArray} (hown : W.ownsRow base e 1 v l.length (l.map Value.string)) (hlen : l.length < 4611686018427387904) :
    Calls P (ρ.f 192) #[v] W fun en w' => en = .returned (.tuple #[]) ∧ w'.ownsRow base e 1 v (Ord.sortS l).length ((Ord.sortS l).map Value.string) ∧ W.grownBy w' v.ownBlock := by
  by_cases hz : l.length = 0
  · have h0 : l = [] := List.eq_nil_of_length_eq_zero hz
    subst h0
    obtain ⟨A, c, rfl⟩ := own_slice hown
    refine (Any.sort_Strings_none Ly A c W).mono ?_
    rintro en w' ⟨rfl, rfl⟩
    refine ⟨rfl, ?_, ⟨rfl, rfl, rfl, Nat.le_refl _, fun _ _ _ => rfl⟩⟩
    have : Ord.sortS [] = [] := by simp [Ord.sortS]
    rw [this]; exact hown
  · obtain ⟨gb, cap, rfl, hgb, hgl⟩ := World.ownsRow.form hown (by omega)
    have hown2 := hown
    rw [← flat_str] at hown2
    have hk : ∀ x, (encB x).length = 1 := fun _ => rfl
    have hH := holds_one (holds_own (l := l.map ByteArray.toList) hk (by decide) (by simp) hown2)
    have hS := Any.sort_Strings Ly gb 0 cap (l.map ByteArray.toList) W hH hgl (by simpa using hlen)
    rw [List.length_map] at hS
    refine hS.mono ?_
    rintro en w' ⟨rfl, n, os, rfl⟩
    rw [putRow_one, sorted_str]
    have hl2 : ((Ord.sortS l).map ByteArray.toList).length = l.length := by rw [List.length_map, Ord.sortS_length]
    refine ⟨rfl, ?_, grown_sorted _⟩
    rw [Ord.sortS_length, ← flat_str]
    exact own_sorted (q := n) (os := os) (l := l.map ByteArray.toList) hk (by decide) (by simp) hl2 hown2
theorem flatS : ∀ l : List ByteArray, l.map Value.string = l.flatMap (fun s => [Value.string s])
  | [] => rfl
  | x :: l => by rw [List.map_cons, List.flatMap_cons, flatS l]; rfl
theorem ownS {w : World} {base e : Nat} {v : Value} {l : List ByteArray} {ok : Nat → Prop} (h : Kd.R Kd.string e w base ok v l) : w.ownsRow base e 1 v l.length (l.map Value.string) := by
  obtain ⟨_, inner, ho, hr⟩ := h
  have := flat_of_reps (enc := fun s => [Value.string s]) (k := 1) (fun x cs hx => hx) (fun _ => rfl) (by decide) hr
  rw [flatS, ← this]
  exact ho
theorem kdS {w : World} {base e : Nat} {v : Value} {l : List ByteArray} (h : w.ownsRow base e 1 v l.length (l.map Value.string)) : Kd.R Kd.string e w base (fun _ => True) v l := by
  rw [flatS] at h
  exact ⟨fun _ _ => trivial, _, h, reps_of_flat (R := Kd.string.M w base fun k => True ∧ some k ≠ v.ownBlock) (enc := fun s => [Value.string s]) (k := 1) (fun x => rfl) (fun _ => rfl) l⟩
end Go.Proofs.YtiamiagjkfioiaaGreatDoor.Srt
