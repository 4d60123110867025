/- sort.Slice on a row of one's own, elements of k cells: what the row holds behind it. No program of ours. -/
import Derived.Shelf.SlSortFuncK.WholeK
import Derived.Shelf.GgSortFunc.Tiny
import Derived.Sort.OwnSorted
import Derived.Test.YtiamiagjkfioiaaGreatDoorWWords
namespace Go.Proofs.YtiamiagjkfioiaaGreatDoor.Srt
set_option linter.unusedVariables false
set_option linter.unusedSimpArgs false
set_option linter.unusedSectionVars false
open Go.Shelf Go.RowKit Go.Lib Go.Sort Go.Proofs.YtiamiagjkfioiaaGreatDoorW.PrintWords

section
variable {α : Type} [Inhabited α] {enc : α → List Value} {k : Nat}
theorem get_flat (hk : ∀ x, (enc x).length = k) (h0 : 0 < k) : ∀ (l : List α) (t : Nat), t < l.length * k → (l.flatMap enc)[t]? = some ((enc l.toArray[t / k]!)[t % k]!)
  | [], t, h => by simp at h
  | x :: l, t, h => by
    rw [List.flatMap_cons]
    rcases Nat.lt_or_ge t k with hlt | hge
    · rw [List.getElem?_append_left (by rw [hk]; exact hlt), Nat.div_eq_of_lt hlt, Nat.mod_eq_of_lt hlt]
      have : t < (enc x).length := by rw [hk]; exact hlt
      rw [List.getElem?_eq_getElem this]
      simp [this]
    · rw [List.getElem?_append_right (by rw [hk]; exact hge), hk]
      have h1 : t - k < l.length * k := by rw [List.length_cons, Nat.add_mul] at h; omega
      rw [get_flat hk h0 l (t - k) h1]
      have e1 : t / k = (t - k) / k + 1 := by
        have : t = (t - k) + k := by omega
        conv => lhs; rw [this]
        rw [Nat.add_div_right _ h0]
      have e2 : t % k = (t - k) % k := by
        have : t = (t - k) + k := by omega
        conv => lhs; rw [this]
        rw [Nat.add_mod_right]
      rw [e1, e2]
      simp
theorem flatK_toList (hk : ∀ x, (enc x).length = k) (h0 : 0 < k) (l : List α) : (flatK enc k l.toArray).toList = l.flatMap enc := by
  apply List.ext_getElem?
  intro t
  rcases Nat.lt_or_ge t (l.length * k) with h | h
  · rw [get_flat hk h0 l t h, Array.getElem?_toList]
    simp [flatK, h]
  · have hl : (l.flatMap enc).length = l.length * k := by
      clear h
      induction l with
      | nil => simp
      | cons x l ih => rw [List.flatMap_cons, List.length_append, ih, hk, List.length_cons, Nat.add_mul]; omega
    rw [List.getElem?_eq_none (by simpa using h), List.getElem?_eq_none (by omega)]
theorem holds_own {W : World} {base e g n cap : Nat} {l : List α} (hk : ∀ x, (enc x).length = k) (h0 : 0 < k) (hl : l.length = n) (h : W.ownsRow base e k (.slice (some ⟨g, 0, none⟩) n cap) n (l.flatMap enc)) : HoldsK enc k W g 0 l.toArray := by
  intro j hj
  have hj' : j < l.length * k := by simpa using hj
  rcases h.2 with ⟨h1, _⟩ | ⟨g', cap', cur, h1, _, hb, hn, _, hz, ht⟩
  · cases h1
  · injection h1 with h1 h2
    injection h1 with h1
    injection h1 with h1
    subst h1
    refine ⟨?_, by simp [World.frozen?, hb]⟩
    have h3 : (cur.toList.take (n * k))[j]? = (l.flatMap enc)[j]? := by rw [ht]
    rw [List.getElem?_take_of_lt (by rw [← hl]; exact hj'), get_flat hk h0 l j hj', Array.getElem?_toList] at h3
    rw [get_flatK enc k l.toArray j (by simpa using hj')]
    simp only [World.cell?, hb, Nat.zero_add]
    simp only [Option.isSome_none, Bool.false_eq_true, if_false]
    exact h3
theorem grown_sorted {W : World} {g q : Nat} {os : Array Obj} (d : Array α) : W.grownBy (grow (putRowK enc k (Sort.ahead W q) g 0 d) os) (some g) := by
  refine ⟨rfl, rfl, rfl, by simp [putRowK], fun j hj hne => ?_⟩
  rw [heap_grow_old _ _ (by simpa [putRowK] using hj)]
  have : g ≠ j := fun e => hne (by rw [e])
  simp [putRowK, putRow, mapBlock, Sort.ahead, Array.getElem?_modify, this]
theorem own_sorted {W : World} {base e g n cap q : Nat} {os : Array Obj} {l l' : List α} (hk : ∀ x, (enc x).length = k) (h0 : 0 < k) (hl : l.length = n) (hl' : l'.length = n) (h : W.ownsRow base e k (.slice (some ⟨g, 0, none⟩) n cap) n (l.flatMap enc)) :
    (grow (putRowK enc k (Sort.ahead W q) g 0 l'.toArray) os).ownsRow base e k (.slice (some ⟨g, 0, none⟩) n cap) n (l'.flatMap enc) := by
  have hfl : (l'.flatMap enc).length = n * k := by
    rw [← flatK_toList hk h0 l', Array.length_toList, size_flatK]
    simp [hl']
  rcases h.2 with ⟨h1, _⟩ | ⟨g', cap', cur, h1, hbase, hb, hn, hm, hz, ht⟩
  · cases h1
  · injection h1 with h1 h2 h3
    injection h1 with h1
    injection h1 with h1
    subst h1
    subst h3
    have hg : g < W.heap.size := (Array.getElem?_eq_some_iff.1 hb).1
    refine ⟨by rw [hfl], .inr ⟨g, cap, putCells id 0 (flatK enc k l'.toArray) cur, rfl, hbase, ?_, hn, hm, by simp [putCells, hz], ?_⟩⟩
    · rw [heap_grow_old _ _ (by simpa [putRowK] using hg)]
      simp [putRowK, putRow, mapBlock, Sort.ahead, Array.getElem?_modify, hb, onCells]
    · apply List.ext_getElem?
      intro j
      rcases Nat.lt_or_ge j (n * k) with hj | hj
      · have hjc : j < cur.size := by
          have : n * k ≤ cap * k := Nat.mul_le_mul_right _ hn
          omega
        rw [List.getElem?_take_of_lt hj, Array.getElem?_toList, get_flat hk h0 l' j (by rw [hl']; exact hj)]
        simp only [putCells, Array.getElem?_mapIdx, Array.getElem?_eq_getElem hjc, Option.map_some, Nat.zero_le, Nat.zero_add, size_flatK, true_and, Nat.sub_zero, id]
        rw [if_pos (by simpa [hl'] using hj), get_flatK enc k l'.toArray j (by simpa [hl'] using hj)]
      · rw [List.getElem?_take_eq_none (by omega), List.getElem?_eq_none (by omega)]
/-- A row whose elements' cells are told by enc alone. -/
theorem flat_of_reps {R : α → List Value → Prop} (hR : ∀ x cs, R x cs → cs = enc x) (hk : ∀ x, (enc x).length = k) (h0 : 0 < k) {l : List α} {inner : List Value} (h : Reps R k l inner) : inner = l.flatMap enc := by
  apply List.ext_getElem?
  intro t
  rcases Nat.lt_or_ge t (l.length * k) with ht | ht
  · rw [get_flat hk h0 l t ht]
    have hd : t / k < l.length := (Nat.div_lt_iff_lt_mul h0).2 ht
    have h1 := hR _ _ (h.2 (t / k) _ (List.getElem?_eq_getElem hd))
    have h2 : (l.toArray[t / k]!) = l[t / k] := by simp [hd]
    rw [h2, ← h1]
    have hm := Nat.mod_lt t h0
    have hdm : t / k * k + t % k = t := by rw [Nat.mul_comm]; exact Nat.div_add_mod t k
    have hin : t < inner.length := by rw [h.1]; exact ht
    have h3 : ((inner.drop (t / k * k)).take k)[t % k]? = inner[t]? := by
      rw [List.getElem?_take_of_lt hm, List.getElem?_drop, hdm]
    rw [← h3]
    have h4 : t % k < ((inner.drop (t / k * k)).take k).length := by
      rw [h1, hk]; exact hm
    have h5 : ∀ (L : List Value) (j : Nat), j < L.length → L[j]? = some L[j]! := fun L j hj => by simp [hj]
    exact h5 _ _ h4
  · have hl : (l.flatMap enc).length = l.length * k := by
      rw [← flatK_toList hk h0 l, Array.length_toList, size_flatK]; simp
    rw [List.getElem?_eq_none (by rw [h.1]; exact ht), List.getElem?_eq_none (by omega)]
theorem reps_of_flat {R : α → List Value → Prop} (hR : ∀ x, R x (enc x)) (hk : ∀ x, (enc x).length = k) : ∀ (l : List α), Reps R k l (l.flatMap enc) := by
  intro l
  have : ∀ (r : List α), Reps R k r.reverse (r.reverse.flatMap enc) := fun r => by
    induction r with
    | nil => exact Reps.none _ _
    | cons x r ih =>
      rw [List.reverse_cons, List.flatMap_append]
      have e : [x].flatMap enc = enc x := by simp
      rw [e]
      exact ih.snoc (hR x) (hk x)
  have h := this l.reverse
  rwa [List.reverse_reverse] at h
variable {P : Program} {ρ : Ren}
end
end Go.Proofs.YtiamiagjkfioiaaGreatDoor.Srt
