/- Joined texts. -/
import Derived.Shelf.SlSortFuncK.WholeK
import Derived.Shelf.GgSortFunc.Tiny
import Derived.Sort.OwnSorted
import Derived.Test.YtiamiagjkfioiaaGreatDoorWWords
import Derived.Test.YtiamiagjkfioiaaGreatDoorShelf
import Derived.Test.YtiamiagjkfioiaaGreatDoorFine
import Derived.Test.YtiamiagjkfioiaaGreatDoorWLast
import Derived.Lib.Hide
import Derived.Outline
import Derived.Test.YtiamiagjkfioiaaGreatDoorFromA
import Derived.Test.YtiamiagjkfioiaaGreatDoorTwin
import Derived.Test.YtiamiagjkfioiaaGreatDoorWithL
import Derived.Test.YtiamiagjkfioiaaGreatDoorUqS
/- sort.Slice on a row of one's own, elements of k cells: what the row holds behind it. No program of ours. -/
namespace Go.Proofs.YtiamiagjkfioiaaGreatDoor.Srt
set_option linter.unusedVariables false
set_option linter.unusedSimpArgs false
set_option linter.unusedSectionVars false
open Go.Shelf Go.RowKit Go.Lib Go.Sort Go.Proofs.YtiamiagjkfioiaaGreatDoorW.PrintWords

section
variable {α : Type} [Inhabited α] {enc : α → List Value} {k : Nat}
theorem get_flat (hk : ∀ x, (enc x).length = k) (h0 : 0 < k) : ∀ (l : List α) (t : Nat), t < l.length * k → (l.flatMap enc)[t]? = some ((enc l.toArray[t / k]!)[t % k]!)
  | [], t, h => by simp at h
  | x :: l, t, h => by
    rw [List.flatMap_cons]
    rcases Nat.lt_or_ge t k with hlt | hge
    · rw [List.getElem?_append_left (by rw [hk]; exact hlt), Nat.div_eq_of_lt hlt, Nat.mod_eq_of_lt hlt]
      have : t < (enc x).length := by rw [hk]; exact hlt
      rw [List.getElem?_eq_getElem this]
      simp [this]
    · rw [List.getElem?_append_right (by rw [hk]; exact hge), hk]
      have h1 : t - k < l.length * k := by rw [List.length_cons, Nat.add_mul] at h; omega
      rw [get_flat hk h0 l (t - k) h1]
      have e1 : t / k = (t - k) / k + 1 := by
        have : t = (t - k) + k := by omega
        conv => lhs; rw [this]
        rw [Nat.add_div_right _ h0]
      have e2 : t % k = (t - k) % k := by
        have : t = (t - k) + k := by omega
        conv => lhs; rw [this]
        rw [Nat.add_mod_right]
      rw [e1, e2]
      simp
theorem flatK_toList (hk : ∀ x, (enc x).length = k) (h0 : 0 < k) (l : List α) : (flatK enc k l.toArray).toList = l.flatMap enc := by
  apply List.ext_getElem?
  intro t
  rcases Nat.lt_or_ge t (l.length * k) with h | h
  · rw [get_flat hk h0 l t h, Array.getElem?_toList]
    simp [flatK, h]
  · have hl : (l.flatMap enc).length = l.length * k := by
      clear h
      induction l with
      | nil => simp
      | cons x l ih => rw [List.flatMap_cons, List.length_append, ih, hk, List.length_cons, Nat.add_mul]; omega
    rw [List.getElem?_eq_none (by simpa using h), List.getElem?_eq_none (by omega)]
theorem holds_own {W : World} {base e g n cap : Nat} {l : List α} (hk : ∀ x, (enc x).length = k) (h0 : 0 < k) (hl : l.length = n) (h : W.ownsRow base e k (.slice (some ⟨g, 0, none⟩) n cap) n (l.flatMap enc)) : HoldsK enc k W g 0 l.toArray := by
  intro j hj
  have hj' : j < l.length * k := by simpa using hj
  rcases h.2 with ⟨h1, _⟩ | ⟨g', cap', cur, h1, _, hb, hn, _, hz, ht⟩
  · cases h1
  · injection h1 with h1 h2
    injection h1 with h1
    injection h1 with h1
    subst h1
    refine ⟨?_, by simp [World.frozen?, hb]⟩
    have h3 : (cur.toList.take (n * k))[j]? = (l.flatMap enc)[j]? := by rw [ht]
    rw [List.getElem?_take_of_lt (by rw [← hl]; exact hj'), get_flat hk h0 l j hj', Array.getElem?_toList] at h3
    rw [get_flatK enc k l.toArray j (by simpa using hj')]
    simp only [World.cell?, hb, Nat.zero_add]
    simp only [Option.isSome_none, Bool.false_eq_true, if_false]
    exact h3
theorem grown_sorted {W : World} {g q : Nat} {os : Array Obj} (d : Array α) : W.grownBy (grow (putRowK enc k (Sort.ahead W q) g 0 d) os) (some g) := by
  refine ⟨rfl, rfl, rfl, by simp [putRowK], fun j hj hne => ?_⟩
  rw [heap_grow_old _ _ (by simpa [putRowK] using hj)]
  have : g ≠ j := fun e => hne (by rw [e])
  simp [putRowK, putRow, mapBlock, Sort.ahead, Array.getElem?_modify, this]
theorem own_sorted {W : World} {base e g n cap q : Nat} {os : Array Obj} {l l' : List α} (hk : ∀ x, (enc x).length = k) (h0 : 0 < k) (hl : l.length = n) (hl' : l'.length = n) (h : W.ownsRow base e k (.slice (some ⟨g, 0, none⟩) n cap) n (l.flatMap enc)) :
    (grow (putRowK enc k (Sort.ahead W q) g 0 l'.toArray) os).ownsRow base e k (.slice (some ⟨g, 0, none⟩) n cap) n (l'.flatMap enc) := by
  have hfl : (l'.flatMap enc).length = n * k := by
    rw [← flatK_toList hk h0 l', Array.length_toList, size_flatK]
    simp [hl']
  rcases h.2 with ⟨h1, _⟩ | ⟨g', cap', cur, h1, hbase, hb, hn, hm, hz, ht⟩
  · cases h1
  · injection h1 with h1 h2 h3
    injection h1 with h1
    injection h1 with h1
    subst h1
    subst h3
    have hg : g < W.heap.size := (Array.getElem?_eq_some_iff.1 hb).1
    refine ⟨by rw [hfl], .inr ⟨g, cap, putCells id 0 (flatK enc k l'.toArray) cur, rfl, hbase, ?_, hn, hm, by simp [putCells, hz], ?_⟩⟩
    · rw [heap_grow_old _ _ (by simpa [putRowK] using hg)]
      simp [putRowK, putRow, mapBlock, Sort.ahead, Array.getElem?_modify, hb, onCells]
    · apply List.ext_getElem?
      intro j
      rcases Nat.lt_or_ge j (n * k) with hj | hj
      · have hjc : j < cur.size := by
          have : n * k ≤ cap * k := Nat.mul_le_mul_right _ hn
          omega
        rw [List.getElem?_take_of_lt hj, Array.getElem?_toList, get_flat hk h0 l' j (by rw [hl']; exact hj)]
        simp only [putCells, Array.getElem?_mapIdx, Array.getElem?_eq_getElem hjc, Option.map_some, Nat.zero_le, Nat.zero_add, size_flatK, true_and, Nat.sub_zero, id]
        rw [if_pos (by simpa [hl'] using hj), get_flatK enc k l'.toArray j (by simpa [hl'] using hj)]
      · rw [List.getElem?_take_eq_none (by omega), List.getElem?_eq_none (by omega)]
/-- A row whose elements' cells are told by enc alone. -/
theorem flat_of_reps {R : α → List Value → Prop} (hR : ∀ x cs, R x cs → cs = enc x) (hk : ∀ x, (enc x).length = k) (h0 : 0 < k) {l : List α} {inner : List Value} (h : Reps R k l inner) : inner = l.flatMap enc := by
  apply List.ext_getElem?
  intro t
  rcases Nat.lt_or_ge t (l.length * k) with ht | ht
  · rw [get_flat hk h0 l t ht]
    have hd : t / k < l.length := (Nat.div_lt_iff_lt_mul h0).2 ht
    have h1 := hR _ _ (h.2 (t / k) _ (List.getElem?_eq_getElem hd))
    have h2 : (l.toArray[t / k]!) = l[t / k] := by simp [hd]
    rw [h2, ← h1]
    have hm := Nat.mod_lt t h0
    have hdm : t / k * k + t % k = t := by rw [Nat.mul_comm]; exact Nat.div_add_mod t k
    have hin : t < inner.length := by rw [h.1]; exact ht
    have h3 : ((inner.drop (t / k * k)).take k)[t % k]? = inner[t]? := by
      rw [List.getElem?_take_of_lt hm, List.getElem?_drop, hdm]
    rw [← h3]
    have h4 : t % k < ((inner.drop (t / k * k)).take k).length := by
      rw [h1, hk]; exact hm
    have h5 : ∀ (L : List Value) (j : Nat), j < L.length → L[j]? = some L[j]! := fun L j hj => by simp [hj]
    exact h5 _ _ h4
  · have hl : (l.flatMap enc).length = l.length * k := by
      rw [← flatK_toList hk h0 l, Array.length_toList, size_flatK]; simp
    rw [List.getElem?_eq_none (by rw [h.1]; exact ht), List.getElem?_eq_none (by omega)]
theorem reps_of_flat {R : α → List Value → Prop} (hR : ∀ x, R x (enc x)) (hk : ∀ x, (enc x).length = k) : ∀ (l : List α), Reps R k l (l.flatMap enc) := by
  intro l
  have : ∀ (r : List α), Reps R k r.reverse (r.reverse.flatMap enc) := fun r => by
    induction r with
    | nil => exact Reps.none _ _
    | cons x r ih =>
      rw [List.reverse_cons, List.flatMap_append]
      have e : [x].flatMap enc = enc x := by simp
      rw [e]
      exact ih.snoc (hR x) (hk x)
  have h := this l.reverse
  rwa [List.reverse_reverse] at h
variable {P : Program} {ρ : Ren}
end
end Go.Proofs.YtiamiagjkfioiaaGreatDoor.Srt
/- sort.Strings of a row of one's own: the row then holds the same texts, rising. -/
namespace Go.Proofs.YtiamiagjkfioiaaGreatDoor.Srt
set_option linter.unusedVariables false
set_option linter.unusedSimpArgs false
set_option linter.unusedSectionVars false
open Go.RowKit Go.Shelf Go.Lib Go.Sort Go.Proofs.YtiamiagjkfioiaaGreatDoorW.PrintWords Go.Proofs.YtiamiagjkfioiaaGreatDoorW.PrintLast

def encB (l : List UInt8) : List Value := [encStr l]
theorem flat_one (d : Array (List UInt8)) : flatK encB 1 d = d.map encStr := by
  apply Array.ext
  · simp [flatK]
  · intro i h1 h2
    have hi : i < d.size := by simpa using h2
    simp only [flatK, Array.getElem_map, Array.getElem_range, Nat.div_one, Nat.mod_one, getElem!_pos d i hi, encB]
    rfl
theorem putRow_one (w : World) (blk : Nat) (d : Array (List UInt8)) : putRow encStr w blk 0 d = putRowK encB 1 w blk 0 d := by
  unfold putRowK putRow
  rw [flat_one]
  congr 1
  funext c
  unfold putCells
  congr 1
  funext k x
  simp only [Array.size_map, Nat.zero_le, true_and, Nat.zero_add, Nat.sub_zero, id]
  by_cases h : k < d.size
  · rw [if_pos h, if_pos h, getElem!_pos d k h, getElem!_pos (d.map encStr) k (by simpa using h), Array.getElem_map]
  · rw [if_neg h, if_neg h]
theorem holds_one {w : World} {blk : Nat} {d : Array (List UInt8)} (h : HoldsK encB 1 w blk 0 d) : Holds encStr w blk 0 d := by
  intro j hj
  unfold HoldsK at h
  rw [flat_one] at h
  have := h j (by simpa using hj)
  rw [getElem!_pos (d.map encStr) j (by simpa using hj), Array.getElem_map, id] at this
  rw [getElem!_pos d j hj]
  exact this
theorem encStr_toList (s : ByteArray) : encStr s.toList = Value.string s := by
  have : s.toList = s.data.toList := Lib.toList_data s
  unfold encStr
  rw [this]
theorem flat_str (l : List ByteArray) : (l.map ByteArray.toList).flatMap encB = l.map Value.string := by
  induction l with
  | nil => rfl
  | cons x l ih => rw [List.map_cons, List.flatMap_cons, ih, List.map_cons, encB, encStr_toList]; rfl
theorem sorted_str (l : List ByteArray) : ((l.map ByteArray.toList).mergeSort fun x y => decide (x ≤ y)) = (Ord.sortS l).map ByteArray.toList := by
  unfold Ord.sortS
  refine (List.map_mergeSort (fun a _ b _ => ?_)).symm
  rw [Ord.lt, bytesLess_eq, Bool.eq_iff_iff]
  simp [List.not_lt]
theorem strings_own {P : Program} {ρ : Ren} (Ly : Lays.n192 P ρ) {W : World} {base e : Nat} {v : Value} {l : List ByteArray} (hown : W.ownsRow base e 1 v l.length (l.map Value.string)) (hlen : l.length < 4611686018427387904) :
    Calls P (ρ.f 192) #[v] W fun en w' => en = .returned (.tuple #[]) ∧ w'.ownsRow base e 1 v (Ord.sortS l).length ((Ord.sortS l).map Value.string) ∧ W.grownBy w' v.ownBlock := by
  by_cases hz : l.length = 0
  · have h0 : l = [] := List.eq_nil_of_length_eq_zero hz
    subst h0
    obtain ⟨A, c, rfl⟩ := own_slice hown
    refine (Any.sort_Strings_none Ly A c W).mono ?_
    rintro en w' ⟨rfl, rfl⟩
    refine ⟨rfl, ?_, ⟨rfl, rfl, rfl, Nat.le_refl _, fun _ _ _ => rfl⟩⟩
    have : Ord.sortS [] = [] := by simp [Ord.sortS]
    rw [this]; exact hown
  · obtain ⟨gb, cap, rfl, hgb, hgl⟩ := World.ownsRow.form hown (by omega)
    have hown2 := hown
    rw [← flat_str] at hown2
    have hk : ∀ x, (encB x).length = 1 := fun _ => rfl
    have hH := holds_one (holds_own (l := l.map ByteArray.toList) hk (by decide) (by simp) hown2)
    have hS := Any.sort_Strings Ly gb 0 cap (l.map ByteArray.toList) W hH hgl (by simpa using hlen)
    rw [List.length_map] at hS
    refine hS.mono ?_
    rintro en w' ⟨rfl, n, os, rfl⟩
    rw [putRow_one, sorted_str]
    have hl2 : ((Ord.sortS l).map ByteArray.toList).length = l.length := by rw [List.length_map, Ord.sortS_length]
    refine ⟨rfl, ?_, grown_sorted _⟩
    rw [Ord.sortS_length, ← flat_str]
    exact own_sorted (q := n) (os := os) (l := l.map ByteArray.toList) hk (by decide) (by simp) hl2 hown2
theorem flatS : ∀ l : List ByteArray, l.map Value.string = l.flatMap (fun s => [Value.string s])
  | [] => rfl
  | x :: l => by rw [List.map_cons, List.flatMap_cons, flatS l]; rfl
theorem ownS {w : World} {base e : Nat} {v : Value} {l : List ByteArray} {ok : Nat → Prop} (h : Kd.R Kd.string e w base ok v l) : w.ownsRow base e 1 v l.length (l.map Value.string) := by
  obtain ⟨_, inner, ho, hr⟩ := h
  have := flat_of_reps (enc := fun s => [Value.string s]) (k := 1) (fun x cs hx => hx) (fun _ => rfl) (by decide) hr
  rw [flatS, ← this]
  exact ho
theorem kdS {w : World} {base e : Nat} {v : Value} {l : List ByteArray} (h : w.ownsRow base e 1 v l.length (l.map Value.string)) : Kd.R Kd.string e w base (fun _ => True) v l := by
  rw [flatS] at h
  exact ⟨fun _ _ => trivial, _, h, reps_of_flat (R := Kd.string.M w base fun k => True ∧ some k ≠ v.ownBlock) (enc := fun s => [Value.string s]) (k := 1) (fun x => rfl) (fun _ => rfl) l⟩
end Go.Proofs.YtiamiagjkfioiaaGreatDoor.Srt
/- sort.Strings of a row of one's own, and so: everything that the package may tell comes back. -/
namespace Go.Proofs.YtiamiagjkfioiaaGreatDoor.A
set_option linter.unusedVariables false
set_option linter.unusedSimpArgs false
set_option linter.unusedSectionVars false
open Go.RowKit Go.Proofs.YtiamiagjkfioiaaGreatDoorW.PrintWords Go.Proofs.YtiamiagjkfioiaaGreatDoorW.PrintLast Go.Proofs.YtiamiagjkfioiaaGreatDoorW.PrintMore Go.Proofs.YtiamiagjkfioiaaGreatDoor.PT Go.Proofs.YtiamiagjkfioiaaGreatDoor.SM Go.Proofs.YtiamiagjkfioiaaGreatDoor.L

theorem sortC : SortC := fun v l base W hr hl => by
  refine (Srt.strings_own (P := Tryz.prog) Tryz.lays192 (Srt.ownS hr) (by omega)).mono ?_
  rintro en w' ⟨rfl, ho, hg⟩
  exact ⟨rfl, Srt.kdS ho, hg⟩
end Go.Proofs.YtiamiagjkfioiaaGreatDoor.A
/- Contracts of laws.to, laws.from, spec.Same over values of any form; spec.M of texts. -/
namespace Go.Proofs.YtiamiagjkfioiaaGreatDoor.A
set_option linter.unusedVariables false
set_option linter.unusedSimpArgs false
set_option linter.unusedSectionVars false
open Go.RowKit Go.Proofs.YtiamiagjkfioiaaGreatDoorW.PrintWords Go.Proofs.YtiamiagjkfioiaaGreatDoorW.PrintLast Go.Proofs.YtiamiagjkfioiaaGreatDoorW.PrintMore Go.Proofs.YtiamiagjkfioiaaGreatDoor.PT Go.Proofs.YtiamiagjkfioiaaGreatDoor.L Go.Proofs.YtiamiagjkfioiaaGreatDoor.SM

abbrev cellsS (x : SV) (A3 : Option Addr) (c3 : Nat) (A4 : Option Addr) (c4 : Nat) : Value := .agg #[.int .i64 x.f0, .int .i64 x.f1, .string x.f2, .slice A3 x.f3.length c3, .slice A4 x.f4.length c4]
/-- a value that is read -/
def MadeS (x : SV) (w : World) (v : Value) : Prop := ∃ A3 c3 A4 c4, v = cellsS x A3 c3 A4 c4 ∧ x.f3.length ≤ c3 ∧ Kd.C Kd.string w A3 x.f3.length x.f3 ∧ x.f4.length ≤ c4 ∧ Kd.C kS w A4 x.f4.length x.f4
def MadeI (x : IV) (w : World) (v : Value) : Prop := ∃ A3 c3 A4 c4, v = cellsI x A3 c3 A4 c4 ∧ x.f3.length ≤ c3 ∧ Kd.C Kd.string w A3 x.f3.length x.f3 ∧ x.f4.length ≤ c4 ∧ Kd.C kI w A4 x.f4.length x.f4
theorem MadeS.below_ {x : SV} {w w' : World} {v : Value} (h : MadeS x w v) (hb : Below w.heap.size w w') : MadeS x w' v := by
  obtain ⟨A3, c3, A4, c4, e, h3, g3, h4, g4⟩ := h
  exact ⟨A3, c3, A4, c4, e, h3, Kd.C_below g3 hb, h4, Kd.C_below g4 hb⟩
theorem MadeI.below_ {x : IV} {w w' : World} {v : Value} (h : MadeI x w v) (hb : Below w.heap.size w w') : MadeI x w' v := by
  obtain ⟨A3, c3, A4, c4, e, h3, g3, h4, g4⟩ := h
  exact ⟨A3, c3, A4, c4, e, h3, Kd.C_below g3 hb, h4, Kd.C_below g4 hb⟩
theorem Deep.parts {lo : Nat} {w : World} {x : SV} {r : RV} (h : Deep lo w x r) : MadeS x w r.val := by
  cases h with
  | @mk _ _ rs h0 h1 h2 h3 h3c h3k h3f h4 h4c h4l h4k h4f he =>
    have hC : Kd.C A.kS w r.B x.f4.length x.f4 := by
      obtain ⟨q1, q2, q3⟩ := h4k
      refine ⟨rfl, by rw [← h4l]; exact q2, fun hp => ?_⟩
      obtain ⟨ad, e, hc⟩ := q3 (by omega)
      refine ⟨ad, e, fun j p hj => ?_⟩
      have hj1 : j < x.f4.length := by
        rcases Nat.lt_or_ge j x.f4.length with q | q
        · exact q
        · rw [List.getElem?_eq_none q] at hj; cases hj
      have hj2 : j < rs.length := by omega
      obtain ⟨cs, ha, hb, hcc⟩ := hc j (rs[j]'hj2) (List.getElem?_eq_getElem hj2)
      have ep : p = x.f4[j]'hj1 := by rw [List.getElem?_eq_getElem hj1] at hj; injection hj with hj; exact hj.symm
      refine ⟨cs, ha, ?_, hcc⟩
      rw [ep, hb]
      exact (he j hj1 hj2).kS
    refine ⟨r.A, r.ac, r.B, r.bc, ?_, by omega, h3k, by omega, hC⟩
    unfold RV.val cellsS
    rw [h0, h1, h2, h3, h4]
theorem law_to {x : SV} {y : IV} (ht : Twin x y) {v : Value} {w : World} (hv : MadeS x w v) : Calls Tryz.prog 14 #[v] w fun e w' => (∃ u, e = .returned u ∧ MadeI y w' u) ∧ Below w.heap.size w w' := by
  obtain ⟨A3, c3, A4, c4, rfl, h3, g3, h4, g4⟩ := hv
  obtain ⟨k, hk⟩ := to_f ht
  refine (laws_to.calls k x.f0 x.f1 x.f2 A3 c3 x.f3 A4 c4 x.f4 y.f0 y.f1 y.f2 y.f3 y.f4 w g3 h3 g4 h4 (hk k (Nat.le_refl _))).mono ?_
  rintro e w' ⟨v3, v4, rfl, hr3, hr4, hb⟩
  obtain ⟨B3, d3, rfl⟩ := Kd.R_slice hr3
  obtain ⟨B4, d4, rfl⟩ := Kd.R_slice hr4
  exact ⟨⟨_, rfl, B3, d3, B4, d4, rfl, (Kd.R_reads' hr3).2.1, (Kd.R_reads' hr3).2.2, (Kd.R_reads' hr4).2.1, (Kd.R_reads' hr4).2.2⟩, hb⟩
theorem law_from {x : SV} {y : IV} (ht : Twin x y) {v : Value} {w : World} (hv : MadeI y w v) : Calls Tryz.prog 16 #[v] w fun e w' => (∃ u, e = .returned u ∧ MadeS x w' u) ∧ Below w.heap.size w w' := by
  obtain ⟨A3, c3, A4, c4, rfl, h3, g3, h4, g4⟩ := hv
  obtain ⟨k, hk⟩ := from_f ht
  refine (laws_from.calls k y.f0 y.f1 y.f2 A3 c3 y.f3 A4 c4 y.f4 x.f0 x.f1 x.f2 x.f3 x.f4 w g3 h3 g4 h4 (hk k (Nat.le_refl _))).mono ?_
  rintro e w' ⟨v3, v4, rfl, hr3, hr4, hb⟩
  obtain ⟨B3, d3, rfl⟩ := Kd.R_slice hr3
  obtain ⟨B4, d4, rfl⟩ := Kd.R_slice hr4
  exact ⟨⟨_, rfl, B3, d3, B4, d4, rfl, (Kd.R_reads' hr3).2.1, (Kd.R_reads' hr3).2.2, (Kd.R_reads' hr4).2.1, (Kd.R_reads' hr4).2.2⟩, hb⟩
theorem law_same {x : SV} (hx : Bnd x) {v u : Value} {w : World} (hv : MadeS x w v) (hu : MadeS x w u) : Calls Tryz.prog 15 #[v, u] w fun e w' => e = .returned (.bool true) ∧ Below w.heap.size w w' := by
  obtain ⟨A3, c3, A4, c4, rfl, h3, g3, h4, g4⟩ := hv
  obtain ⟨B3, d3, B4, d4, rfl, l3, k3, l4, k4⟩ := hu
  obtain ⟨k, hk⟩ := same_f hx
  exact spec_Same.calls k x.f0 x.f1 x.f2 A3 c3 x.f3 A4 c4 x.f4 x.f0 x.f1 x.f2 B3 d3 x.f3 B4 d4 x.f4 true w g3 h3 g4 h4 k3 l3 k4 l4 (hk k (Nat.le_refl _))
end Go.Proofs.YtiamiagjkfioiaaGreatDoor.A
