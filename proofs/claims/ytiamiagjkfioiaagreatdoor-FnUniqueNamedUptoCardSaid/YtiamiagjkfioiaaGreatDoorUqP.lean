/- Joined texts. -/
import Derived.Test.YtiamiagjkfioiaaGreatDoorSp
import Derived.IntWalk
import Derived.Test.YtiamiagjkfioiaaGreatDoorSM
/- Walks: the searches in package override, over any strings. -/
namespace Go.Proofs.YtiamiagjkfioiaaGreatDoor.L
set_option linter.unusedVariables false
set_option linter.unusedSimpArgs false
set_option linter.unusedSectionVars false
open Go.RowKit

set_option maxHeartbeats 400000 in
set_option maxRecDepth 100000 in
theorem override_zzIndex (s sub : ByteArray) (w : World) (hs : s.size ≤ 140737488355328) (hsub : sub.size ≤ 140737488355328) (h0 : 0 < sub.size) :
    Calls Tryz.prog 147 #[.string s, .string sub] w fun e w' => e = .returned (.int .i64 (Lib.index s.data.toList sub.data.toList)) ∧ w = w' := by
  go_enter Tryz.func147, Tryz.ntmps147
  go_wp2
  go_loop [5] (fun i => ∃ k : Nat, i = .int .i64 k ∧ k ≤ s.size ∧ Hid (Lib.NoOcc s.data.toList sub.data.toList k)) (fun i => s.size - (intOf i).toNat)
  case atStart => exact ⟨0, rfl, Nat.zero_le _, Lib.NoOcc.zero _ _⟩
  case round =>
    obtain ⟨k, rfl, hk, hN⟩ := hrel
    by_cases hlt : k + sub.size ≤ s.size
    · have hi : k + sub.data.toList.length ≤ s.data.toList.length := by rw [← Lib.size_eq, ← Lib.size_eq]; exact hlt
      have ho := Lib.occAt_iff_take s.data.toList sub.data.toList k hi
      have hx : ((s.extract k (k + sub.size)).toList == sub.toList) = Lib.occAt s.data.toList sub.data.toList k := by
        rw [Lib.toList_data, Lib.toList_data, Lib.extract_data, ho, Nat.add_sub_cancel_left, Lib.size_eq sub]
      clear ho hi
      by_cases hocc : Lib.occAt s.data.toList sub.data.toList k = true
      · rw [hocc] at hx
        have X : Hid (Lib.index s.data.toList sub.data.toList = k) := Lib.index_hit hN.out (by rw [← Lib.size_eq]; omega) hocc
        clear hocc
        go_wp2
        go_ret
        exact ⟨by rw [X.out]; rfl, rfl⟩
      · have hocc' : Lib.occAt s.data.toList sub.data.toList k = false := by simpa using hocc
        rw [hocc'] at hx
        have X : Hid (Lib.NoOcc s.data.toList sub.data.toList (k + 1)) := Lib.NoOcc.succ hN.out hocc'
        clear hocc hocc'
        go_wp2
        go_round
        case rel => exact ⟨k + 1, by go_num, by omega, X⟩
        case measure => simp [intOf]; omega
    · have X : Hid (Lib.index s.data.toList sub.data.toList = -1) := Lib.index_past (by intro e; rw [Lib.size_eq, e] at h0; simp at h0) hN.out (by rw [← Lib.size_eq, ← Lib.size_eq]; omega)
      go_wp2
      go_ret
      exact ⟨by rw [X.out]; rfl, rfl⟩

theorem override_zzIndex_at (s sub : ByteArray) (i : Int) (w : World) (hs : s.size ≤ 140737488355328) (hsub : sub.size ≤ 140737488355328) (h0 : 0 < sub.size) (hi : Lib.index s.data.toList sub.data.toList = i) :
    Calls Tryz.prog 147 #[.string s, .string sub] w fun e w' => e = .returned (.int .i64 i) ∧ w = w' := by
  rw [← hi]
  exact override_zzIndex s sub w hs hsub h0



end Go.Proofs.YtiamiagjkfioiaaGreatDoor.L
/- Plain and walks: the part of a text before the first equals sign. -/
namespace Go.Proofs.YtiamiagjkfioiaaGreatDoor.L
set_option linter.unusedVariables false
set_option linter.unusedSimpArgs false
set_option linter.unusedSectionVars false
open Go.RowKit

/-- the part before the first equals sign -/
def keyOf (s : ByteArray) : ByteArray := mk ((sp 61 s.data.toList).headD [])
theorem keyOf_miss (s : ByteArray) (h : Lib.index s.data.toList [61] = -1) : keyOf s = s := by
  unfold keyOf
  rw [index_one_miss 61 _ h]
  exact mk_of s
theorem keyOf_hit (s : ByteArray) (i : Nat) (h : Lib.index s.data.toList [61] = i) : keyOf s = s.extract 0 i := by
  unfold keyOf
  rw [index_one_hit 61 _ i h, extract_start]
  rfl
theorem keyOf_size (s : ByteArray) : (keyOf s).size ≤ s.size := by
  rcases Decidable.em (Lib.index s.data.toList [61] = -1) with h | h
  · rw [keyOf_miss s h]; omega
  · have := Lib.index_ge s.data.toList [61]
    rw [keyOf_hit s (Lib.index s.data.toList [61]).toNat (by omega), ByteArray.size_extract]
    omega

/-! ### how it is searched for -/
theorem occ61 (s : List UInt8) (i : Nat) : Lib.occAt s [61] i = decide (s[i]? = some 61) := by
  unfold Lib.occAt
  rcases Nat.lt_or_ge i s.length with h | h
  · rw [List.drop_eq_getElem_cons h, List.getElem?_eq_getElem h]
    by_cases e : s[i] = 61
    · simp [e, List.isPrefixOf]
    · simp [e, List.isPrefixOf, Ne.symm e]
  · rw [List.drop_of_length_le h, List.getElem?_eq_none h]
    rfl

set_option maxRecDepth 100000 in
theorem override_zzCut (s : ByteArray) (w : World) (hs : s.size ≤ 140737488355328) :
    Calls Tryz.prog 119 #[.string s, .string ⟨#[61]⟩] w fun e w' =>
      (∃ b t, (b = true ∨ keyOf s = s) ∧ e = .returned (.tuple #[.string (keyOf s), .string t, .bool b])) ∧ Below w.heap.size w w' := by
  have hd : ((⟨#[61]⟩ : ByteArray).size : Int) = 1 := rfl
  by_cases hneg : Lib.index s.data.toList [61] < 0
  · have hm : Lib.index s.data.toList [61] = -1 := by have := Lib.index_ge s.data.toList [61]; omega
    have X := Lib.hid (keyOf_miss s hm)
    clear hneg
    go_enter Tryz.func119, Tryz.ntmps119
    go_wp2_with fail
    refine (override_zzIndex_at s _ (-1) _ hs (by show 1 ≤ _; omega) (by show 0 < 1; omega) hm).mono ?_
    rintro e w' ⟨rfl, rfl⟩
    clear hm
    go_wp2
    go_ret3
    exact ⟨⟨false, ⟨#[]⟩, .inr X.out, by rw [X.out]; rfl⟩, Below.refl _ _⟩
  · have hge := Lib.index_ge s.data.toList [61]
    obtain ⟨i, hi'⟩ : ∃ i : Nat, Lib.index s.data.toList [61] = i := ⟨(Lib.index s.data.toList [61]).toNat, by omega⟩
    have hroom := Lib.index_room s.data.toList [61] (by omega)
    rw [hi', ← Lib.size_eq] at hroom
    simp only [List.length_singleton] at hroom
    have X := Lib.hid (keyOf_hit s i hi')
    have eW : IntKind.i64.wrap ((i : Int) + 1) = (i : Int) + 1 := IntWalk.i64_in _ (by omega)
    have i1 : (0 : Int) ≤ (i : Int) := by omega
    have i2 : (i : Int) ≤ (s.size : Int) := by omega
    have i3 : (i : Int) + 1 ≤ (s.size : Int) := by omega
    clear hneg hge
    go_enter Tryz.func119, Tryz.ntmps119
    go_wp2_with fail
    refine (override_zzIndex_at s _ i _ hs (by show 1 ≤ _; omega) (by show 0 < 1; omega) hi').mono ?_
    rintro e w' ⟨rfl, rfl⟩
    clear hi'
    go_wp2
    go_region
    go_wp2
    go_ret3
    exact ⟨⟨true, s.extract (i + 1) s.size, .inl rfl, by rw [X.out]; rfl⟩, (Below.refl _ _).drew⟩
end Go.Proofs.YtiamiagjkfioiaaGreatDoor.L
/- Plain: a sequence of KEY=VALUE in which each key stands once, with its last value, where it stood first. -/
namespace Go.Proofs.YtiamiagjkfioiaaGreatDoor.L
set_option linter.unusedVariables false
set_option linter.unusedSimpArgs false
set_option linter.unusedSectionVars false
open Go.RowKit Go.Proofs.YtiamiagjkfioiaaGreatDoor.SM

open Classical
/-- one entry more -/
noncomputable def upd (out : List ByteArray) (s : ByteArray) : List ByteArray := if keyOf s ∈ out.map keyOf then out.map (fun o => if keyOf o = keyOf s then s else o) else out ++ [s]
noncomputable def uniqL (l : List ByteArray) : List ByteArray := l.foldl upd []
theorem uniqL_snoc (l : List ByteArray) (s : ByteArray) : uniqL (l ++ [s]) = upd (uniqL l) s := by simp [uniqL, List.foldl_append]
theorem upd_keys (out : List ByteArray) (s : ByteArray) : (upd out s).map keyOf = if keyOf s ∈ out.map keyOf then out.map keyOf else out.map keyOf ++ [keyOf s] := by
  unfold upd
  split
  · rw [List.map_map]
    apply List.map_congr_left
    intro o _
    show keyOf (if keyOf o = keyOf s then s else o) = keyOf o
    split
    · rename_i h; exact h.symm
    · rfl
  · simp
theorem upd_nodup {out : List ByteArray} (h : (out.map keyOf).Nodup) (s : ByteArray) : ((upd out s).map keyOf).Nodup := by
  rw [upd_keys]
  split
  · exact h
  · rename_i hn
    rw [List.nodup_append]
    refine ⟨h, by simp, fun a ha b hb => ?_⟩
    rw [List.mem_singleton.1 hb]
    exact fun e => hn (e ▸ ha)
theorem uniqL_nodup (l : List ByteArray) : ((uniqL l).map keyOf).Nodup := by
  suffices h : ∀ (l out : List ByteArray), (out.map keyOf).Nodup → ((l.foldl upd out).map keyOf).Nodup from h l [] (by simp)
  intro l
  induction l with
  | nil => exact fun out h => h
  | cons a l ih => exact fun out h => ih _ (upd_nodup h a)
theorem upd_len (out : List ByteArray) (s : ByteArray) : (upd out s).length ≤ out.length + 1 := by
  unfold upd
  split <;> simp
theorem uniqL_len (l : List ByteArray) : (uniqL l).length ≤ l.length := by
  suffices h : ∀ (l out : List ByteArray), (l.foldl upd out).length ≤ out.length + l.length from by have := h l []; simpa [uniqL] using this
  intro l
  induction l with
  | nil => exact fun out => Nat.le_refl _
  | cons a l ih =>
    intro out
    have h1 := ih (upd out a)
    have h2 := upd_len out a
    simp only [List.foldl_cons, List.length_cons]
    omega
theorem upd_mem {out : List ByteArray} {s x : ByteArray} (h : x ∈ upd out s) : x = s ∨ x ∈ out := by
  unfold upd at h
  split at h
  · obtain ⟨o, ho, rfl⟩ := List.mem_map.1 h
    split
    · exact .inl rfl
    · exact .inr ho
  · rcases List.mem_append.1 h with h | h
    · exact .inr h
    · exact .inl (List.mem_singleton.1 h)
theorem uniqL_mem {l : List ByteArray} {x : ByteArray} (h : x ∈ uniqL l) : x ∈ l := by
  suffices hh : ∀ (l out : List ByteArray), x ∈ l.foldl upd out → x ∈ out ∨ x ∈ l from by
    rcases hh l [] h with h1 | h1
    · simp at h1
    · exact h1
  intro l
  induction l with
  | nil => exact fun out h => .inl h
  | cons a l ih =>
    intro out h
    rcases ih _ h with h1 | h1
    · rcases upd_mem h1 with h2 | h2
      · exact .inr (by simp [h2])
      · exact .inl h2
    · exact .inr (List.mem_cons_of_mem _ h1)
/-- an entry put in the place of the one with its key -/
theorem upd_at {out : List ByteArray} (hn : (out.map keyOf).Nodup) {s : ByteArray} {j : Nat} (hj : j < out.length) (hk : keyOf (out[j]'hj) = keyOf s) : upd out s = out.set j s := by
  unfold upd
  rw [if_pos (by rw [← hk]; exact List.mem_map_of_mem (List.getElem_mem hj))]
  apply List.ext_getElem (by simp)
  intro i h1 h2
  rw [List.getElem_map, List.getElem_set]
  have hi : i < out.length := by simpa using h1
  by_cases e : j = i
  · subst e
    rw [if_pos rfl, if_pos hk]
  · rw [if_neg e, if_neg (fun hh => e ?_)]
    have := (List.getElem_inj (h₀ := by simpa using hj) (h₁ := by simpa using hi) hn).1 (by rw [List.getElem_map, List.getElem_map, hk, hh])
    exact this
theorem upd_new {out : List ByteArray} {s : ByteArray} (h : keyOf s ∉ out.map keyOf) : upd out s = out ++ [s] := by unfold upd; rw [if_neg h]
/-- the map of keys to places -/
structure Places (m : List (ByteArray × Nat)) (out : List ByteArray) : Prop where
  has : ∀ k, k ∈ SM.keys m ↔ k ∈ out.map keyOf
  at_ : ∀ k j, SM.look m k = some j → ∃ h : j < out.length, keyOf (out[j]'h) = k
theorem Places.start : Places [] [] := ⟨fun k => by simp [SM.keys], fun k j h => by simp [SM.look] at h⟩
theorem Places.hit {m : List (ByteArray × Nat)} {out : List ByteArray} (h : Places m out) {s : ByteArray} {j : Nat} (hj : j < out.length) (hk : keyOf (out[j]'hj) = keyOf s) : Places m (out.set j s) := by
  have e : (out.set j s).map keyOf = out.map keyOf := by
    apply List.ext_getElem (by simp)
    intro i h1 h2
    rw [List.getElem_map, List.getElem_map, List.getElem_set]
    split
    · rename_i e; subst e; exact hk.symm
    · rfl
  refine ⟨fun k => by rw [e]; exact h.has k, fun k i hi => ?_⟩
  obtain ⟨h1, h2⟩ := h.at_ k i hi
  refine ⟨by rw [List.length_set]; exact h1, ?_⟩
  rw [List.getElem_set]
  split
  · rename_i e; subst e; rw [← hk]; exact h2
  · exact h2
theorem Places.miss {m : List (ByteArray × Nat)} {out : List ByteArray} (h : Places m out) (hn : (SM.keys m).Nodup) {s : ByteArray} (hk : keyOf s ∉ out.map keyOf) : Places (put m (keyOf s) out.length) (out ++ [s]) := by
  have hno : SM.has m (keyOf s) = false := has_false.2 (fun hh => hk ((h.has _).1 hh))
  have e : put m (keyOf s) out.length = m ++ [(keyOf s, out.length)] := by unfold put; rw [if_neg (by rw [hno]; decide)]
  refine ⟨fun k => ?_, fun k j hj => ?_⟩
  · rw [e]
    simp only [SM.keys, List.map_append, List.mem_append, List.map_cons, List.map_nil, List.mem_singleton]
    have := h.has k
    simp only [SM.keys] at this
    rw [this]
  · have hm := (look_some hj).1
    rcases (mem_put (k, j)).1 hm with h1 | ⟨h1, h2⟩
    · injection h1 with h1 h2
      subst h1 h2
      exact ⟨by simp, by simp⟩
    · obtain ⟨h3, h4⟩ := h.at_ k j (look_mem (p := (k, j)) hn h2)
      refine ⟨by rw [List.length_append]; omega, ?_⟩
      rw [List.getElem_append_left h3]
      exact h4
end Go.Proofs.YtiamiagjkfioiaaGreatDoor.L
