/- Plain: the printed functions for the first closing brace, the place of a text in a text, its partition, as lists of bytes tell them. -/
import Derived.Test.YtlncdacoefoldaaGreatDoorSubA
namespace Go.Proofs.YtlncdacoefoldaaGreatDoor.U
set_option linter.unusedVariables false
set_option linter.unusedSimpArgs false
set_option linter.unusedSectionVars false
open Go.RowKit Go.Proofs.YtlncdacoefoldaaGreatDoorW.PrintWords Go.Proofs.YtlncdacoefoldaaGreatDoorW.PrintLast Go.Proofs.YtlncdacoefoldaaGreatDoor.PX Go.Proofs.YtlncdacoefoldaaGreatDoor.L

/-! ### the brace that closes the first one -/
def fbI (x : Nat) : Option Nat → Int
  | none => -1
  | some j => ((x + j : Nat) : Int)
theorem fbI_map (x : Nat) (o : Option Nat) : fbI x (o.map (· + 1)) = fbI (x + 1) o := by
  cases o with
  | none => rfl
  | some j => show ((x + (j + 1) : Nat) : Int) = ((x + 1 + j : Nat) : Int); congr 1; omega
theorem wrD (d : Int) (h1 : -4611686018427387000 ≤ d) (h2 : d ≤ 4611686018427387000) : wrap64 (d - 1) = d - 1 ∧ wrap64 (d + 1) = d + 1 := by unfold wrap64; omega
theorem fb_skip (r : Bs) (d : Int) : fb r d true = (fb (r.drop 1) d false).map (· + 1) := by
  cases r with
  | nil => simp [fb]
  | cons c r => rfl
theorem fb_l0 (s : ByteArray) (hs : s.size < 4611686018427380000) : ∀ (n x k : Nat) (d : Int), n = s.size - x → x ≤ s.size + 1 → n + 1 ≤ k → -(x : Int) ≤ d → d ≤ x → template_getFirstBraceClosingIndex.l0 k s d (x : Int) = some (fbI x (fb (D s x) d false))
  | n, x, 0, _, _, _, hk, _, _ => by omega
  | n, x, k + 1, d, hn, hx, hk, hd1, hd2 => by
    rw [template_getFirstBraceClosingIndex.l0]
    cases h : D s x with
    | nil =>
      have := D_nil h
      rw [if_neg (by omega)]
      rfl
    | cons c r =>
      have h1 := (D_cons h).1
      have h3 := (D_cons h).2.2
      have ih := fun x' d' a b c e f => fb_l0 s hs (s.size - x') x' k d' a b c e f
      have W := Lib.hid (wrD d (by omega) (by omega))
      have W2 := Lib.hid (wrD (d - 1) (by omega) (by omega))
      have w1 := Lib.hid (wrB x (by omega)).1
      have w2 := Lib.hid (wrB (x + 1) (by omega)).1
      rw [if_pos (by omega), if_pos (by omega), (D_cons h).2.1, W.out.1, W.out.2, W2.out.2, w1.out, w2.out, fb]
      clear W W2 w1 w2
      have hn2 : ¬ ((125 : Int) = 123) := by decide
      by_cases c125 : c = 125
      · subst c125
        rw [if_pos (show (((125 : UInt8).toNat : Nat) : Int) = 125 from rfl), if_pos (show (125 : UInt8) = 125 from rfl)]
        by_cases d0 : d - 1 = 0
        · rw [if_pos d0, if_pos d0]; rfl
        · rw [if_neg d0, if_neg d0, if_neg (show ¬ (((125 : UInt8).toNat : Nat) : Int) = 123 from hn2), ih (x + 1) (d - 1) rfl (by omega) (by omega) (by omega) (by omega), h3, fbI_map]
      · rw [if_neg (fun q => c125 ((u8 c 125).2 (by show c.toNat = 125; omega))), if_neg c125]
        by_cases c123 : c = 123
        · subst c123
          rw [if_pos (show (((123 : UInt8).toNat : Nat) : Int) = 123 from rfl), if_pos (show (123 : UInt8) = 123 from rfl), fb_skip, fbI_map, fbI_map]
          have e : D s (x + 1 + 1) = r.drop 1 := by rw [D_add s (x + 1) 1, h3]
          have hb : x + 1 + 1 ≤ s.size + 1 := by clear e; omega
          rw [ih (x + 1 + 1) (d + 1) rfl hb (by clear e; omega) (by clear e; omega) (by clear e; omega), e]
        · rw [if_neg (fun q => c123 ((u8 c 123).2 (by show c.toNat = 123; omega))), if_neg c123, ih (x + 1) d rfl (by omega) (by omega) (by omega) (by omega), h3, fbI_map]
theorem fb_l (s : ByteArray) (k : Nat) (hs : s.size < 4611686018427380000) (hk : s.size + 2 ≤ k) : template_getFirstBraceClosingIndex.f k s = some (fbI 0 (fb s.data.toList 0 false)) :=
  fb_l0 s hs s.size 0 k 0 rfl (by omega) (by omega) (by omega) (by omega)
/-! ### the place of a text -/
theorem pre_iff (s : ByteArray) (sep : Bs) (x : Nat) (h : x + sep.length ≤ s.size) : (s.extract x (x + sep.length)).toList = sep ↔ sep.isPrefixOf (D s x) = true := by
  have e : (s.extract x (x + sep.length)).toList = (D s x).take sep.length := by
    rw [ext_D, mk_toList, Nat.add_sub_cancel_left]
  rw [e, List.isPrefixOf_iff_prefix, List.prefix_iff_eq_take]
  exact eq_comm
theorem idx_none_short : ∀ (sep : Bs) (l : Bs), l.length < sep.length → idx sep l = none
  | sep, [], h => by rw [idx, if_neg (fun e => by rw [e] at h; simp at h)]
  | sep, c :: r, h => by
    have ih := idx_none_short sep r (by simp at h; omega)
    have : sep.isPrefixOf (c :: r) = false := by
      cases e : sep.isPrefixOf (c :: r)
      · rfl
      · have := (List.isPrefixOf_iff_prefix.1 e).length_le; omega
    rw [idx, this, ih]
    rfl
theorem index_l0 (s sp : ByteArray) (hs : s.size < 2305843009213693952) (hp : 1 ≤ sp.size) (hp2 : sp.size < 2305843009213693952) : ∀ (n x k : Nat), n = s.size - x → x ≤ s.size → n + 1 ≤ k → template_zzIndex.l0 k s sp (x : Int) = some (fbI x (idx sp.data.toList (D s x)))
  | n, x, 0, _, _, hk => by omega
  | n, x, k + 1, hn, hx, hk => by
    have hl : sp.data.toList.length = sp.size := by rw [Array.length_toList]; rfl
    rw [template_zzIndex.l0, wrA x sp.size (by omega)]
    by_cases hlt : x + sp.size ≤ s.size
    · rw [if_pos (by omega), if_pos (by omega), if_pos (by omega)]
      have hpre := pre_iff s sp.data.toList x (by rw [hl]; omega)
      rw [hl] at hpre
      have hne : D s x ≠ [] := fun e => by have := D_nil e; omega
      obtain ⟨c, r, h⟩ := List.exists_cons_of_ne_nil hne
      have h3 := (D_cons h).2.2
      rw [h] at hpre
      have hsp : sp.toList = sp.data.toList := by rw [Lib.toList_data]
      rw [show ((x : Int)).toNat = x from rfl, show (((x + sp.size : Nat) : Int)).toNat = x + sp.size from rfl, hsp, h, idx]
      by_cases hh : (s.extract x (x + sp.size)).toList = sp.data.toList
      · rw [if_pos hh, if_pos (hpre.1 hh)]; rfl
      · rw [if_neg hh, if_neg (fun q => hh (hpre.2 q)), (wrB x (by omega)).1, index_l0 s sp hs hp hp2 (n - 1) (x + 1) k (by omega) (by omega) (by omega), h3, fbI_map]
    · rw [if_neg (by omega), idx_none_short _ _ (by rw [D_len, hl]; omega)]
      rfl
theorem index_l (s sp : ByteArray) (k : Nat) (hs : s.size < 2305843009213693952) (hp : 1 ≤ sp.size) (hp2 : sp.size < 2305843009213693952) (hk : s.size + 1 ≤ k) : template_zzIndex.f k s sp = some (fbI 0 (idx sp.data.toList s.data.toList)) :=
  index_l0 s sp hs hp hp2 s.size 0 k rfl (by omega) hk
theorem idx_le : ∀ (sep l : Bs) (i : Nat), idx sep l = some i → i + sep.length ≤ l.length
  | sep, [], i, h => by
    rw [idx] at h
    split at h
    · rename_i e; injection h with h; subst h; simp [e]
    · cases h
  | sep, c :: r, i, h => by
    rw [idx] at h
    split at h
    · rename_i e
      injection h with h
      subst h
      have := (List.isPrefixOf_iff_prefix.1 e).length_le
      omega
    · cases e : idx sep r with
      | none => rw [e] at h; cases h
      | some j =>
        rw [e] at h
        have := idx_le sep r j e
        simp at h
        subst h
        simp; omega
theorem contains_l (s sp : ByteArray) (k : Nat) (hs : s.size < 2305843009213693952) (hp : 1 ≤ sp.size) (hp2 : sp.size < 2305843009213693952) (hk : s.size + 1 ≤ k) : template_zzContains.f k s sp = some (idx sp.data.toList s.data.toList).isSome := by
  unfold template_zzContains.f
  rw [index_l s sp k hs hp hp2 hk]
  simp only [Option.bind_some]
  cases idx sp.data.toList s.data.toList with
  | none => rfl
  | some j => exact congrArg some (decide_eq_true (by show (0 : Int) ≤ ((0 + j : Nat) : Int); omega))
/-- a text cut at the first separator -/
def part (sep l : Bs) : Bs × Bs := match idx sep l with
  | none => (l, [])
  | some i => (l.take i, l.drop (i + sep.length))
theorem partition_l (s sp : ByteArray) (k : Nat) (hs : s.size < 2305843009213693952) (hp : 1 ≤ sp.size) (hp2 : sp.size < 2305843009213693952) (hk : s.size + 1 ≤ k) : template_partition.f k s sp = some (mk (part sp.data.toList s.data.toList).1, mk (part sp.data.toList s.data.toList).2) := by
  have hl : sp.data.toList.length = sp.size := by rw [Array.length_toList]; rfl
  have hl2 : s.data.toList.length = s.size := by rw [Array.length_toList]; rfl
  unfold template_partition.f part
  rw [contains_l s sp k hs hp hp2 hk, Option.bind_some]
  cases h : idx sp.data.toList s.data.toList with
  | none =>
    rw [if_neg (by decide)]
    rw [mk_of]
    rfl
  | some i =>
    have hi := idx_le _ _ _ h
    rw [hl, hl2] at hi
    rw [if_pos (show (some i).isSome = true from rfl)]
    unfold template_zzSplitTwo.f
    rw [index_l s sp k hs hp hp2 hk, h, Option.bind_some]
    show Option.bind (if (0 : Int) ≤ ((0 + i : Nat) : Int) then _ else none) _ = _
    rw [if_pos (by omega)]
    have w := wrA (0 + i) sp.size (by omega)
    show Option.bind (if ((0 + i : Nat) : Int) ≤ (s.size : Int) then (if 0 ≤ wrap64 (((0 + i : Nat) : Int) + (sp.size : Int)) then (if wrap64 (((0 + i : Nat) : Int) + (sp.size : Int)) ≤ (s.size : Int) then some [s.extract 0 (((0 + i : Nat) : Int)).toNat, s.extract (wrap64 (((0 + i : Nat) : Int) + (sp.size : Int))).toNat s.size] else none) else none) else none) _ = _
    rw [w]
    clear w
    rw [if_pos (by omega), if_pos (by omega), if_pos (by omega), Option.bind_some, if_pos (by show (0 : Int) < ((2 : Nat) : Int); decide), if_pos (by show (1 : Int) < ((2 : Nat) : Int); decide)]
    show some (s.extract 0 (0 + i), s.extract (0 + i + sp.size) s.size) = _
    rw [Nat.zero_add, hl, extract_end, extract_start]
end Go.Proofs.YtlncdacoefoldaaGreatDoor.U
