/- Plain: the printed functions of the statements on substitution that turn a text (SubstDouble, substBare, SubstName, SubstPlain), as lists of bytes tell them. -/
import Derived.Test.YtlncdacoefoldaaGreatDoorPXx5
import Derived.Test.YtlncdacoefoldaaGreatDoorSubB
import Derived.Test.YtlncdacoefoldaaGreatDoorSubC
import Derived.Test.YtlncdacoefoldaaGreatDoorBytes
namespace Go.Proofs.YtlncdacoefoldaaGreatDoor.U
set_option linter.unusedVariables false
set_option linter.unusedSimpArgs false
set_option linter.unusedSectionVars false
open Go.RowKit Go.Proofs.YtlncdacoefoldaaGreatDoorW.PrintWords Go.Proofs.YtlncdacoefoldaaGreatDoorW.PrintLast Go.Proofs.YtlncdacoefoldaaGreatDoor.PX Go.Proofs.YtlncdacoefoldaaGreatDoor.L

def nm (l : Bs) : List Int := l.map (fun c => (c.toNat : Int))
theorem nm_app (a b : Bs) : nm a ++ nm b = nm (a ++ b) := by simp [nm]
theorem nm_one (c : UInt8) : [(c.toNat : Int)] = nm [c] := rfl
theorem nm_len (a : Bs) : (nm a).length = a.length := by simp [nm]
theorem str_nm (l : Bs) : strOfNums (nm l) = mk l := strOfNums_bv l
theorem q36 (c : UInt8) : ((c.toNat : Int) = 36) ↔ c = 36 := by rw [u8]; show _ ↔ c.toNat = 36; omega
theorem q123 (c : UInt8) : ((c.toNat : Int) = 123) ↔ c = 123 := by rw [u8]; show _ ↔ c.toNat = 123; omega
theorem q125 (c : UInt8) : ((c.toNat : Int) = 125) ↔ c = 125 := by rw [u8]; show _ ↔ c.toNat = 125; omega
theorem q10 (c : UInt8) : ((c.toNat : Int) = 10) ↔ c = 10 := by rw [u8]; show _ ↔ c.toNat = 10; omega
def plainB (c : UInt8) : Bool := c != 36 && c != 123 && c != 125 && c != 10
theorem plain_l0 (s : ByteArray) (hs : s.size ≤ 17592186044416) : ∀ (n x k : Nat) (o : Bs), n = s.size - x → x ≤ s.size → n + 1 ≤ k → o.length ≤ x → spec_SubstPlain.l0 k s (nm o) (x : Int) = some (mk (o ++ (D s x).filter plainB))
  | n, x, 0, o, _, _, hk, _ => by omega
  | n, x, k + 1, o, hn, hx, hk, ho => by
    rw [spec_SubstPlain.l0]
    cases h : D s x with
    | nil =>
      have := D_nil h
      rw [if_neg (by omega), str_nm, List.filter_nil, List.append_nil]
    | cons c r =>
      have h1 := (D_cons h).1
      have h3 := (D_cons h).2.2
      have w1 := Lib.hid (wrB x (by omega)).1
      have ih := plain_l0 s hs (n - 1) (x + 1) k o (by omega) (by omega) (by omega) (by omega)
      rw [if_pos (by omega), if_pos (by omega), (D_cons h).2.1, w1.out]
      by_cases a : c = 36
      · subst a; rw [if_pos ((q36 36).2 rfl), ih, h3]; rfl
      · by_cases b : c = 123
        · subst b; rw [if_neg (fun q => a ((q36 123).1 q)), if_pos ((q123 123).2 rfl), ih, h3]; rfl
        · by_cases d : c = 125
          · subst d; rw [if_neg (fun q => a ((q36 125).1 q)), if_neg (fun q => b ((q123 125).1 q)), if_pos ((q125 125).2 rfl), ih, h3]; rfl
          · by_cases e : c = 10
            · subst e; rw [if_neg (fun q => a ((q36 10).1 q)), if_neg (fun q => b ((q123 10).1 q)), if_neg (fun q => d ((q125 10).1 q)), if_pos ((q10 10).2 rfl), ih, h3]; rfl
            · have hp : plainB c = true := by simp [plainB, a, b, d, e]
              rw [if_neg (fun q => a ((q36 c).1 q)), if_neg (fun q => b ((q123 c).1 q)), if_neg (fun q => d ((q125 c).1 q)), if_neg (fun q => e ((q10 c).1 q)), if_pos (by rw [nm_len]; omega), nm_one, nm_app, plain_l0 s hs (n - 1) (x + 1) k _ (by omega) (by omega) (by omega) (by simp; omega), h3, List.filter_cons, hp, if_pos rfl]
              simp
theorem plain_l (s : ByteArray) (hs : s.size ≤ 17592186044416) : spec_SubstPlain.f (s.size + 1) s = some (mk (s.data.toList.filter plainB)) :=
  plain_l0 s hs s.size 0 _ [] rfl (Nat.zero_le _) (Nat.le_refl _) (Nat.zero_le _)
theorem plain_is (l : Bs) : Plain (l.filter plainB) := fun c hc => by
  have := (List.mem_filter.1 hc).2
  simp [plainB] at this
  exact ⟨this.1.1.1, this.1.1.2, this.1.2, this.2⟩
/-! ### a name -/
theorem letter_s (c : UInt8) : spec_substLetter.f (c.toNat : Int) = some (isL c) := by
  have hi := isL_iff c
  unfold spec_substLetter.f
  by_cases a : isL c = true
  · have a' := hi.1 a
    rw [a]
    repeat' split
    all_goals first
      | rfl
      | omega
      | (refine congrArg some (decide_eq_true ?_); omega)
  · have a' := fun q => a (hi.2 q)
    have a2 : isL c = false := by cases h : isL c; rfl; exact absurd h a
    rw [a2]
    repeat' split
    all_goals first
      | rfl
      | (exfalso; exact a' (by omega))
      | (refine congrArg some (decide_eq_false ?_); intro q; exact a' (by omega))
def nameFix (q : Bs) : Bs := match q with
  | [] => [95]
  | c :: r => if isL c = true then c :: r else 95 :: c :: r
def nameOf (l : Bs) : Bs := nameFix (l.filter isN)
theorem name_end (q : Bs) : (if ((nm (95 :: q)).length : Int) > 1 then (if 1 < ((nm (95 :: q)).length : Int) then ((spec_substLetter.f (rd (nm (95 :: q)) 1)).bind fun t153 => (if t153 = true then (if 1 ≤ ((nm (95 :: q)).length : Int) then (some (strOfNums ((nm (95 :: q)).drop (1 : Int).toNat))) else (none)) else (some (strOfNums (nm (95 :: q)))))) else (none)) else (some (strOfNums (nm (95 :: q))))) = some (mk (nameFix q)) := by
  rw [nm_len]
  cases q with
  | nil => rw [if_neg (by simp), str_nm]; rfl
  | cons c r =>
    have e : rd (nm (95 :: c :: r)) 1 = (c.toNat : Int) := rfl
    have e2 : (nm (95 :: c :: r)).drop (1 : Int).toNat = nm (c :: r) := rfl
    have hl1 : 1 < ((95 :: c :: r).length : Int) := by rw [List.length_cons, List.length_cons]; omega
    rw [if_pos hl1, if_pos hl1, e, letter_s, Option.bind_some, e2]
    cases hL : isL c
    · rw [if_neg (by decide), str_nm]; simp [nameFix, hL]
    · rw [if_pos rfl, if_pos (by omega), str_nm]; simp [nameFix, hL]
theorem subname_l0 (s : ByteArray) (hs : s.size ≤ 17592186044416) : ∀ (n x k : Nat) (o : Bs), n = s.size - x → x ≤ s.size → n + 1 ≤ k → o.length ≤ x → spec_SubstName.l0 k s (nm (95 :: o)) (x : Int) = some (mk (nameFix (o ++ (D s x).filter isN)))
  | n, x, 0, o, _, _, hk, _ => by omega
  | n, x, k + 1, o, hn, hx, hk, ho => by
    rw [spec_SubstName.l0]
    cases h : D s x with
    | nil =>
      have := D_nil h
      rw [if_neg (by omega), name_end, List.filter_nil, List.append_nil]
    | cons c r =>
      have h1 := (D_cons h).1
      have h3 := (D_cons h).2.2
      have w1 := Lib.hid (wrB x (by omega)).1
      have ih := subname_l0 s hs (n - 1) (x + 1) k o (by omega) (by omega) (by omega) (by omega)
      have ih2 := subname_l0 s hs (n - 1) (x + 1) k (o ++ [c]) (by omega) (by omega) (by omega) (by simp; omega)
      have ec : nm (95 :: o) ++ [(c.toNat : Int)] = nm (95 :: (o ++ [c])) := by simp [nm]
      have hd := isD_iff c
      rw [if_pos (by omega), if_pos (by omega), (D_cons h).2.1, w1.out, letter_s, Option.bind_some, ec, ih, ih2, h3, List.filter_cons]
      clear ih ih2 w1
      have hlen : (nm (95 :: o)).length < 140737488355328 := by rw [nm_len]; simp; omega
      rw [if_pos hlen]
      by_cases a : isL c = true
      · have hN : isN c = true := by simp [isN, a]
        rw [if_pos a, hN, if_pos rfl]; simp
      · rw [if_neg a]
        by_cases b : isD c = true
        · have hN : isN c = true := by simp [isN, b]
          have b' := hd.1 b
          rw [if_pos (by omega), if_pos (by omega), hN, if_pos rfl]; simp
        · have hN : isN c = false := by
            cases e : isN c
            · rfl
            · simp [isN, a, b] at e
          have b' := fun q => b (hd.2 q)
          rw [hN, if_neg (show ¬ (false = true) by decide)]
          by_cases d : (c.toNat : Int) ≥ 48
          · rw [if_pos d, if_neg (fun q => b' (by omega))]
          · rw [if_neg d]
theorem subname_l (s : ByteArray) (hs : s.size ≤ 17592186044416) : spec_SubstName.f (s.size + 1) s = some (mk (nameOf s.data.toList)) :=
  subname_l0 s hs s.size 0 _ [] rfl (Nat.zero_le _) (Nat.le_refl _) (Nat.zero_le _)
theorem nameOf_is (l : Bs) : Name (nameOf l) := by
  unfold nameOf nameFix
  have hf : ∀ c ∈ l.filter isN, isN c = true := fun c hc => (List.mem_filter.1 hc).2
  cases h : l.filter isN with
  | nil => exact ⟨⟨95, [], rfl, by decide⟩, fun c hc => by simp at hc; subst hc; decide⟩
  | cons c r =>
    rw [h] at hf
    simp only []
    by_cases a : isL c = true
    · rw [if_pos a]; exact ⟨⟨c, r, rfl, a⟩, hf⟩
    · rw [if_neg a]
      refine ⟨⟨95, c :: r, rfl, by decide⟩, fun d hd => ?_⟩
      rcases List.mem_cons.1 hd with rfl | hd
      · decide
      · exact hf d hd
theorem nameOf_len (l : Bs) : (nameOf l).length ≤ l.length + 1 := by
  have := List.length_filter_le isN l
  unfold nameOf nameFix
  cases h : l.filter isN with
  | nil => simp
  | cons c r =>
    rw [h] at this
    simp only []
    split
    · simp at this ⊢; omega
    · simp at this ⊢; omega
end Go.Proofs.YtlncdacoefoldaaGreatDoor.U
