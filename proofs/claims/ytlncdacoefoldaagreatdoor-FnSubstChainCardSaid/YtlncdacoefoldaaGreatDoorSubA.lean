/- Plain: the printed matcher zzAt, the first closing brace, the place of a text in a text, its partition, as lists of bytes tell them. -/
import Derived.Test.YtlncdacoefoldaaGreatDoorSubN
import Derived.Test.YtlncdacoefoldaaGreatDoorPXx4
namespace Go.Proofs.YtlncdacoefoldaaGreatDoor.U
set_option linter.unusedVariables false
set_option linter.unusedSimpArgs false
set_option linter.unusedSectionVars false
open Go.RowKit Go.Proofs.YtlncdacoefoldaaGreatDoorW.PrintWords Go.Proofs.YtlncdacoefoldaaGreatDoorW.PrintLast Go.Proofs.YtlncdacoefoldaaGreatDoor.PX Go.Proofs.YtlncdacoefoldaaGreatDoor.L

/-- the groups as the program lists them -/
def groups (m : M) : List ByteArray := [mk m.all, mk m.esc, mk m.named, mk m.braced, mk m.op, mk []]
def atAns (i : Nat) : Option M → List ByteArray × Int × Bool
  | none => ([], 0, false)
  | some m => (groups m, ((i + m.all.length : Nat) : Int), true)
theorem ext_D (s : ByteArray) (a b : Nat) : s.extract a b = mk ((D s a).take (b - a)) := extract_mk s a b
theorem more_le : ∀ (l : Bs), ∀ k, more l k ≤ l.length
  | [], k => by simp [more]
  | c :: r, 0 => by
    rw [more]
    split
    · simp
    · have := more_le r (charN (c :: r) - 1); simp; omega
  | c :: r, k + 1 => by
    have := more_le r k
    rw [more]; simp; omega
theorem nameN_le (l : Bs) : nameN l ≤ l.length := by
  unfold nameN
  split
  · exact Nat.zero_le _
  · exact more_le l 0
theorem opN_le : ∀ l : Bs, opN l ≤ l.length
  | [] => Nat.le_refl _
  | [c] => by
    have : ((([] : Bs).head?.map isS).getD false) = false := rfl
    simp only [opN, List.length_singleton]
    rw [this]
    repeat' split
    all_goals first | omega | simp_all
  | c :: d :: r => by
    unfold opN
    simp only [List.length_cons]
    repeat' split
    all_goals omega
theorem lastB_lt : ∀ (l : Bs) (j : Nat), lastB l = some j → j < l.length
  | [], _, h => by simp [lastB] at h
  | c :: r, j, h => by
    rw [lastB] at h
    split at h
    · cases h
    · cases e : lastB r with
      | some i =>
        rw [e] at h
        have := lastB_lt r i e
        simp at h
        subst h
        simp; omega
      | none =>
        rw [e] at h
        simp only [] at h
        split at h
        · injection h with h; subst h; simp
        · cases h
theorem at_bad (s : ByteArray) (i : Nat) (hs : s.size < 4611686018427380000) (h1 : i < s.size) :
    (some ((([(⟨#[36, 123]⟩ : ByteArray), (⟨#[]⟩ : ByteArray), (⟨#[]⟩ : ByteArray), (⟨#[]⟩ : ByteArray), (⟨#[]⟩ : ByteArray), (⟨#[]⟩ : ByteArray)] : List ByteArray)), wrap64 ((i : Int) + 2), true)) = some (atAns i (some bad)) := by
  obtain ⟨_, w2, _⟩ := wrB i (by omega)
  rw [w2]
  rfl
set_option maxHeartbeats 400000 in
theorem at_braced (s : ByteArray) (i k : Nat) (r : Bs) (hs : s.size < 4611686018427380000) (hk : 2 * s.size + 17 ≤ k) (h : D s i = 36 :: 123 :: r) (p n : Nat) (hnn : n = nameN r) (hp : p = i + 2 + n) (b : Bool)
    (HBT : Hid (b = true → (r.drop n).head? = some 125 ∧ n ≠ 0)) (HBF : Hid (b = false → n = 0 ∨ (r.drop n).head? ≠ some 125)) :
    template_zzAt.j1 (k + 2) s (i : Int) (p : Int) b = some (atAns i (some (bracedM r))) := by
  have h1 := (D_cons h).1
  have h3 := (D_cons h).2.2
  have g1 := (D_cons h3).1
  have g3 : D s (i + 2) = r := (D_cons h3).2.2
  have W2 := Lib.hid (wrB i (by omega)).2.1
  have hlen := D_len s i
  rw [h] at hlen
  simp only [List.length_cons] at hlen
  have hnr := nameN_le r
  have V1 := Lib.hid (wrB p (by omega)).1
  have hpd : D s p = r.drop n := by rw [hp, D_add, g3]
  unfold bracedM
  rw [← hnn, template_zzAt.j1]
  cases b with
  | true =>
    obtain ⟨e1, e2⟩ := HBT.out rfl
    have hlt : n < r.length := by
      rcases Nat.lt_or_ge n r.length with q | q
      · exact q
      · rw [List.drop_of_length_le q] at e1; cases e1
    have E1 := Lib.hid e1
    clear e1
    rw [if_pos rfl, if_pos (by omega), V1.out, W2.out, if_pos (by omega), if_pos (by omega), if_pos (by omega), if_pos (by omega), if_pos (by omega), if_neg e2, if_pos E1.out]
    simp only [Int.toNat_natCast, ext_D, h, g3]
    have a1 : p + 1 - i = n + 1 + 1 + 1 := by omega
    have a2 : p - (i + 2) = n := by omega
    rw [a1, a2]
    have a3 : (36 :: 123 :: r).take (n + 1 + 1 + 1) = 36 :: 123 :: r.take (n + 1) := rfl
    rw [a3]
    have a4 : (36 :: 123 :: r.take (n + 1)).length = n + 3 := by simp; omega
    have a5 : i + (36 :: 123 :: r.take (n + 1)).length = p + 1 := by rw [a4]; omega
    rw [← a5]
    rfl
  | false =>
    rw [if_neg (by decide)]
    have X := oper_l s p k hs (by omega)
    rw [hpd] at X
    rw [X, Option.bind_some]
    clear X
    by_cases n0 : n = 0
    · rw [W2.out, if_neg (by omega), template_zzAt.j2, if_neg (by decide), at_bad s i hs h1, if_pos n0]
    · have HH : Hid (¬ ((r.drop n).head? = some 125)) := Lib.hid (by rcases HBF.out rfl with q | q; exact absurd q n0; exact q)
      rw [W2.out, if_pos (by omega), if_neg n0, if_neg HH.out, template_zzAt.j2]
      by_cases o0 : opN (r.drop n) = 0
      · rw [if_pos o0, if_pos o0, if_neg (by decide), at_bad s i hs h1]
      · have hol := opN_le (r.drop n)
        rw [List.length_drop] at hol
        rw [if_neg o0, if_neg o0, if_pos (decide_eq_true (by omega)), last_l s _ k hs (by omega) (by omega)]
        have hq : D s (p + opN (r.drop n)) = r.drop (n + opN (r.drop n)) := by rw [D_add, hpd, List.drop_drop]
        rw [hq]
        simp only [Option.bind_some]
        cases hl : lastB (r.drop (n + opN (r.drop n))) with
        | none =>
          simp only []
          rw [if_neg (by decide), at_bad s i hs h1]
        | some j =>
          simp only []
          have hj := lastB_lt _ _ hl
          rw [List.length_drop] at hj
          have V2 := Lib.hid (wrB (p + opN (r.drop n) + j) (by omega)).1
          rw [if_pos (by omega), if_pos (by omega), V2.out, W2.out, if_pos (by omega), if_pos (by omega), if_pos (by omega), if_pos (by omega), if_pos (by omega), if_pos (by omega), if_pos (by omega)]
          show some ([s.extract i (p + opN (r.drop n) + j + 1), (⟨#[]⟩ : ByteArray), (⟨#[]⟩ : ByteArray), s.extract (i + 2) (p + opN (r.drop n) + j), s.extract (p + opN (r.drop n)) (p + opN (r.drop n) + j), (⟨#[]⟩ : ByteArray)], ((p + opN (r.drop n) + j + 1 : Nat) : Int), true) = _
          rw [ext_D, ext_D, ext_D, h, g3, hq]
          clear V2 hq hl
          generalize opN (r.drop n) = o at *
          have a1 : p + o + j + 1 - i = n + o + j + 1 + 1 + 1 := by omega
          have a2 : p + o + j - (i + 2) = n + o + j := by omega
          have a6 : p + o + j - (p + o) = j := by omega
          rw [a1, a2, a6]
          have a3 : (36 :: 123 :: r).take (n + o + j + 1 + 1 + 1) = 36 :: 123 :: r.take (n + o + j + 1) := rfl
          rw [a3]
          have a4 : (36 :: 123 :: r.take (n + o + j + 1)).length = n + o + j + 3 := by simp; omega
          have a5 : i + (36 :: 123 :: r.take (n + o + j + 1)).length = p + o + j + 1 := by rw [a4]; omega
          rw [← a5]
          rfl
set_option maxHeartbeats 400000 in
theorem at_l (s : ByteArray) (i k : Nat) (hs : s.size < 4611686018427380000) (hi : i ≤ s.size) (hk : 2 * s.size + 20 ≤ k) : template_zzAt.f k s (i : Int) = some (atAns i (atM (D s i))) := by
  obtain ⟨k, rfl⟩ : ∃ m, k = m + 3 := ⟨k - 3, by omega⟩
  have W1 := Lib.hid (wrB i (by omega)).1
  have W2 := Lib.hid (wrB i (by omega)).2.1
  unfold template_zzAt.f
  rw [W1.out]
  cases h : D s i with
  | nil =>
    have := D_nil h
    rw [if_pos (by omega), template_zzAt.j0, if_pos rfl]
    rfl
  | cons c r =>
    obtain ⟨h1, h2, h3⟩ := D_cons h
    cases r with
    | nil =>
      have := D_nil h3
      rw [if_pos (by omega), template_zzAt.j0, if_pos rfl]
      rfl
    | cons d r =>
      obtain ⟨g1, g2', g3⟩ := D_cons h3
      have G2 := Lib.hid g2'
      clear g2'
      have g3 : D s (i + 2) = r := g3
      have hlen := D_len s i
      rw [h] at hlen
      simp only [List.length_cons] at hlen
      rw [if_neg (by omega), if_pos (by omega), if_pos (by omega), h2, template_zzAt.j0, atM]
      clear h2
      by_cases c36 : c = 36
      · subst c36
        rw [if_neg (show ¬ (((((36 : UInt8).toNat : Int)) != 36) = true) by decide), W1.out, if_pos (by omega), if_pos (by omega), G2.out, if_neg (show ¬ ((36 : UInt8) ≠ 36) by decide)]
        by_cases d36 : d = 36
        · subst d36
          rw [if_pos (by decide), if_pos rfl, W2.out]
          rfl
        · rw [if_neg (fun q => d36 ((u8 d 36).2 (by show d.toNat = 36; omega))), if_neg d36, name_l s (i + 1) (k + 2) hs (by omega) (by omega), h3]
          simp only [Option.bind_some]
          have hnl := nameN_le (d :: r)
          simp only [List.length_cons] at hnl
          by_cases hn : nameN (d :: r) = 0
          · rw [if_neg (by omega), if_neg (show ¬ (nameN (d :: r) ≠ 0) from fun q => q hn)]
            by_cases d123 : d = 123
            · subst d123
              rw [if_pos (by decide), if_neg (show ¬ ((123 : UInt8) ≠ 123) by decide), W2.out, name_l s (i + 2) (k + 2) hs (by omega) (by omega), g3]
              simp only [Option.bind_some]
              have hnr := nameN_le r
              have hb := fun p n a c b d e => at_braced s i k r hs (by omega) h p n a c b (Lib.hid d) (Lib.hid e)
              by_cases n0 : nameN r = 0
              · rw [if_neg (by omega)]
                exact hb _ _ rfl rfl false (fun q => by cases q) (fun _ => .inl n0)
              · rw [if_pos (by omega)]
                cases hd : r.drop (nameN r) with
                | nil =>
                  have : r.length ≤ nameN r := by
                    have := congrArg List.length hd
                    rw [List.length_drop] at this
                    simp at this; omega
                  rw [if_neg (by omega)]
                  exact hb _ _ rfl rfl false (fun q => by cases q) (fun _ => .inr (by rw [hd]; simp))
                | cons x y =>
                  have hD : D s (i + 2 + nameN r) = x :: y := by rw [D_add, g3, hd]
                  have f1 := (D_cons hD).1
                  rw [if_pos (by omega), if_pos (by omega), (D_cons hD).2.1]
                  refine hb _ _ rfl rfl _ (fun q => ⟨?_, n0⟩) (fun q => .inr ?_)
                  · rw [hd]
                    have := beq_iff_eq.1 q
                    have : x = 125 := (u8 x 125).2 (by show x.toNat = 125; omega)
                    rw [this]; rfl
                  · rw [hd]
                    have := beq_eq_false_iff_ne.1 q
                    intro e
                    injection e with e
                    exact this (by rw [e]; rfl)
            · rw [if_neg (fun q => d123 ((u8 d 123).2 (by show d.toNat = 123; omega))), if_pos d123]
              rfl
          · rw [if_pos (by omega), if_pos (by omega), if_pos (by omega), if_pos (by omega), if_pos (by omega), if_pos hn]
            simp only [Int.toNat_natCast, ext_D, h, h3]
            have a1 : i + 1 + nameN (d :: r) - i = nameN (d :: r) + 1 := by omega
            have a2 : i + 1 + nameN (d :: r) - (i + 1) = nameN (d :: r) := by omega
            rw [a1, a2]
            have a3 : (36 :: d :: r).take (nameN (d :: r) + 1) = 36 :: (d :: r).take (nameN (d :: r)) := rfl
            rw [a3]
            have a4 : (36 :: (d :: r).take (nameN (d :: r))).length = nameN (d :: r) + 1 := by simp; omega
            have a5 : i + (36 :: (d :: r).take (nameN (d :: r))).length = i + 1 + nameN (d :: r) := by rw [a4]; omega
            rw [← a5]
            rfl
      · have hb : ((c.toNat : Int) != 36) = true := bne_iff_ne.2 (fun q => c36 ((u8 c 36).2 (by show c.toNat = 36; omega)))
        rw [if_pos hb, if_pos c36]
        rfl
end Go.Proofs.YtlncdacoefoldaaGreatDoor.U
