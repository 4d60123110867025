/- Texts of this claim, joined: SubN, SubA, SubB, SubH, SpecA, SpecW, SpecQ0, SubF, SubG, SubS, SubT. -/
import Derived.Test.YtlncdacoefoldaaGreatDoorPXx3
import Derived.Test.YtlncdacoefoldaaGreatDoorSubL
import Derived.Test.YtlncdacoefoldaaGreatDoorMrg3
import Derived.Test.YtlncdacoefoldaaGreatDoorPXx4
import Derived.Test.YtlncdacoefoldaaGreatDoorPXx5
import Derived.Test.YtlncdacoefoldaaGreatDoorPXx6
import Derived.Test.YtlncdacoefoldaaGreatDoorPXx7
import Derived.Test.YtlncdacoefoldaaGreatDoorSpecN
import Derived.Test.YtlncdacoefoldaaGreatDoorLook
import Derived.Test.YtlncdacoefoldaaGreatDoorSubP
import Derived.Test.YtlncdacoefoldaaGreatDoorSubQ
import Derived.Test.YtlncdacoefoldaaGreatDoorShelf
import Derived.Test.YtlncdacoefoldaaGreatDoorSort2
import Derived.Lib.SortBridge
import Derived.Deep.RegionWith
import Derived.BigQuiet
/- Plain: the printed functions of the package's matcher (zzName, zzOperator, zzLast, zzAt), as lists of bytes tell them. -/
namespace Go.Proofs.YtlncdacoefoldaaGreatDoor.U
set_option linter.unusedVariables false
set_option linter.unusedSimpArgs false
set_option linter.unusedSectionVars false
open Go.RowKit Go.Proofs.YtlncdacoefoldaaGreatDoorW.PrintWords Go.Proofs.YtlncdacoefoldaaGreatDoorW.PrintLast Go.Proofs.YtlncdacoefoldaaGreatDoor.PX Go.Proofs.YtlncdacoefoldaaGreatDoor.L

/-! ### a name -/
theorem letN_le : ∀ l : Bs, letN l ≤ l.length
  | [] => Nat.le_refl _
  | [c] => by
    rw [letN]
    have e : ((197 : UInt8) == 226) = false := by decide
    split
    · simp
    · rename_i h
      by_cases a : c = 197
      · subst a; simp [e]
      · by_cases b : c = 226
        · subst b; simp
        · simp [a, b]
  | [c, d] => by
    rw [letN]
    split
    · simp
    · split
      · simp
      · simp
  | c :: d :: e :: r => by
    rw [letN]
    repeat' split
    all_goals simp
theorem charN_le (l : Bs) : charN l ≤ l.length := by
  cases l with
  | nil => exact Nat.le_refl _
  | cons c r =>
    show (if letN (c :: r) = 0 ∧ isD c = true then 1 else letN (c :: r)) ≤ _
    split
    · simp
    · exact letN_le _
theorem more_skip : ∀ (n : Nat) (r : Bs), n ≤ r.length → more r n = n + more (r.drop n) 0
  | 0, r, _ => by simp
  | n + 1, [], h => by simp at h
  | n + 1, c :: r, h => by
    have ih := more_skip n r (by simpa using h)
    rw [more, ih, List.drop_succ_cons]
    omega
theorem more_step (l : Bs) (h : charN l ≠ 0) : more l 0 = charN l + more (l.drop (charN l)) 0 := by
  cases l with
  | nil => exact absurd rfl h
  | cons c r =>
    have hl := charN_le (c :: r)
    simp at hl
    rw [more, if_neg h, more_skip _ _ (by omega)]
    have e : (c :: r).drop (charN (c :: r)) = r.drop (charN (c :: r) - 1) := by
      obtain ⟨m, hm⟩ : ∃ m, charN (c :: r) = m + 1 := ⟨charN (c :: r) - 1, by omega⟩
      rw [hm]; rfl
    rw [e]
    omega
theorem more_end (l : Bs) (h : charN l = 0) : more l 0 = 0 := by
  cases l with
  | nil => rfl
  | cons c r => rw [more, if_pos h]
theorem name_l0 (s : ByteArray) (hs : s.size < 4611686018427380000) : ∀ (n x k : Nat), n = s.size - x → x ≤ s.size → 2 * n + 4 ≤ k → template_zzName.l0 k s (x : Int) = some ((x + more (D s x) 0 : Nat) : Int)
  | n, x, 0, _, _, hk => by omega
  | n, x, 1, _, _, hk => by omega
  | n, x, 2, _, _, hk => by omega
  | n, x, 3, _, _, hk => by omega
  | n, x, k + 4, hn, hx, hk => by
    rw [template_zzName.l0]
    cases h : D s x with
    | nil =>
      have := D_nil h
      rw [if_neg (by omega)]
      rfl
    | cons c r =>
      obtain ⟨h1, h2, h3⟩ := D_cons h
      have hle := charN_le (c :: r)
      have hll := D_len s x
      rw [h] at hll
      have hc : charN (c :: r) = if letN (c :: r) = 0 ∧ isD c = true then 1 else letN (c :: r) := rfl
      have go : ∀ m : Nat, charN (c :: r) = m → m ≠ 0 → template_zzName.l0 (k + 2) s (wrap64 ((x : Int) + (m : Int))) = some ((x + more (c :: r) 0 : Nat) : Int) := by
        intro m hm hm0
        rw [wrA x m (by omega), name_l0 s hs (s.size - (x + m)) (x + m) (k + 2) rfl (by omega) (by omega), D_add, h, more_step (c :: r) (by omega), hm]
        congr 2
        omega
      rw [if_pos (by omega), show k + 3 = (k + 1) + 2 from rfl, letter_l s x (k + 1) hs, h]
      simp only [Option.bind_some, h2]
      have hj : ∀ (t : Nat) (b : Bool), charN (c :: r) = (if b = true then 1 else t) → template_zzName.j1 (k + 1 + 2) s (x : Int) (t : Int) b = some ((x + more (c :: r) 0 : Nat) : Int) := by
        intro t b ht
        rw [template_zzName.j1]
        cases b with
        | true =>
          rw [if_pos rfl, if_neg (by decide)]
          exact go 1 (by simpa using ht) (by decide)
        | false =>
          rw [if_neg (show ¬ (false = true) by decide)] at ht ⊢
          by_cases t0 : t = 0
          · subst t0
            rw [if_pos (by omega), more_end _ ht]
            rfl
          · rw [if_neg (by omega)]
            exact go t ht t0
      by_cases l0 : letN (c :: r) = 0
      · rw [l0]
        rw [if_pos (show ((0 : Nat) : Int) = 0 from rfl), if_pos (by omega)]
        have hd := isD_iff c
        by_cases d0 : (c.toNat : Int) ≥ 48
        · rw [if_pos d0]
          refine hj 0 _ ?_
          rw [hc, l0]
          by_cases d1 : (c.toNat : Int) ≤ 57
          · rw [if_pos ⟨rfl, hd.2 ⟨by omega, by omega⟩⟩, decide_eq_true d1, if_pos rfl]
          · rw [if_neg (fun q => d1 (by have := hd.1 q.2; omega)), decide_eq_false d1, if_neg (by decide)]
        · rw [if_neg d0]
          refine hj 0 _ ?_
          rw [hc, l0, if_neg (fun q => d0 (by have := hd.1 q.2; omega)), if_neg (by decide)]
      · rw [if_neg (by omega)]
        refine hj _ _ ?_
        rw [hc, if_neg (fun q => l0 q.1), if_neg (by decide)]
theorem name_l (s : ByteArray) (i k : Nat) (hs : s.size < 4611686018427380000) (hi : i ≤ s.size) (hk : 2 * s.size + 10 ≤ k) : template_zzName.f k s (i : Int) = some ((i + nameN (D s i) : Nat) : Int) := by
  obtain ⟨k, rfl⟩ : ∃ m, k = m + 2 := ⟨k - 2, by omega⟩
  unfold template_zzName.f
  rw [letter_l s i k hs]
  simp only [Option.bind_some]
  unfold nameN
  by_cases h : letN (D s i) = 0
  · rw [h, if_pos (by decide), if_pos rfl]
    rfl
  · rw [if_neg (by omega), if_neg h]
    have hle := letN_le (D s i)
    rw [D_len] at hle
    have hc : charN (D s i) = letN (D s i) := by
      cases e : D s i with
      | nil => rw [e] at h; exact absurd rfl h
      | cons c r =>
        rw [e] at h
        show (if letN (c :: r) = 0 ∧ isD c = true then 1 else letN (c :: r)) = _
        rw [if_neg (fun q => h q.1)]
    rw [wrA _ _ (by omega), name_l0 s hs _ _ _ rfl (by omega) (by omega), D_add, more_step (D s i) (by omega), hc]
    congr 2
    omega
/-! ### an operator -/
theorem oper_l (s : ByteArray) (i k : Nat) (hs : s.size < 4611686018427380000) (hi : i ≤ s.size) : template_zzOperator.f (k + 1) s (i : Int) = some ((if opN (D s i) = 0 then 0 else i + opN (D s i) : Nat) : Int) := by
  obtain ⟨w1, w2, _⟩ := wrB i (by omega)
  obtain ⟨w3, _, _⟩ := wrB (i + 1) (by omega)
  unfold template_zzOperator.f
  cases h : D s i with
  | nil =>
    have := D_nil h
    rw [if_neg (by omega), template_zzOperator.j0, if_neg (by decide), if_neg (by omega)]
    rfl
  | cons c r =>
    obtain ⟨h1, h2, h3⟩ := D_cons h
    rw [if_pos (by omega), if_pos (by omega), template_zzOperator.j0, h2, w1, w3]
    have hS : ∀ d : UInt8, isS d = true ↔ ((d.toNat : Int) = 45 ∨ (d.toNat : Int) = 43 ∨ (d.toNat : Int) = 63) := fun d => by rw [isS_iff]; omega
    by_cases c58 : c = 58
    · subst c58
      rw [if_pos (by decide)]
      cases r with
      | nil =>
        have := D_nil h3
        rw [if_neg (by omega)]
        rfl
      | cons d q =>
        obtain ⟨g1, g2, _⟩ := D_cons h3
        rw [if_pos (by omega), if_pos (by omega), g2]
        have ho : opN (58 :: d :: q) = if isS d = true then 2 else 0 := by simp [opN]; rfl
        have hd := hS d
        rw [ho]
        by_cases e : isS d = true
        · have e' := hd.1 e
          have eR : ((if (if isS d = true then 2 else 0) = 0 then 0 else i + (if isS d = true then 2 else 0) : Nat) : Int) = ((i + 1 + 1 : Nat) : Int) := by simp [e]; omega
          rw [eR]
          repeat' split
          all_goals first | rfl | omega
        · have e' := fun q => e (hd.2 q)
          have eR : ((if (if isS d = true then 2 else 0) = 0 then 0 else i + (if isS d = true then 2 else 0) : Nat) : Int) = 0 := by simp [e]
          rw [eR]
          repeat' split
          all_goals first | rfl | exact absurd (.inl ‹_›) e' | exact absurd (.inr (.inl ‹_›)) e' | exact absurd (.inr (.inr ‹_›)) e'
    · have c58' : ¬ (((c.toNat : Int) == 58) = true) := fun q => c58 ((u8 c 58).2 (by have := beq_iff_eq.1 q; show c.toNat = 58; omega))
      rw [if_neg c58', if_pos (by omega), if_pos (by omega)]
      have ho : opN (c :: r) = if isS c = true then 1 else 0 := by simp [opN, c58]
      have hd := hS c
      rw [ho]
      by_cases e : isS c = true
      · have e' := hd.1 e
        have eR : ((if (if isS c = true then 1 else 0) = 0 then 0 else i + (if isS c = true then 1 else 0) : Nat) : Int) = ((i + 1 : Nat) : Int) := by simp [e]
        rw [eR]
        repeat' split
        all_goals first | rfl | omega
      · have e' := fun q => e (hd.2 q)
        have eR : ((if (if isS c = true then 1 else 0) = 0 then 0 else i + (if isS c = true then 1 else 0) : Nat) : Int) = 0 := by simp [e]
        rw [eR]
        repeat' split
        all_goals first | rfl | exact absurd (.inl ‹_›) e' | exact absurd (.inr (.inl ‹_›)) e' | exact absurd (.inr (.inr ‹_›)) e'
/-! ### the last closing brace -/
theorem last_l0 (s : ByteArray) (hs : s.size < 4611686018427380000) : ∀ (n x k : Nat) (last : Int), n = s.size - x → x ≤ s.size → 2 * n + 2 ≤ k → template_zzLast.l0 k s (x : Int) last = some (match lastB (D s x) with | some j => ((x + j : Nat) : Int) | none => last)
  | n, x, 0, _, _, _, hk => by omega
  | n, x, 1, _, _, _, hk => by omega
  | n, x, k + 2, last, hn, hx, hk => by
    rw [template_zzLast.l0]
    obtain ⟨w1, _, _⟩ := wrB x (by omega)
    cases h : D s x with
    | nil =>
      have := D_nil h
      rw [if_neg (by omega), template_zzLast.j1, if_neg (by decide)]
      rfl
    | cons c r =>
      obtain ⟨h1, h2, h3⟩ := D_cons h
      rw [if_pos (by omega), if_pos (by omega), h2, template_zzLast.j1]
      by_cases c10 : c = 10
      · subst c10
        rw [if_neg (by decide)]
        rfl
      · have hb : ((c.toNat : Int) != 10) = true := bne_iff_ne.2 (fun q => c10 ((u8 c 10).2 (by show c.toNat = 10; omega)))
        rw [if_pos hb, if_pos (by omega), if_pos (by omega), h2, w1, last_l0 s hs (n - 1) (x + 1) k _ (by omega) (by omega) (by omega), last_l0 s hs (n - 1) (x + 1) k _ (by omega) (by omega) (by omega), h3, lastB, if_neg c10]
        cases hl : lastB r with
        | some j =>
          simp only []
          by_cases c125 : (c.toNat : Int) = 125
          · rw [if_pos c125]; congr 2; omega
          · rw [if_neg c125]; congr 2; omega
        | none =>
          simp only []
          by_cases c125 : c = 125
          · subst c125
            rw [if_pos (by rfl), if_pos rfl]
            rfl
          · rw [if_neg (fun q => c125 ((u8 c 125).2 (by show c.toNat = 125; omega))), if_neg c125]
theorem last_l (s : ByteArray) (i k : Nat) (hs : s.size < 4611686018427380000) (hi : i ≤ s.size) (hk : 2 * s.size + 10 ≤ k) : template_zzLast.f k s (i : Int) = some (match lastB (D s i) with | some j => ((i + j : Nat) : Int) | none => -1) := by
  unfold template_zzLast.f
  exact last_l0 s hs _ _ _ _ rfl hi (by omega)
end Go.Proofs.YtlncdacoefoldaaGreatDoor.U

/- Plain: the printed matcher zzAt, the first closing brace, the place of a text in a text, its partition, as lists of bytes tell them. -/
namespace Go.Proofs.YtlncdacoefoldaaGreatDoor.U
set_option linter.unusedVariables false
set_option linter.unusedSimpArgs false
set_option linter.unusedSectionVars false
open Go.RowKit Go.Proofs.YtlncdacoefoldaaGreatDoorW.PrintWords Go.Proofs.YtlncdacoefoldaaGreatDoorW.PrintLast Go.Proofs.YtlncdacoefoldaaGreatDoor.PX Go.Proofs.YtlncdacoefoldaaGreatDoor.L

/-- the groups as the program lists them -/
def groups (m : M) : List ByteArray := [mk m.all, mk m.esc, mk m.named, mk m.braced, mk m.op, mk []]
def atAns (i : Nat) : Option M → List ByteArray × Int × Bool
  | none => ([], 0, false)
  | some m => (groups m, ((i + m.all.length : Nat) : Int), true)
theorem ext_D (s : ByteArray) (a b : Nat) : s.extract a b = mk ((D s a).take (b - a)) := extract_mk s a b
theorem more_le : ∀ (l : Bs), ∀ k, more l k ≤ l.length
  | [], k => by simp [more]
  | c :: r, 0 => by
    rw [more]
    split
    · simp
    · have := more_le r (charN (c :: r) - 1); simp; omega
  | c :: r, k + 1 => by
    have := more_le r k
    rw [more]; simp; omega
theorem nameN_le (l : Bs) : nameN l ≤ l.length := by
  unfold nameN
  split
  · exact Nat.zero_le _
  · exact more_le l 0
theorem opN_le : ∀ l : Bs, opN l ≤ l.length
  | [] => Nat.le_refl _
  | [c] => by
    have : ((([] : Bs).head?.map isS).getD false) = false := rfl
    simp only [opN, List.length_singleton]
    rw [this]
    repeat' split
    all_goals first | omega | simp_all
  | c :: d :: r => by
    unfold opN
    simp only [List.length_cons]
    repeat' split
    all_goals omega
theorem lastB_lt : ∀ (l : Bs) (j : Nat), lastB l = some j → j < l.length
  | [], _, h => by simp [lastB] at h
  | c :: r, j, h => by
    rw [lastB] at h
    split at h
    · cases h
    · cases e : lastB r with
      | some i =>
        rw [e] at h
        have := lastB_lt r i e
        simp at h
        subst h
        simp; omega
      | none =>
        rw [e] at h
        simp only [] at h
        split at h
        · injection h with h; subst h; simp
        · cases h
theorem at_bad (s : ByteArray) (i : Nat) (hs : s.size < 4611686018427380000) (h1 : i < s.size) :
    (some ((([(⟨#[36, 123]⟩ : ByteArray), (⟨#[]⟩ : ByteArray), (⟨#[]⟩ : ByteArray), (⟨#[]⟩ : ByteArray), (⟨#[]⟩ : ByteArray), (⟨#[]⟩ : ByteArray)] : List ByteArray)), wrap64 ((i : Int) + 2), true)) = some (atAns i (some bad)) := by
  obtain ⟨_, w2, _⟩ := wrB i (by omega)
  rw [w2]
  rfl
set_option maxHeartbeats 400000 in
theorem at_braced (s : ByteArray) (i k : Nat) (r : Bs) (hs : s.size < 4611686018427380000) (hk : 2 * s.size + 17 ≤ k) (h : D s i = 36 :: 123 :: r) (p n : Nat) (hnn : n = nameN r) (hp : p = i + 2 + n) (b : Bool)
    (HBT : Hid (b = true → (r.drop n).head? = some 125 ∧ n ≠ 0)) (HBF : Hid (b = false → n = 0 ∨ (r.drop n).head? ≠ some 125)) :
    template_zzAt.j1 (k + 2) s (i : Int) (p : Int) b = some (atAns i (some (bracedM r))) := by
  have h1 := (D_cons h).1
  have h3 := (D_cons h).2.2
  have g1 := (D_cons h3).1
  have g3 : D s (i + 2) = r := (D_cons h3).2.2
  have W2 := Lib.hid (wrB i (by omega)).2.1
  have hlen := D_len s i
  rw [h] at hlen
  simp only [List.length_cons] at hlen
  have hnr := nameN_le r
  have V1 := Lib.hid (wrB p (by omega)).1
  have hpd : D s p = r.drop n := by rw [hp, D_add, g3]
  unfold bracedM
  rw [← hnn, template_zzAt.j1]
  cases b with
  | true =>
    obtain ⟨e1, e2⟩ := HBT.out rfl
    have hlt : n < r.length := by
      rcases Nat.lt_or_ge n r.length with q | q
      · exact q
      · rw [List.drop_of_length_le q] at e1; cases e1
    have E1 := Lib.hid e1
    clear e1
    rw [if_pos rfl, if_pos (by omega), V1.out, W2.out, if_pos (by omega), if_pos (by omega), if_pos (by omega), if_pos (by omega), if_pos (by omega), if_neg e2, if_pos E1.out]
    simp only [Int.toNat_natCast, ext_D, h, g3]
    have a1 : p + 1 - i = n + 1 + 1 + 1 := by omega
    have a2 : p - (i + 2) = n := by omega
    rw [a1, a2]
    have a3 : (36 :: 123 :: r).take (n + 1 + 1 + 1) = 36 :: 123 :: r.take (n + 1) := rfl
    rw [a3]
    have a4 : (36 :: 123 :: r.take (n + 1)).length = n + 3 := by simp; omega
    have a5 : i + (36 :: 123 :: r.take (n + 1)).length = p + 1 := by rw [a4]; omega
    rw [← a5]
    rfl
  | false =>
    rw [if_neg (by decide)]
    have X := oper_l s p k hs (by omega)
    rw [hpd] at X
    rw [X, Option.bind_some]
    clear X
    by_cases n0 : n = 0
    · rw [W2.out, if_neg (by omega), template_zzAt.j2, if_neg (by decide), at_bad s i hs h1, if_pos n0]
    · have HH : Hid (¬ ((r.drop n).head? = some 125)) := Lib.hid (by rcases HBF.out rfl with q | q; exact absurd q n0; exact q)
      rw [W2.out, if_pos (by omega), if_neg n0, if_neg HH.out, template_zzAt.j2]
      by_cases o0 : opN (r.drop n) = 0
      · rw [if_pos o0, if_pos o0, if_neg (by decide), at_bad s i hs h1]
      · have hol := opN_le (r.drop n)
        rw [List.length_drop] at hol
        rw [if_neg o0, if_neg o0, if_pos (decide_eq_true (by omega)), last_l s _ k hs (by omega) (by omega)]
        have hq : D s (p + opN (r.drop n)) = r.drop (n + opN (r.drop n)) := by rw [D_add, hpd, List.drop_drop]
        rw [hq]
        simp only [Option.bind_some]
        cases hl : lastB (r.drop (n + opN (r.drop n))) with
        | none =>
          simp only []
          rw [if_neg (by decide), at_bad s i hs h1]
        | some j =>
          simp only []
          have hj := lastB_lt _ _ hl
          rw [List.length_drop] at hj
          have V2 := Lib.hid (wrB (p + opN (r.drop n) + j) (by omega)).1
          rw [if_pos (by omega), if_pos (by omega), V2.out, W2.out, if_pos (by omega), if_pos (by omega), if_pos (by omega), if_pos (by omega), if_pos (by omega), if_pos (by omega), if_pos (by omega)]
          show some ([s.extract i (p + opN (r.drop n) + j + 1), (⟨#[]⟩ : ByteArray), (⟨#[]⟩ : ByteArray), s.extract (i + 2) (p + opN (r.drop n) + j), s.extract (p + opN (r.drop n)) (p + opN (r.drop n) + j), (⟨#[]⟩ : ByteArray)], ((p + opN (r.drop n) + j + 1 : Nat) : Int), true) = _
          rw [ext_D, ext_D, ext_D, h, g3, hq]
          clear V2 hq hl
          generalize opN (r.drop n) = o at *
          have a1 : p + o + j + 1 - i = n + o + j + 1 + 1 + 1 := by omega
          have a2 : p + o + j - (i + 2) = n + o + j := by omega
          have a6 : p + o + j - (p + o) = j := by omega
          rw [a1, a2, a6]
          have a3 : (36 :: 123 :: r).take (n + o + j + 1 + 1 + 1) = 36 :: 123 :: r.take (n + o + j + 1) := rfl
          rw [a3]
          have a4 : (36 :: 123 :: r.take (n + o + j + 1)).length = n + o + j + 3 := by simp; omega
          have a5 : i + (36 :: 123 :: r.take (n + o + j + 1)).length = p + o + j + 1 := by rw [a4]; omega
          rw [← a5]
          rfl
set_option maxHeartbeats 400000 in
theorem at_l (s : ByteArray) (i k : Nat) (hs : s.size < 4611686018427380000) (hi : i ≤ s.size) (hk : 2 * s.size + 20 ≤ k) : template_zzAt.f k s (i : Int) = some (atAns i (atM (D s i))) := by
  obtain ⟨k, rfl⟩ : ∃ m, k = m + 3 := ⟨k - 3, by omega⟩
  have W1 := Lib.hid (wrB i (by omega)).1
  have W2 := Lib.hid (wrB i (by omega)).2.1
  unfold template_zzAt.f
  rw [W1.out]
  cases h : D s i with
  | nil =>
    have := D_nil h
    rw [if_pos (by omega), template_zzAt.j0, if_pos rfl]
    rfl
  | cons c r =>
    obtain ⟨h1, h2, h3⟩ := D_cons h
    cases r with
    | nil =>
      have := D_nil h3
      rw [if_pos (by omega), template_zzAt.j0, if_pos rfl]
      rfl
    | cons d r =>
      obtain ⟨g1, g2', g3⟩ := D_cons h3
      have G2 := Lib.hid g2'
      clear g2'
      have g3 : D s (i + 2) = r := g3
      have hlen := D_len s i
      rw [h] at hlen
      simp only [List.length_cons] at hlen
      rw [if_neg (by omega), if_pos (by omega), if_pos (by omega), h2, template_zzAt.j0, atM]
      clear h2
      by_cases c36 : c = 36
      · subst c36
        rw [if_neg (show ¬ (((((36 : UInt8).toNat : Int)) != 36) = true) by decide), W1.out, if_pos (by omega), if_pos (by omega), G2.out, if_neg (show ¬ ((36 : UInt8) ≠ 36) by decide)]
        by_cases d36 : d = 36
        · subst d36
          rw [if_pos (by decide), if_pos rfl, W2.out]
          rfl
        · rw [if_neg (fun q => d36 ((u8 d 36).2 (by show d.toNat = 36; omega))), if_neg d36, name_l s (i + 1) (k + 2) hs (by omega) (by omega), h3]
          simp only [Option.bind_some]
          have hnl := nameN_le (d :: r)
          simp only [List.length_cons] at hnl
          by_cases hn : nameN (d :: r) = 0
          · rw [if_neg (by omega), if_neg (show ¬ (nameN (d :: r) ≠ 0) from fun q => q hn)]
            by_cases d123 : d = 123
            · subst d123
              rw [if_pos (by decide), if_neg (show ¬ ((123 : UInt8) ≠ 123) by decide), W2.out, name_l s (i + 2) (k + 2) hs (by omega) (by omega), g3]
              simp only [Option.bind_some]
              have hnr := nameN_le r
              have hb := fun p n a c b d e => at_braced s i k r hs (by omega) h p n a c b (Lib.hid d) (Lib.hid e)
              by_cases n0 : nameN r = 0
              · rw [if_neg (by omega)]
                exact hb _ _ rfl rfl false (fun q => by cases q) (fun _ => .inl n0)
              · rw [if_pos (by omega)]
                cases hd : r.drop (nameN r) with
                | nil =>
                  have : r.length ≤ nameN r := by
                    have := congrArg List.length hd
                    rw [List.length_drop] at this
                    simp at this; omega
                  rw [if_neg (by omega)]
                  exact hb _ _ rfl rfl false (fun q => by cases q) (fun _ => .inr (by rw [hd]; simp))
                | cons x y =>
                  have hD : D s (i + 2 + nameN r) = x :: y := by rw [D_add, g3, hd]
                  have f1 := (D_cons hD).1
                  rw [if_pos (by omega), if_pos (by omega), (D_cons hD).2.1]
                  refine hb _ _ rfl rfl _ (fun q => ⟨?_, n0⟩) (fun q => .inr ?_)
                  · rw [hd]
                    have := beq_iff_eq.1 q
                    have : x = 125 := (u8 x 125).2 (by show x.toNat = 125; omega)
                    rw [this]; rfl
                  · rw [hd]
                    have := beq_eq_false_iff_ne.1 q
                    intro e
                    injection e with e
                    exact this (by rw [e]; rfl)
            · rw [if_neg (fun q => d123 ((u8 d 123).2 (by show d.toNat = 123; omega))), if_pos d123]
              rfl
          · rw [if_pos (by omega), if_pos (by omega), if_pos (by omega), if_pos (by omega), if_pos (by omega), if_pos hn]
            simp only [Int.toNat_natCast, ext_D, h, h3]
            have a1 : i + 1 + nameN (d :: r) - i = nameN (d :: r) + 1 := by omega
            have a2 : i + 1 + nameN (d :: r) - (i + 1) = nameN (d :: r) := by omega
            rw [a1, a2]
            have a3 : (36 :: d :: r).take (nameN (d :: r) + 1) = 36 :: (d :: r).take (nameN (d :: r)) := rfl
            rw [a3]
            have a4 : (36 :: (d :: r).take (nameN (d :: r))).length = nameN (d :: r) + 1 := by simp; omega
            have a5 : i + (36 :: (d :: r).take (nameN (d :: r))).length = i + 1 + nameN (d :: r) := by rw [a4]; omega
            rw [← a5]
            rfl
      · have hb : ((c.toNat : Int) != 36) = true := bne_iff_ne.2 (fun q => c36 ((u8 c 36).2 (by show c.toNat = 36; omega)))
        rw [if_pos hb, if_pos c36]
        rfl
end Go.Proofs.YtlncdacoefoldaaGreatDoor.U

/- Plain: the printed functions for the first closing brace, the place of a text in a text, its partition, as lists of bytes tell them. -/
namespace Go.Proofs.YtlncdacoefoldaaGreatDoor.U
set_option linter.unusedVariables false
set_option linter.unusedSimpArgs false
set_option linter.unusedSectionVars false
open Go.RowKit Go.Proofs.YtlncdacoefoldaaGreatDoorW.PrintWords Go.Proofs.YtlncdacoefoldaaGreatDoorW.PrintLast Go.Proofs.YtlncdacoefoldaaGreatDoor.PX Go.Proofs.YtlncdacoefoldaaGreatDoor.L

/-! ### the brace that closes the first one -/
def fbI (x : Nat) : Option Nat → Int
  | none => -1
  | some j => ((x + j : Nat) : Int)
theorem fbI_map (x : Nat) (o : Option Nat) : fbI x (o.map (· + 1)) = fbI (x + 1) o := by
  cases o with
  | none => rfl
  | some j => show ((x + (j + 1) : Nat) : Int) = ((x + 1 + j : Nat) : Int); congr 1; omega
theorem wrD (d : Int) (h1 : -4611686018427387000 ≤ d) (h2 : d ≤ 4611686018427387000) : wrap64 (d - 1) = d - 1 ∧ wrap64 (d + 1) = d + 1 := by unfold wrap64; omega
theorem fb_skip (r : Bs) (d : Int) : fb r d true = (fb (r.drop 1) d false).map (· + 1) := by
  cases r with
  | nil => simp [fb]
  | cons c r => rfl
theorem fb_l0 (s : ByteArray) (hs : s.size < 4611686018427380000) : ∀ (n x k : Nat) (d : Int), n = s.size - x → x ≤ s.size + 1 → n + 1 ≤ k → -(x : Int) ≤ d → d ≤ x → template_getFirstBraceClosingIndex.l0 k s d (x : Int) = some (fbI x (fb (D s x) d false))
  | n, x, 0, _, _, _, hk, _, _ => by omega
  | n, x, k + 1, d, hn, hx, hk, hd1, hd2 => by
    rw [template_getFirstBraceClosingIndex.l0]
    cases h : D s x with
    | nil =>
      have := D_nil h
      rw [if_neg (by omega)]
      rfl
    | cons c r =>
      have h1 := (D_cons h).1
      have h3 := (D_cons h).2.2
      have ih := fun x' d' a b c e f => fb_l0 s hs (s.size - x') x' k d' a b c e f
      have W := Lib.hid (wrD d (by omega) (by omega))
      have W2 := Lib.hid (wrD (d - 1) (by omega) (by omega))
      have w1 := Lib.hid (wrB x (by omega)).1
      have w2 := Lib.hid (wrB (x + 1) (by omega)).1
      rw [if_pos (by omega), if_pos (by omega), (D_cons h).2.1, W.out.1, W.out.2, W2.out.2, w1.out, w2.out, fb]
      clear W W2 w1 w2
      have hn2 : ¬ ((125 : Int) = 123) := by decide
      by_cases c125 : c = 125
      · subst c125
        rw [if_pos (show (((125 : UInt8).toNat : Nat) : Int) = 125 from rfl), if_pos (show (125 : UInt8) = 125 from rfl)]
        by_cases d0 : d - 1 = 0
        · rw [if_pos d0, if_pos d0]; rfl
        · rw [if_neg d0, if_neg d0, if_neg (show ¬ (((125 : UInt8).toNat : Nat) : Int) = 123 from hn2), ih (x + 1) (d - 1) rfl (by omega) (by omega) (by omega) (by omega), h3, fbI_map]
      · rw [if_neg (fun q => c125 ((u8 c 125).2 (by show c.toNat = 125; omega))), if_neg c125]
        by_cases c123 : c = 123
        · subst c123
          rw [if_pos (show (((123 : UInt8).toNat : Nat) : Int) = 123 from rfl), if_pos (show (123 : UInt8) = 123 from rfl), fb_skip, fbI_map, fbI_map]
          have e : D s (x + 1 + 1) = r.drop 1 := by rw [D_add s (x + 1) 1, h3]
          have hb : x + 1 + 1 ≤ s.size + 1 := by clear e; omega
          rw [ih (x + 1 + 1) (d + 1) rfl hb (by clear e; omega) (by clear e; omega) (by clear e; omega), e]
        · rw [if_neg (fun q => c123 ((u8 c 123).2 (by show c.toNat = 123; omega))), if_neg c123, ih (x + 1) d rfl (by omega) (by omega) (by omega) (by omega), h3, fbI_map]
theorem fb_l (s : ByteArray) (k : Nat) (hs : s.size < 4611686018427380000) (hk : s.size + 2 ≤ k) : template_getFirstBraceClosingIndex.f k s = some (fbI 0 (fb s.data.toList 0 false)) :=
  fb_l0 s hs s.size 0 k 0 rfl (by omega) (by omega) (by omega) (by omega)
/-! ### the place of a text -/
theorem pre_iff (s : ByteArray) (sep : Bs) (x : Nat) (h : x + sep.length ≤ s.size) : (s.extract x (x + sep.length)).toList = sep ↔ sep.isPrefixOf (D s x) = true := by
  have e : (s.extract x (x + sep.length)).toList = (D s x).take sep.length := by
    rw [ext_D, mk_toList, Nat.add_sub_cancel_left]
  rw [e, List.isPrefixOf_iff_prefix, List.prefix_iff_eq_take]
  exact eq_comm
theorem idx_none_short : ∀ (sep : Bs) (l : Bs), l.length < sep.length → idx sep l = none
  | sep, [], h => by rw [idx, if_neg (fun e => by rw [e] at h; simp at h)]
  | sep, c :: r, h => by
    have ih := idx_none_short sep r (by simp at h; omega)
    have : sep.isPrefixOf (c :: r) = false := by
      cases e : sep.isPrefixOf (c :: r)
      · rfl
      · have := (List.isPrefixOf_iff_prefix.1 e).length_le; omega
    rw [idx, this, ih]
    rfl
theorem index_l0 (s sp : ByteArray) (hs : s.size < 2305843009213693952) (hp : 1 ≤ sp.size) (hp2 : sp.size < 2305843009213693952) : ∀ (n x k : Nat), n = s.size - x → x ≤ s.size → n + 1 ≤ k → template_zzIndex.l0 k s sp (x : Int) = some (fbI x (idx sp.data.toList (D s x)))
  | n, x, 0, _, _, hk => by omega
  | n, x, k + 1, hn, hx, hk => by
    have hl : sp.data.toList.length = sp.size := by rw [Array.length_toList]; rfl
    rw [template_zzIndex.l0, wrA x sp.size (by omega)]
    by_cases hlt : x + sp.size ≤ s.size
    · rw [if_pos (by omega), if_pos (by omega), if_pos (by omega)]
      have hpre := pre_iff s sp.data.toList x (by rw [hl]; omega)
      rw [hl] at hpre
      have hne : D s x ≠ [] := fun e => by have := D_nil e; omega
      obtain ⟨c, r, h⟩ := List.exists_cons_of_ne_nil hne
      have h3 := (D_cons h).2.2
      rw [h] at hpre
      have hsp : sp.toList = sp.data.toList := by rw [Lib.toList_data]
      rw [show ((x : Int)).toNat = x from rfl, show (((x + sp.size : Nat) : Int)).toNat = x + sp.size from rfl, hsp, h, idx]
      by_cases hh : (s.extract x (x + sp.size)).toList = sp.data.toList
      · rw [if_pos hh, if_pos (hpre.1 hh)]; rfl
      · rw [if_neg hh, if_neg (fun q => hh (hpre.2 q)), (wrB x (by omega)).1, index_l0 s sp hs hp hp2 (n - 1) (x + 1) k (by omega) (by omega) (by omega), h3, fbI_map]
    · rw [if_neg (by omega), idx_none_short _ _ (by rw [D_len, hl]; omega)]
      rfl
theorem index_l (s sp : ByteArray) (k : Nat) (hs : s.size < 2305843009213693952) (hp : 1 ≤ sp.size) (hp2 : sp.size < 2305843009213693952) (hk : s.size + 1 ≤ k) : template_zzIndex.f k s sp = some (fbI 0 (idx sp.data.toList s.data.toList)) :=
  index_l0 s sp hs hp hp2 s.size 0 k rfl (by omega) hk
theorem idx_le : ∀ (sep l : Bs) (i : Nat), idx sep l = some i → i + sep.length ≤ l.length
  | sep, [], i, h => by
    rw [idx] at h
    split at h
    · rename_i e; injection h with h; subst h; simp [e]
    · cases h
  | sep, c :: r, i, h => by
    rw [idx] at h
    split at h
    · rename_i e
      injection h with h
      subst h
      have := (List.isPrefixOf_iff_prefix.1 e).length_le
      omega
    · cases e : idx sep r with
      | none => rw [e] at h; cases h
      | some j =>
        rw [e] at h
        have := idx_le sep r j e
        simp at h
        subst h
        simp; omega
theorem contains_l (s sp : ByteArray) (k : Nat) (hs : s.size < 2305843009213693952) (hp : 1 ≤ sp.size) (hp2 : sp.size < 2305843009213693952) (hk : s.size + 1 ≤ k) : template_zzContains.f k s sp = some (idx sp.data.toList s.data.toList).isSome := by
  unfold template_zzContains.f
  rw [index_l s sp k hs hp hp2 hk]
  simp only [Option.bind_some]
  cases idx sp.data.toList s.data.toList with
  | none => rfl
  | some j => exact congrArg some (decide_eq_true (by show (0 : Int) ≤ ((0 + j : Nat) : Int); omega))
/-- a text cut at the first separator -/
def part (sep l : Bs) : Bs × Bs := match idx sep l with
  | none => (l, [])
  | some i => (l.take i, l.drop (i + sep.length))
theorem partition_l (s sp : ByteArray) (k : Nat) (hs : s.size < 2305843009213693952) (hp : 1 ≤ sp.size) (hp2 : sp.size < 2305843009213693952) (hk : s.size + 1 ≤ k) : template_partition.f k s sp = some (mk (part sp.data.toList s.data.toList).1, mk (part sp.data.toList s.data.toList).2) := by
  have hl : sp.data.toList.length = sp.size := by rw [Array.length_toList]; rfl
  have hl2 : s.data.toList.length = s.size := by rw [Array.length_toList]; rfl
  unfold template_partition.f part
  rw [contains_l s sp k hs hp hp2 hk, Option.bind_some]
  cases h : idx sp.data.toList s.data.toList with
  | none =>
    rw [if_neg (by decide)]
    rw [mk_of]
    rfl
  | some i =>
    have hi := idx_le _ _ _ h
    rw [hl, hl2] at hi
    rw [if_pos (show (some i).isSome = true from rfl)]
    unfold template_zzSplitTwo.f
    rw [index_l s sp k hs hp hp2 hk, h, Option.bind_some]
    show Option.bind (if (0 : Int) ≤ ((0 + i : Nat) : Int) then _ else none) _ = _
    rw [if_pos (by omega)]
    have w := wrA (0 + i) sp.size (by omega)
    show Option.bind (if ((0 + i : Nat) : Int) ≤ (s.size : Int) then (if 0 ≤ wrap64 (((0 + i : Nat) : Int) + (sp.size : Int)) then (if wrap64 (((0 + i : Nat) : Int) + (sp.size : Int)) ≤ (s.size : Int) then some [s.extract 0 (((0 + i : Nat) : Int)).toNat, s.extract (wrap64 (((0 + i : Nat) : Int) + (sp.size : Int))).toNat s.size] else none) else none) else none) _ = _
    rw [w]
    clear w
    rw [if_pos (by omega), if_pos (by omega), if_pos (by omega), Option.bind_some, if_pos (by show (0 : Int) < ((2 : Nat) : Int); decide), if_pos (by show (1 : Int) < ((2 : Nat) : Int); decide)]
    show some (s.extract 0 (0 + i), s.extract (0 + i + sp.size) s.size) = _
    rw [Nat.zero_add, hl, extract_end, extract_start]
end Go.Proofs.YtlncdacoefoldaaGreatDoor.U

/- Plain: the printed functions of the statements on substitution that turn a text (SubstDouble, substBare, SubstName, SubstPlain), as lists of bytes tell them. -/
namespace Go.Proofs.YtlncdacoefoldaaGreatDoor.U
set_option linter.unusedVariables false
set_option linter.unusedSimpArgs false
set_option linter.unusedSectionVars false
open Go.RowKit Go.Proofs.YtlncdacoefoldaaGreatDoorW.PrintWords Go.Proofs.YtlncdacoefoldaaGreatDoorW.PrintLast Go.Proofs.YtlncdacoefoldaaGreatDoor.PX Go.Proofs.YtlncdacoefoldaaGreatDoor.L

def nm (l : Bs) : List Int := l.map (fun c => (c.toNat : Int))
theorem nm_app (a b : Bs) : nm a ++ nm b = nm (a ++ b) := by simp [nm]
theorem nm_one (c : UInt8) : [(c.toNat : Int)] = nm [c] := rfl
theorem nm_len (a : Bs) : (nm a).length = a.length := by simp [nm]
theorem str_nm (l : Bs) : strOfNums (nm l) = mk l := strOfNums_bv l
theorem q36 (c : UInt8) : ((c.toNat : Int) = 36) ↔ c = 36 := by rw [u8]; show _ ↔ c.toNat = 36; omega
theorem q123 (c : UInt8) : ((c.toNat : Int) = 123) ↔ c = 123 := by rw [u8]; show _ ↔ c.toNat = 123; omega
theorem q125 (c : UInt8) : ((c.toNat : Int) = 125) ↔ c = 125 := by rw [u8]; show _ ↔ c.toNat = 125; omega
theorem q10 (c : UInt8) : ((c.toNat : Int) = 10) ↔ c = 10 := by rw [u8]; show _ ↔ c.toNat = 10; omega
theorem double_l0 (s : ByteArray) (hs : s.size ≤ 17592186044416) : ∀ (n x k : Nat) (o : Bs), n = s.size - x → x ≤ s.size → n + 1 ≤ k → o.length ≤ 2 * x → spec_SubstDouble.l0 k s (nm o) (x : Int) = some (mk (o ++ dbl (D s x)))
  | n, x, 0, o, _, _, hk, _ => by omega
  | n, x, k + 1, o, hn, hx, hk, ho => by
    rw [spec_SubstDouble.l0]
    cases h : D s x with
    | nil =>
      have := D_nil h
      rw [if_neg (by omega), str_nm, dbl, List.append_nil]
    | cons c r =>
      have h1 := (D_cons h).1
      have h3 := (D_cons h).2.2
      have w1 := Lib.hid (wrB x (by omega)).1
      rw [if_pos (by omega), if_pos (by omega), if_pos (by rw [nm_len]; omega), (D_cons h).2.1, nm_one, nm_app, w1.out, Option.bind_some]
      by_cases c36 : c = 36
      · subst c36
        rw [if_pos ((q36 36).2 rfl), if_pos (by rw [nm_len, List.length_append]; simp; omega), show ([36] : List Int) = nm [36] from rfl, nm_app, double_l0 s hs (n - 1) (x + 1) k _ (by omega) (by omega) (by omega) (by simp; omega), h3, dbl, if_pos rfl]
        simp
      · rw [if_neg (fun q => c36 ((q36 c).1 q)), double_l0 s hs (n - 1) (x + 1) k _ (by omega) (by omega) (by omega) (by simp; omega), h3, dbl, if_neg c36]
        simp
theorem double_l (s : ByteArray) (hs : s.size ≤ 17592186044416) : spec_SubstDouble.f (s.size + 1) s = some (mk (dbl s.data.toList)) :=
  double_l0 s hs s.size 0 _ [] rfl (Nat.zero_le _) (Nat.le_refl _) (Nat.zero_le _)
/-! ### a name -/
theorem letter_s (c : UInt8) : spec_substLetter.f (c.toNat : Int) = some (isL c) := by
  have hi := isL_iff c
  unfold spec_substLetter.f
  by_cases a : isL c = true
  · have a' := hi.1 a
    rw [a]
    repeat' split
    all_goals first
      | rfl
      | omega
      | (refine congrArg some (decide_eq_true ?_); omega)
  · have a' := fun q => a (hi.2 q)
    have a2 : isL c = false := by cases h : isL c; rfl; exact absurd h a
    rw [a2]
    repeat' split
    all_goals first
      | rfl
      | (exfalso; exact a' (by omega))
      | (refine congrArg some (decide_eq_false ?_); intro q; exact a' (by omega))
def nameFix (q : Bs) : Bs := match q with
  | [] => [95]
  | c :: r => if isL c = true then c :: r else 95 :: c :: r
def nameOf (l : Bs) : Bs := nameFix (l.filter isN)
theorem name_end (q : Bs) : (if ((nm (95 :: q)).length : Int) > 1 then (if 1 < ((nm (95 :: q)).length : Int) then ((spec_substLetter.f (rd (nm (95 :: q)) 1)).bind fun t153 => (if t153 = true then (if 1 ≤ ((nm (95 :: q)).length : Int) then (some (strOfNums ((nm (95 :: q)).drop (1 : Int).toNat))) else (none)) else (some (strOfNums (nm (95 :: q)))))) else (none)) else (some (strOfNums (nm (95 :: q))))) = some (mk (nameFix q)) := by
  rw [nm_len]
  cases q with
  | nil => rw [if_neg (by simp), str_nm]; rfl
  | cons c r =>
    have e : rd (nm (95 :: c :: r)) 1 = (c.toNat : Int) := rfl
    have e2 : (nm (95 :: c :: r)).drop (1 : Int).toNat = nm (c :: r) := rfl
    have hl1 : 1 < ((95 :: c :: r).length : Int) := by rw [List.length_cons, List.length_cons]; omega
    rw [if_pos hl1, if_pos hl1, e, letter_s, Option.bind_some, e2]
    cases hL : isL c
    · rw [if_neg (by decide), str_nm]; simp [nameFix, hL]
    · rw [if_pos rfl, if_pos (by omega), str_nm]; simp [nameFix, hL]
theorem subname_l0 (s : ByteArray) (hs : s.size ≤ 17592186044416) : ∀ (n x k : Nat) (o : Bs), n = s.size - x → x ≤ s.size → n + 1 ≤ k → o.length ≤ x → spec_SubstName.l0 k s (nm (95 :: o)) (x : Int) = some (mk (nameFix (o ++ (D s x).filter isN)))
  | n, x, 0, o, _, _, hk, _ => by omega
  | n, x, k + 1, o, hn, hx, hk, ho => by
    rw [spec_SubstName.l0]
    cases h : D s x with
    | nil =>
      have := D_nil h
      rw [if_neg (by omega), name_end, List.filter_nil, List.append_nil]
    | cons c r =>
      have h1 := (D_cons h).1
      have h3 := (D_cons h).2.2
      have w1 := Lib.hid (wrB x (by omega)).1
      have ih := subname_l0 s hs (n - 1) (x + 1) k o (by omega) (by omega) (by omega) (by omega)
      have ih2 := subname_l0 s hs (n - 1) (x + 1) k (o ++ [c]) (by omega) (by omega) (by omega) (by simp; omega)
      have ec : nm (95 :: o) ++ [(c.toNat : Int)] = nm (95 :: (o ++ [c])) := by simp [nm]
      have hd := isD_iff c
      rw [if_pos (by omega), if_pos (by omega), (D_cons h).2.1, w1.out, letter_s, Option.bind_some, ec, ih, ih2, h3, List.filter_cons]
      clear ih ih2 w1
      have hlen : (nm (95 :: o)).length < 140737488355328 := by rw [nm_len]; simp; omega
      rw [if_pos hlen]
      by_cases a : isL c = true
      · have hN : isN c = true := by simp [isN, a]
        rw [if_pos a, hN, if_pos rfl]; simp
      · rw [if_neg a]
        by_cases b : isD c = true
        · have hN : isN c = true := by simp [isN, b]
          have b' := hd.1 b
          rw [if_pos (by omega), if_pos (by omega), hN, if_pos rfl]; simp
        · have hN : isN c = false := by
            cases e : isN c
            · rfl
            · simp [isN, a, b] at e
          have b' := fun q => b (hd.2 q)
          rw [hN, if_neg (show ¬ (false = true) by decide)]
          by_cases d : (c.toNat : Int) ≥ 48
          · rw [if_pos d, if_neg (fun q => b' (by omega))]
          · rw [if_neg d]
theorem subname_l (s : ByteArray) (hs : s.size ≤ 17592186044416) : spec_SubstName.f (s.size + 1) s = some (mk (nameOf s.data.toList)) :=
  subname_l0 s hs s.size 0 _ [] rfl (Nat.zero_le _) (Nat.le_refl _) (Nat.zero_le _)
theorem nameOf_is (l : Bs) : Name (nameOf l) := by
  unfold nameOf nameFix
  have hf : ∀ c ∈ l.filter isN, isN c = true := fun c hc => (List.mem_filter.1 hc).2
  cases h : l.filter isN with
  | nil => exact ⟨⟨95, [], rfl, by decide⟩, fun c hc => by simp at hc; subst hc; decide⟩
  | cons c r =>
    rw [h] at hf
    simp only []
    by_cases a : isL c = true
    · rw [if_pos a]; exact ⟨⟨c, r, rfl, a⟩, hf⟩
    · rw [if_neg a]
      refine ⟨⟨95, c :: r, rfl, by decide⟩, fun d hd => ?_⟩
      rcases List.mem_cons.1 hd with rfl | hd
      · decide
      · exact hf d hd
theorem nameOf_len (l : Bs) : (nameOf l).length ≤ l.length + 1 := by
  have := List.length_filter_le isN l
  unfold nameOf nameFix
  cases h : l.filter isN with
  | nil => simp
  | cons c r =>
    rw [h] at this
    simp only []
    split
    · simp at this ⊢; omega
    · simp at this ⊢; omega
end Go.Proofs.YtlncdacoefoldaaGreatDoor.U

/- Plain: the printed functions that the specification's substitution calls (substEnd, substFar, substClose), as lists of bytes tell them. -/
namespace Go.Proofs.YtlncdacoefoldaaGreatDoor.U
set_option linter.unusedVariables false
set_option linter.unusedSimpArgs false
set_option linter.unusedSectionVars false
open Go.RowKit Go.Proofs.YtlncdacoefoldaaGreatDoorW.PrintWords Go.Proofs.YtlncdacoefoldaaGreatDoorW.PrintLast Go.Proofs.YtlncdacoefoldaaGreatDoor.PX Go.Proofs.YtlncdacoefoldaaGreatDoor.L

theorem far_s (s : ByteArray) (x : Nat) : spec_substFar.f s (x : Int) = some (far (D s x)) := by
  unfold spec_substFar.f
  cases h : D s x with
  | nil =>
    have := D_nil h
    rw [if_neg (by omega)]; rfl
  | cons c r =>
    have h1 := (D_cons h).1
    rw [if_pos (by omega), if_pos (by omega), (D_cons h).2.1]
    unfold far
    refine congrArg some (decide_eq_decide.2 ?_)
    omega
theorem digit_s (c : UInt8) : isD c = true ↔ 48 ≤ c.toNat ∧ c.toNat ≤ 57 := by
  simp [isD, UInt8.le_iff_toNat_le]
theorem isN_split (c : UInt8) : isN c = (isL c || isD c) := by
  cases h1 : isL c <;> cases h2 : isD c <;> simp [isN, h1, h2]
theorem end_l0 (s : ByteArray) (hs : s.size ≤ 17592186044416) : ∀ (n x k : Nat), n = s.size - x → x ≤ s.size → n + 1 ≤ k → spec_substEnd.l0 k s (x : Int) = some ((x + ((D s x).takeWhile isN).length : Nat) : Int)
  | n, x, 0, _, _, hk => by omega
  | n, x, k + 1, hn, hx, hk => by
    rw [spec_substEnd.l0]
    cases h : D s x with
    | nil =>
      have := D_nil h
      rw [if_neg (by omega)]
      simp
    | cons c r =>
      have h1 := (D_cons h).1
      have h3 := (D_cons h).2.2
      have w1 := Lib.hid (wrB x (by omega)).1
      have ih := end_l0 s hs (n - 1) (x + 1) k (by omega) (by omega) (by omega)
      rw [if_pos (by omega), if_pos (by omega), (D_cons h).2.1, w1.out, letter_s, ih, h3, List.takeWhile_cons, isN_split]
      simp only [Option.bind_some]
      cases a : isL c with
      | true =>
        simp only [Bool.true_or, if_true, List.length_cons]
        exact congrArg some (by omega)
      | false =>
        have hd := digit_s c
        cases b : isD c with
        | true =>
          have := hd.1 b
          rw [if_neg (by decide), if_pos (by omega), if_pos (by omega)]
          simp only [Bool.or_true, if_true, List.length_cons]
          exact congrArg some (by omega)
        | false =>
          have hb : ¬ (48 ≤ c.toNat ∧ c.toNat ≤ 57) := fun q => by rw [hd.2 q] at b; cases b
          rw [if_neg (by decide)]
          by_cases e : 48 ≤ c.toNat
          · rw [if_pos (by omega), if_neg (by omega)]; simp
          · rw [if_neg (by omega)]; simp
theorem end_s (s : ByteArray) (hs : s.size ≤ 17592186044416) (x : Nat) : spec_substEnd.f (s.size + 2) s (x : Int) = some ((x + subE (D s x) : Nat) : Int) := by
  unfold spec_substEnd.f
  cases h : D s x with
  | nil =>
    have := D_nil h
    rw [if_pos (by omega), spec_substEnd.j0, if_pos rfl]; rfl
  | cons c r =>
    have h1 := (D_cons h).1
    rw [if_neg (by omega), if_pos (by omega), if_pos (by omega), (D_cons h).2.1, letter_s]
    simp only [Option.bind_some]
    rw [spec_substEnd.j0]
    unfold subE
    cases a : isL c with
    | true =>
      rw [if_neg (by decide), end_l0 s hs (s.size - x) x _ rfl (by omega) (by omega), h]
      simp [a]
    | false =>
      rw [if_pos (by decide)]
      simp [a]
theorem beq_q {a b : Int} {p : Prop} [Decidable p] (h : a = b ↔ p) : (a == b) = decide p := by
  by_cases e : p
  · rw [decide_eq_true e]; exact beq_iff_eq.2 (h.2 e)
  · rw [decide_eq_false e]; exact beq_eq_false_iff_ne.2 (fun q => e (h.1 q))
/-- what substClose answers: nothing is said; there is no brace; the brace's place -/
def IsC (x : Nat) (o : Option (Option Nat)) (v : Int × Bool) : Prop := match o with
  | none => v.2 = false
  | some none => v = (-1, true)
  | some (some j) => v = (((x + j : Nat) : Int), true)
theorem isC_add {x : Nat} (j : Nat) {o : Option (Option Nat)} {v : Int × Bool} (h : IsC (x + j) o v) : IsC x (o.map (·.map (· + j))) v := by
  cases o with
  | none => exact h
  | some o =>
    cases o with
    | none => exact h
    | some i =>
      simp only [Option.map_some, IsC] at h ⊢
      rw [h, show x + j + i = x + (i + j) by omega]
theorem close_l0 (s : ByteArray) (hs : s.size ≤ 17592186044416) (n : Nat) : ∀ (x k deep : Nat) (any : Bool), n = s.size - x → x ≤ s.size → 5 * n + 1 ≤ k → deep ≤ x → ∃ v, spec_substClose.l0 k s (x : Int) (deep : Int) any = some v ∧ IsC x (closeS (D s x) deep any) v := by
  induction n using Nat.strongRecOn with
  | ind n ih =>
  intro x k deep any hn hx hk hd
  cases h : D s x with
  | nil =>
    have := D_nil h
    obtain ⟨k, rfl⟩ : ∃ k', k = k' + 1 := ⟨k - 1, by omega⟩
    rw [spec_substClose.l0, if_neg (by omega)]
    refine ⟨_, rfl, ?_⟩
    cases any <;> simp [closeS, IsC]
  | cons c r =>
    have h1 := (D_cons h).1
    have h2 := (D_cons h).2.1
    have h3 := (D_cons h).2.2
    have w1 := Lib.hid (wrB x (by omega)).1
    have w2 := Lib.hid (wrB x (by omega)).2.1
    have w11 : Hid (wrap64 (((x + 1 : Nat) : Int) + 1) = ((x + 2 : Nat) : Int)) := Lib.hid (wrB (x + 1) (by omega)).1
    have wd : Hid (wrap64 ((deep : Int) + 1) = ((deep + 1 : Nat) : Int)) := Lib.hid (wrB deep (by omega)).1
    obtain ⟨k, rfl⟩ : ∃ k', k = k' + 5 := ⟨k - 5, by omega⟩
    rw [spec_substClose.l0, if_pos (by omega), if_pos (by omega), h2]
    by_cases a : c = 10
    · rw [if_pos ((q10 c).2 a), spec_substClose.j1, if_pos rfl]
      exact ⟨_, rfl, by cases r <;> simp [closeS, a, IsC]⟩
    rw [if_neg (fun q => a ((q10 c).1 q)), beq_q (q123 c), spec_substClose.j1]
    by_cases b : c = 123
    · rw [decide_eq_true b, if_pos rfl]
      exact ⟨_, rfl, by cases r <;> simp [closeS, b, IsC]⟩
    rw [decide_eq_false b, if_neg (by decide), if_pos (by omega), if_pos (by omega), h2]
    have hab : ¬ (c = 10 ∨ c = 123) := by simp [a, b]
    -- what is no dollar's pair goes to j3 with false
    have tail : ¬ (∃ d r', r = d :: r' ∧ c = 36 ∧ (d = 36 ∨ d = 123)) → ∃ v, spec_substClose.j3 (k + 2) s (x : Int) (deep : Int) any false = some v ∧ IsC x (closeS (c :: r) deep any) v := by
      intro hno
      rw [spec_substClose.j3, if_neg (by decide), if_pos (by omega), if_pos (by omega), h2]
      by_cases e : c = 125
      · have hc36 : c ≠ 36 := by rw [e]; decide
        rw [if_pos ((q125 c).2 e), spec_substClose.j4]
        by_cases z : deep = 0
        · subst z
          rw [if_pos (by rfl)]
          refine ⟨_, rfl, ?_⟩
          cases r <;> simp [closeS, e, IsC]
        · have hz : ((deep : Int) == 0) = false := beq_eq_false_iff_ne.2 (by omega)
          have wm : wrap64 ((deep : Int) - 1) = ((deep - 1 : Nat) : Int) := by unfold wrap64; omega
          rw [hz, if_neg (by decide), if_pos (by omega), if_pos (by omega), h2, if_pos ((q125 c).2 e), w1.out, wm]
          obtain ⟨v, hv, hc⟩ := ih (n - 1) (by omega) (x + 1) k (deep - 1) true (by omega) (by omega) (by omega) (by omega)
          refine ⟨v, hv, ?_⟩
          rw [h3] at hc
          have := isC_add 1 hc
          cases r with
          | nil => simpa [closeS, e, z] using this
          | cons d r' => rw [closeS, if_neg hab, if_neg (by simp [hc36]), if_neg (by simp [hc36]), if_pos e, if_neg z]; exact this
      · rw [if_neg (fun q => e ((q125 c).1 q)), spec_substClose.j4, if_neg (by decide), if_pos (by omega), if_pos (by omega), h2, if_neg (fun q => e ((q125 c).1 q)), w1.out]
        obtain ⟨v, hv, hc⟩ := ih (n - 1) (by omega) (x + 1) k deep any (by omega) (by omega) (by omega) (by omega)
        refine ⟨v, hv, ?_⟩
        rw [h3] at hc
        have := isC_add 1 hc
        cases r with
        | nil => cases any <;> simpa [closeS, e, a, b] using this
        | cons d r' =>
          rw [closeS, if_neg hab, if_neg (fun q => hno ⟨d, r', rfl, q.1, .inl q.2⟩), if_neg (fun q => hno ⟨d, r', rfl, q.1, .inr q.2⟩), if_neg e]
          exact this
    by_cases f : c = 36
    · rw [if_pos ((q36 c).2 f), w1.out]
      cases r with
      | nil =>
        have := D_nil h3
        rw [if_neg (by omega), spec_substClose.j2, if_neg (by decide), if_pos (by omega), if_pos (by omega), h2, if_pos ((q36 c).2 f), w1.out, if_neg (by omega)]
        exact tail (fun ⟨d, r', q, _⟩ => by cases q)
      | cons d r' =>
        have g1 := (D_cons h3).1
        have g2 := (D_cons h3).2.1
        have g3 := (D_cons h3).2.2
        rw [if_pos (by omega), if_pos (by omega), g2, beq_q (q36 d), spec_substClose.j2]
        by_cases u : d = 36
        · rw [decide_eq_true u, if_pos rfl, w1.out, w11.out]
          obtain ⟨v, hv, hc⟩ := ih (n - 2) (by omega) (x + 2) (k + 2) deep any (by omega) (by omega) (by omega) (by omega)
          refine ⟨v, hv, ?_⟩
          rw [show x + 2 = x + 1 + 1 by rfl, g3] at hc
          rw [closeS, if_neg hab, if_pos ⟨f, u⟩]
          exact isC_add 2 hc
        · rw [decide_eq_false u, if_neg (by decide), if_pos (by omega), if_pos (by omega), h2, if_pos ((q36 c).2 f), w1.out, if_pos (by omega), if_pos (by omega), g2, beq_q (q123 d)]
          by_cases t : d = 123
          · rw [decide_eq_true t, spec_substClose.j3, if_pos rfl, w2.out, w1.out, w11.out, wd.out]
            have hcl : closeS (c :: d :: r') deep any = (if r'.head? = some 125 then none else (closeS r' (deep + 1) any).map (·.map (· + 2))) := by
              rw [closeS, if_neg hab, if_neg (fun q => u q.2), if_pos ⟨f, t⟩]
            rw [hcl]
            clear hcl
            cases r' with
            | nil =>
              have := D_nil g3
              rw [if_neg (by omega)]
              obtain ⟨v, hv, hc⟩ := ih (n - 2) (by omega) (x + 2) (k + 1) (deep + 1) any (by omega) (by omega) (by omega) (by omega)
              refine ⟨v, hv, ?_⟩
              rw [show x + 2 = x + 1 + 1 by rfl, g3] at hc
              simpa using isC_add 2 hc
            | cons z r'' =>
              have k1 := (D_cons g3).1
              have k2 := (D_cons g3).2.1
              rw [if_pos (by omega), if_pos (by omega), show ((x + 2 : Nat) : Int) = ((x + 1 + 1 : Nat) : Int) by rfl, k2]
              by_cases y : z = 125
              · rw [if_pos ((q125 z).2 y)]
                exact ⟨_, rfl, by simp [y, IsC]⟩
              · rw [if_neg (fun q => y ((q125 z).1 q))]
                obtain ⟨v, hv, hc⟩ := ih (n - 2) (by omega) (x + 2) (k + 1) (deep + 1) any (by omega) (by omega) (by omega) (by omega)
                refine ⟨v, hv, ?_⟩
                rw [show x + 2 = x + 1 + 1 by rfl, g3] at hc
                rw [List.head?_cons, if_neg (fun q => y (Option.some.inj q))]
                exact isC_add 2 hc
          · rw [decide_eq_false t]
            exact tail (fun ⟨d', r1, q, _, o⟩ => by injection q with q1 q2; rcases o with o | o; exact u (q1.trans o); exact t (q1.trans o))
    · rw [if_neg (fun q => f ((q36 c).1 q)), spec_substClose.j2, if_neg (by decide), if_pos (by omega), if_pos (by omega), h2, if_neg (fun q => f ((q36 c).1 q))]
      exact tail (fun ⟨d', r1, _, q, _⟩ => f q)
theorem close_s (s : ByteArray) (hs : s.size ≤ 17592186044416) (x : Nat) (hx : x ≤ s.size) : ∃ v, spec_substClose.f (5 * s.size + 1) s (x : Int) = some v ∧ IsC x (closeS (D s x) 0 false) v :=
  close_l0 s hs (s.size - x) x _ 0 false rfl hx (by omega) (Nat.zero_le _)
end Go.Proofs.YtlncdacoefoldaaGreatDoor.U

/- The walk of spec.Subst, spec.substOne given. -/
namespace Go.Proofs.YtlncdacoefoldaaGreatDoor.U
set_option linter.unusedVariables false
set_option linter.unusedSimpArgs false
set_option linter.unusedSectionVars false
open Go.RowKit Go.Proofs.YtlncdacoefoldaaGreatDoorW.PrintWords Go.Proofs.YtlncdacoefoldaaGreatDoorW.PrintLast Go.Proofs.YtlncdacoefoldaaGreatDoor.PX Go.Proofs.YtlncdacoefoldaaGreatDoor.L Go.Proofs.YtlncdacoefoldaaGreatDoor.M

def codeC : Option Cls → Int
  | none => 0
  | some .invalid => 1
  | some .missing => 2
/-- what spec.Subst answers -/
def SaidS (o : Ans) (out : ByteArray) (cls : Int) (said : Bool) : Prop := match o with
  | none => said = false
  | some (r, none) => out = mk r ∧ cls = 0 ∧ said = true
  | some (_, some c) => out = ⟨#[]⟩ ∧ cls = codeC (some c) ∧ said = true
/-- what spec.substOne answers of the dollar at x -/
def SaidO (x : Nat) (o : Option (Bs × Nat × Option Cls)) (val : ByteArray) (e cls : Int) (said : Bool) : Prop := match o with
  | none => said = false
  | some (v, n, c) => val = mk v ∧ e = ((x + 1 + n : Nat) : Int) ∧ cls = codeC c ∧ said = true
set_option maxHeartbeats 4000000 in
set_option maxRecDepth 100000 in
theorem spec_Subst_step (E : Env) (m B : Nat) (hB : 1 ≤ B) (hEB : ∀ u y, E u = some y → y.length ≤ B) (A1 : Option Addr) (c1 : Nat) (b : List SP) (s : ByteArray) (w : World) (hr1 : Kd.C k59 w A1 b.length b) (hc1 : b.length ≤ c1) (hsz : s.size ≤ 17592186044416) (hbd : s.size * B ≤ 17592186044416)
    (hone : ∀ (x : Nat) (W : World), x < s.size → Below w.heap.size w W → Calls Tryz.prog 33 #[.string s, .int .i64 x, .slice A1 b.length c1] W fun e w' => ∃ val en cls said, e = .returned (.tuple #[.string val, .int .i64 en, .int .i64 cls, .bool said]) ∧ SaidO x (oneS (subS E m) E (D s (x + 1))) val en cls said ∧ Below W.heap.size W w') :
    Calls Tryz.prog 14 #[.string s, .slice A1 b.length c1] w fun e w' => ∃ out cls said, e = .returned (.tuple #[.string out, .int .i64 cls, .bool said]) ∧ SaidS (subS E (m + 1) s.data.toList) out cls said ∧ Below w.heap.size w w' := by
  obtain ⟨b0, bi, bz0, bz1, bz2⟩ := info_parts (show (Tryz.prog.info? 5).map (fun i => (i.zero, i.size, i.bytes)) = some (some (.int .u8 0), 1, 1) by kernel_rfl)
  have HONE := Lib.hid hone
  have HC1 := Aside0.mk hc1
  have HR1 := Aside0.mk hr1
  clear hone hc1 hr1
  go_enter Tryz.func14, Tryz.ntmps14
  go_wp2
  go_loopw [5, 7, 8] (fun v5 v7 v8 wr => ∃ (i : Nat) (o : Bs) (cl : Option Cls), i ≤ s.size ∧ v8 = .int .i64 i ∧ v5 = .int .i64 (codeC cl) ∧ o.length ≤ i * B ∧ Aside0 (wr.ownsRow w.heap.size 5 1 v7 o.length (o.map bv)) ∧ Hid (scanS (subS E m) E s.data.toList 0 none = (scanS (subS E m) E (D s i) 0 cl).map (fun p => (o ++ p.1, p.2))) ∧ Aside0 (Below w.heap.size w wr)) (fun _ _ v8 _ => s.size - (intOf v8).toNat)
  case atStart => exact ⟨0, [], none, Nat.zero_le _, rfl, rfl, Nat.zero_le _, ⟨⟨rfl, .inl ⟨rfl, rfl⟩⟩⟩, Lib.hid (by
    unfold D; rw [List.drop_zero]; cases scanS (subS E m) E s.data.toList 0 none <;> simp), ⟨Below.refl _ _⟩⟩
  case round =>
    obtain ⟨i, o, cl, hi, rfl, rfl, ho, HO, HQ, HB⟩ := hrel
    have hws : w.heap.size ≤ wr.heap.size := HB.out.size
    by_cases hlt : i < s.size
    · obtain ⟨c, q, hcq⟩ : ∃ c q, D s i = c :: q := by
        cases e : D s i with
        | nil => have := D_nil e; omega
        | cons c q => exact ⟨c, q, rfl⟩
      have hD := D_cons hcq
      have hg : s[i]'hlt = c := by
        have := hD.2.1
        unfold bt at this
        rw [dif_pos (by simpa using hlt)] at this
        exact (u8 _ _).2 (Int.natCast_inj.1 this)
      have hiB : i * B ≤ s.size * B := Nat.mul_le_mul_right B hi
      by_cases h36 : c = 36
      · have hBq := hD.2.2
        cases hoq : oneS (subS E m) E q with
        | none =>
          have HOQ : Hid (oneS (subS E m) E (D s (i + 1)) = none) := Lib.hid (by rw [hBq, hoq])
          have HS : Hid (subS E (m + 1) s.data.toList = none) := Lib.hid (by
            rw [subS, HQ.out, hcq, scanS, if_neg (by simp [h36]), hoq]; rfl)
          have hc36 : (c.toNat : Int) = 36 := (q36 c).2 h36
          clear hcq hD hBq hoq
          go_wp2_with (go_at_call 33; refine (HONE.out i _ hlt HB.out).mono ?_; rintro e w1 ⟨val, en, cls, said, rfl, hs, hb⟩; rw [HOQ.out] at hs; obtain rfl : said = false := hs; have HB1 := Aside0.mk (HB.out.trans (hb.mono HB.out.size)); have HO1 := Aside0.mk (own_below HO.out hb); have hws1 := HB1.out.size; clear hb)
          go_ret3
          exact ⟨_, _, _, rfl, by rw [HS.out]; exact rfl, HB1.out⟩
        | some p =>
          obtain ⟨v, n, e1⟩ := p
          have HOQ : Hid (oneS (subS E m) E (D s (i + 1)) = some (v, n, e1)) := Lib.hid (by rw [hBq, hoq])
          obtain ⟨b1, b2⟩ := oneS_bd hB (subS_bd hB hEB m) hEB hoq
          have hql := D_len s (i + 1)
          rw [hBq] at hql
          have hin : i + 1 + n ≤ s.size := by omega
          have hdn : D s (i + 1 + n) = q.drop n := by rw [D_add, hBq]
          have hov : (o ++ v).length ≤ (i + 1 + n) * B := by rw [List.length_append, Nat.add_mul, Nat.succ_mul]; omega
          have hinB : (i + 1 + n) * B ≤ s.size * B := Nat.mul_le_mul_right B hin
          have hvl : o.length + v.length ≤ 17592186044416 := by rw [← List.length_append]; omega
          have HX : Hid (scanS (subS E m) E s.data.toList 0 none = if e1 ≠ none ∧ cl ≠ none ∧ e1 ≠ cl then none else (scanS (subS E m) E (D s (i + 1 + n)) 0 (e1.or cl)).map (fun p => ((o ++ v) ++ p.1, p.2))) := Lib.hid (by
            rw [HQ.out, hcq, scanS, if_neg (by simp [h36]), hoq]
            simp only []
            split
            · rfl
            · rw [scanS_skip _ _ n q _ b2, ← hdn]
              cases scanS (subS E m) E (D s (i + 1 + n)) 0 (e1.or cl) <;> simp)
          have hvs : (mk v).size = v.length := mk_size v
          have HVS := Lib.hid hvs
          have hvs3 : o.length + (mk v).size ≤ 17592186044416 := by omega
          have hc36 : (c.toNat : Int) = 36 := (q36 c).2 h36
          clear hcq hD hBq hoq hdn hvs
          by_cases hcf : e1 ≠ none ∧ cl ≠ none ∧ e1 ≠ cl
          · have HS : Hid (subS E (m + 1) s.data.toList = none) := Lib.hid (by rw [subS, HX.out, if_pos hcf]; rfl)
            clear HX
            rcases e1 with _ | (_ | _) <;> rcases cl with _ | (_ | _) <;> first
              | (exfalso; simp at hcf; done)
              | (simp only [codeC]
                 go_wp2_with (go_at_call 33; refine (HONE.out i _ hlt HB.out).mono ?_; rintro e w1 ⟨val, en, cls, said, rfl, hs, hb⟩; rw [HOQ.out] at hs; obtain ⟨rfl, rfl, rfl, rfl⟩ := hs; simp only [codeC]; have HB1 := Aside0.mk (HB.out.trans (hb.mono HB.out.size)); have HO1 := Aside0.mk (own_below HO.out hb); have hws1 := HB1.out.size; clear hb)
                 go_ret3
                 exact ⟨_, _, _, rfl, by rw [HS.out]; exact rfl, HB1.out⟩)
          · have HN : Hid (scanS (subS E m) E s.data.toList 0 none = (scanS (subS E m) E (D s (i + 1 + n)) 0 (e1.or cl)).map (fun p => ((o ++ v) ++ p.1, p.2))) := Lib.hid (by rw [HX.out, if_neg hcf])
            clear HX
            rcases e1 with _ | (_ | _) <;> rcases cl with _ | (_ | _) <;> first
              | (exfalso; apply hcf; simp; done)
              | (simp only [codeC]
                 go_wp2_with (first | (go_at_call 33; refine (HONE.out i _ hlt HB.out).mono ?_; rintro e w1 ⟨val, en, cls, said, rfl, hs, hb⟩; rw [HOQ.out] at hs; obtain ⟨rfl, rfl, rfl, rfl⟩ := hs; simp only [codeC]; have HB1 := Aside0.mk (HB.out.trans (hb.mono HB.out.size)); have HO1 := Aside0.mk (own_below HO.out hb); have hws1 := HB1.out.size; clear hb) | (at_builtin; refine Lib.wpList_append_own_string _ rfl _ _ 61 9 rfl w.heap.size 5 b0 Tryz.underlying61 Tryz.underlying9 bi bz0 bz1 bz2 _ _ _ rfl HO1.out (mk v) rfl ?c3 ?c4 ?c5 ?_; (case c3 => unfold maxLen; omega); (case c4 => omega); (case c5 => first | omega | (simp; omega)); intro v' w3 hown' hgrow _))
                 go_roundw
                 case rel => exact ⟨i + 1 + n, o ++ v, _, hin, rfl, rfl, hov, ⟨by rw [List.length_append, ← HVS.out, List.map_append]; simpa [strCells_bv, mk_data] using hown'⟩, HN, ⟨HB1.out.grown hgrow hws1 (fun k' hk' => (World.ownsRow.lt HO1.out k' hk').1)⟩⟩
                 case measure => simp [intOf]; omega)
      · have hc36 : ¬ (c.toNat : Int) = 36 := fun q => h36 ((q36 c).1 q)
        have HN : Hid (scanS (subS E m) E s.data.toList 0 none = (scanS (subS E m) E (D s (i + 1)) 0 cl).map (fun p => ((o ++ [c]) ++ p.1, p.2))) := Lib.hid (by
          rw [HQ.out, hcq, scanS, if_pos h36, hD.2.2]
          cases scanS (subS E m) E q 0 cl <;> simp)
        have ho1 : (o ++ [c]).length ≤ (i + 1) * B := by rw [List.length_append, Nat.succ_mul]; simp; omega
        have hHC := Lib.hid hcq
        clear hcq hD
        go_wp2_with ((at_builtin; refine wpList_append_own _ rfl _ _ 61 rfl w.heap.size 5 b0 (.int .u8 0) 1 1 Tryz.underlying61 bi bz0 bz1 bz2 rfl (by decide) _ _ _ rfl (HO.out.alloc _) ⟨wr.heap.size, 0, none⟩ 1 1 [.int .u8 (c.toNat : Int)] rfl rfl ?c1 ?c2 ?c3 ?c4 ?c5 ?_; (case c1 => exact cell_one_new _ _ _); (case c2 => simp [Value.oneCell']); (case c3 => unfold maxLen; omega); (case c4 => omega); (case c5 => simp; omega); intro v' w2 hown' hgrow _))
        go_roundw
        case rel => exact ⟨i + 1, o ++ [c], cl, by omega, by go_num, rfl, ho1, ⟨by simpa [bv] using hown'⟩, HN, ⟨(HB.out.alloc hws _).grown hgrow (by simp; omega) (fun k' hk' => (World.ownsRow.lt HO.out k' hk').1)⟩⟩
        case measure => simp [intOf]; omega
    · have he : D s i = [] := List.drop_of_length_le (by rw [Array.length_toList]; show s.size ≤ i; omega)
      have HS : Hid (subS E (m + 1) s.data.toList = some (if cl = none then (o, none) else ([], cl))) := Lib.hid (by
        rw [subS, HQ.out, he]; cases cl <;> simp [scanS])
      clear he
      rcases cl with _ | (_ | _)
      · simp only [codeC]
        go_wp2_with (refine wpList_string_own rfl _ 61 5 9 rfl Tryz.underlying61 Tryz.underlying5 Tryz.underlying9 _ rfl _ _ (RdK.of_own HO.out) ?_)
        go_ret3
        exact ⟨_, _, .inr ⟨rfl, by rw [HS.out]; exact ⟨rfl, rfl, rfl⟩, HB.out⟩⟩
      · simp only [codeC]
        go_wp2
        go_ret3
        exact ⟨_, _, _, rfl, by rw [HS.out]; exact ⟨rfl, rfl, rfl⟩, HB.out⟩
      · simp only [codeC]
        go_wp2
        go_ret3
        exact ⟨_, _, _, rfl, by rw [HS.out]; exact ⟨rfl, rfl, rfl⟩, HB.out⟩
end Go.Proofs.YtlncdacoefoldaaGreatDoor.U

/- Plain: where a word's closing brace may stand; what is refused has no text. -/
namespace Go.Proofs.YtlncdacoefoldaaGreatDoor.U
set_option linter.unusedVariables false
set_option linter.unusedSimpArgs false
set_option linter.unusedSectionVars false
open Go.RowKit Go.Proofs.YtlncdacoefoldaaGreatDoorW.PrintWords Go.Proofs.YtlncdacoefoldaaGreatDoorW.PrintLast Go.Proofs.YtlncdacoefoldaaGreatDoor.PX Go.Proofs.YtlncdacoefoldaaGreatDoor.L Go.Proofs.YtlncdacoefoldaaGreatDoor.M

theorem closeS_lt : ∀ (w : Bs) (deep : Nat) (any : Bool) (j : Nat), closeS w deep any = some (some j) → j < w.length
  | [], _, any, j, h => by cases any <;> simp [closeS] at h
  | [c], deep, any, j, h => by
    simp only [closeS] at h
    repeat' split at h
    all_goals first | (simp at h; done) | (simp at h; subst h; simp)
  | c :: e :: r, deep, any, j, h => by
    have key : ∀ {o : Option (Option Nat)} {k : Nat}, o.map (·.map (· + k)) = some (some j) → ∃ i, o = some (some i) ∧ j = i + k := fun {o k} hh => by
      rcases o with _ | (_ | i)
      · simp at hh
      · simp at hh
      · simp at hh; exact ⟨i, rfl, hh.symm⟩
    simp only [closeS] at h
    split at h
    · cases h
    split at h
    · obtain ⟨i, hi, rfl⟩ := key h
      have := closeS_lt r _ _ i hi
      simp; omega
    split at h
    · split at h
      · cases h
      · obtain ⟨i, hi, rfl⟩ := key h
        have := closeS_lt r _ _ i hi
        simp; omega
    split at h
    · split at h
      · simp at h; subst h; simp
      · obtain ⟨i, hi, rfl⟩ := key h
        have := closeS_lt (e :: r) _ _ i hi
        simp at this ⊢; omega
    · obtain ⟨i, hi, rfl⟩ := key h
      have := closeS_lt (e :: r) _ _ i hi
      simp at this ⊢; omega
theorem isS_cases (c : UInt8) : isS c = true ↔ c = 45 ∨ c = 43 ∨ c = 63 := by simp [isS, or_assoc]
theorem subS_bad {E : Env} {m : Nat} {t r : Bs} {c : Cls} (h : subS E m t = some (r, some c)) : r = [] := by
  cases m with
  | zero => simp [subS] at h
  | succ m =>
    rw [subS] at h
    cases e : scanS (subS E m) E t 0 none with
    | none => rw [e] at h; simp at h
    | some p =>
      rw [e] at h
      obtain ⟨p1, p2⟩ := p
      cases p2 with
      | none => simp at h
      | some z => simp at h; exact h.1
theorem spo1 {S e4 j lw tp m : Nat} (h : lw = S - e4) (ht : tp = e4 + j) (hj : j < lw) (hm : S ≤ m) : tp = e4 + j ∧ j < lw ∧ tp < S ∧ j < S ∧ j < m := by omega
theorem spo2 {S e4 j tp : Nat} (ht : tp = e4 + j) (h : tp < S) (hs : S ≤ 17592186044416) : ¬ (tp : Int) < 0 ∧ (e4 : Int) ≤ (tp : Int) ∧ (tp : Int) ≤ (S : Int) ∧ wrap64 ((tp : Int) + 1) = ((tp + 1 : Nat) : Int) ∧ (0 : Int) ≤ (e4 : Int) :=
  ⟨by omega, by omega, by omega, (wrB tp (by omega)).1, by omega⟩
theorem spo3t {x y k2 e2 e3 e4 j tp : Nat} (h1 : tp = e4 + j) (h2 : e2 = y + k2) (h3 : y = x + 2) (h4 : e3 = e2 + 1) (h5 : e4 = e3 + 1) : ((tp + 1 : Nat) : Int) = ((x + 1 + (k2 + 2 + (j + 1) + 1) : Nat) : Int) := by omega
theorem spo3f {x y k2 e2 e3 e4 j tp : Nat} (h1 : tp = e4 + j) (h2 : e2 = y + k2) (h3 : y = x + 2) (_ : e3 = e2 + 1) (h5 : e4 = e2 + 1) : ((tp + 1 : Nat) : Int) = ((x + 1 + (k2 + 1 + (j + 1) + 1) : Nat) : Int) := by omega
theorem spo4 {ws : Bs} {j : Nat} (h : j < ws.length) : (mk (ws.take j)).size = j := by
  have : (mk (ws.take j)).size = (ws.take j).length := mk_size _
  rw [this, List.length_take]; omega
end Go.Proofs.YtlncdacoefoldaaGreatDoor.U

/- Walks: the first match of a text, and its groups by their names. -/
namespace Go.Proofs.YtlncdacoefoldaaGreatDoor.U
set_option linter.unusedVariables false
set_option linter.unusedSimpArgs false
set_option linter.unusedSectionVars false
open Go.RowKit Go.Proofs.YtlncdacoefoldaaGreatDoorW.PrintWords Go.Proofs.YtlncdacoefoldaaGreatDoorW.PrintLast Go.Proofs.YtlncdacoefoldaaGreatDoor.PX Go.Proofs.YtlncdacoefoldaaGreatDoor.SM Go.Proofs.YtlncdacoefoldaaGreatDoor.L

theorem find_at (s : ByteArray) (i : Nat) : (∀ m, atM (D s i) = some m → find (D s i) = some m) ∧ (atM (D s i) = none → find (D s i) = find (D s (i + 1))) := by
  have e1 : D s (i + 1) = (D s i).drop 1 := D_add s i 1
  cases h : D s i with
  | nil => rw [e1, h]; exact ⟨fun m hm => by simp [atM] at hm, fun _ => rfl⟩
  | cons c r =>
    rw [e1, h]
    refine ⟨fun m hm => by rw [find, hm], fun hn => ?_⟩
    rw [find, hn]
    rfl
set_option maxHeartbeats 1000000 in
theorem find_calls (s : ByteArray) (m : M) (w : World) (hs : s.size < 2305843009213693952) (hm : find s.data.toList = some m) :
    Calls Tryz.prog 119 #[.agg #[], .string s] w fun e w' => ∃ A c, e = .returned (.slice A 6 c) ∧ Kd.C Kd.string w' A 6 (groups m) ∧ Below w.heap.size w w' := by
  have HM := Lib.hid hm
  clear hm
  go_enter Tryz.func119, Tryz.ntmps119
  go_wp2
  go_loopw [5] (fun v5 wr => ∃ i : Nat, i ≤ s.size ∧ v5 = .int .i64 i ∧ Hid (find (D s i) = some m) ∧ Aside0 (Below w.heap.size w wr)) (fun v5 _ => s.size - (intOf v5).toNat)
  case atStart => exact ⟨0, Nat.zero_le _, rfl, HM.out, ⟨(Below.refl _ _).alloc (Nat.le_refl _) _⟩⟩
  case round =>
    obtain ⟨i, hi, rfl, HF, HB⟩ := hrel
    by_cases hlt : i < s.size
    · have HA := Lib.hid (at_l s i (2 * s.size + 20) (by omega) hi (Nat.le_refl _))
      cases hat : atM (D s i) with
      | none =>
        have HN := Lib.hid (((find_at s i).2 hat).symm.trans HF.out)
        rw [hat] at HA
        clear hat
        go_wp2_with (go_at_call 113; refine (template_zzAt.calls _ s (i : Int) [] 0 false _ HA.out).mono ?_; rintro e w1 ⟨v0, rfl, ho, hb⟩; have HB1 := Aside0.mk (below_then HB.out HB.out.size hb); clear ho hb)
        go_roundw
        case rel => exact ⟨i + 1, by omega, by go_num, HN, HB1⟩
        case measure => simp [intOf]; omega
      | some m1 =>
        have hm1 : m1 = m := by
          have := (find_at s i).1 m1 hat
          rw [HF.out] at this
          injection this with this
          exact this.symm
        subst hm1
        rw [hat] at HA
        clear hat
        go_wp2_with (go_at_call 113; refine (template_zzAt.calls _ s (i : Int) (groups m1) ((i + m1.all.length : Nat) : Int) true _ HA.out).mono ?_; rintro e w1 ⟨v0, rfl, ho, hb⟩; obtain ⟨A1, c1, rfl, hl1, hC1⟩ := Kd.R_reads ho; have HC1 := Aside0.mk hC1; have HB1 := Aside0.mk (below_then HB.out HB.out.size hb); clear ho hb hC1)
        go_ret
        exact ⟨_, _, rfl, HC1.out, HB1.out⟩
    · have : D s i = [] := by
        have := D_len s i
        exact List.eq_nil_of_length_eq_zero (by omega)
      have h0 := HF.out
      rw [this] at h0
      cases h0
end Go.Proofs.YtlncdacoefoldaaGreatDoor.U

/- Walks: the groups of a match by their names. -/
namespace Go.Proofs.YtlncdacoefoldaaGreatDoor.U
set_option linter.unusedVariables false
set_option linter.unusedSimpArgs false
set_option linter.unusedSectionVars false
open Go.RowKit Go.Proofs.YtlncdacoefoldaaGreatDoorW.PrintWords Go.Proofs.YtlncdacoefoldaaGreatDoorW.PrintLast Go.Proofs.YtlncdacoefoldaaGreatDoor.PX Go.Proofs.YtlncdacoefoldaaGreatDoor.SM Go.Proofs.YtlncdacoefoldaaGreatDoor.L

def nEsc : ByteArray := ⟨#[101, 115, 99, 97, 112, 101, 100]⟩
def nNamed : ByteArray := ⟨#[110, 97, 109, 101, 100]⟩
def nBraced : ByteArray := ⟨#[98, 114, 97, 99, 101, 100]⟩
def nInv : ByteArray := ⟨#[105, 110, 118, 97, 108, 105, 100]⟩
def nameL : List ByteArray := [⟨#[]⟩, nEsc, nNamed, nBraced, ⟨#[]⟩, nInv]
def nameC : Array Value := #[.string ⟨#[]⟩, .string nEsc, .string nNamed, .string nBraced, .string ⟨#[]⟩, .string nInv]
theorem subexp (w : World) :
    Calls Tryz.prog 114 #[.agg #[]] w fun e w' => ∃ b T, e = .returned (.slice (some ⟨b, 0, none⟩) 6 6) ∧ w'.heap[b]? = some (.cells nameC T (0, 0)) ∧ w.heap.size ≤ b ∧ Below w.heap.size w w' := by
  go_enter Tryz.func114, Tryz.ntmps114
  go_wp2
  go_ret
  exact ⟨_, 9, rfl, (by have h := (MapKept.heap_alloc (w.alloc (Obj.cells #[] 82)) (Obj.cells nameC 9)).1; rw [show (w.alloc (Obj.cells #[] 82)).heap.size = w.heap.size + 1 by simp] at h; exact h), by simp, ((Below.refl _ _).alloc (Nat.le_refl _) _).alloc (by simp) _⟩
/-- what the map holds after so many rounds -/
def gm (g : List ByteArray) (i : Nat) : List (ByteArray × ByteArray) := (List.range i).foldl (fun M j => put M (nameL.getD (j + 1) ⟨#[]⟩) (g.getD (j + 1) ⟨#[]⟩)) []
theorem gm_next (g : List ByteArray) (i : Nat) : gm g (i + 1) = put (gm g i) (nameL.getD (i + 1) ⟨#[]⟩) (g.getD (i + 1) ⟨#[]⟩) := by
  unfold gm
  rw [List.range_succ, List.foldl_append]
  rfl
theorem gm_five (m : M) : gm (groups m) 5 = [(nEsc, mk m.esc), (nNamed, mk m.named), (nBraced, mk m.braced), (⟨#[]⟩, mk m.op), (nInv, mk [])] := by
  have h1 : nNamed ≠ nEsc := by decide
  have h2 : nBraced ≠ nEsc := by decide
  have h3 : nBraced ≠ nNamed := by decide
  have h4 : (⟨#[]⟩ : ByteArray) ≠ nEsc := by decide
  have h5 : (⟨#[]⟩ : ByteArray) ≠ nNamed := by decide
  have h6 : (⟨#[]⟩ : ByteArray) ≠ nBraced := by decide
  have h7 : nInv ≠ nEsc := by decide
  have h8 : nInv ≠ nNamed := by decide
  have h9 : nInv ≠ nBraced := by decide
  have h10 : nInv ≠ (⟨#[]⟩ : ByteArray) := by decide
  simp [gm, List.range_succ, groups, nameL, put, has, h1, h1.symm, h2, h2.symm, h3, h3.symm, h4, h4.symm, h5, h5.symm, h6, h6.symm, h7, h7.symm, h8, h8.symm, h9, h9.symm, h10, h10.symm]
theorem look_esc (m : M) : SM.look (gm (groups m) 5) nEsc = some (mk m.esc) := by rw [gm_five]; simp [SM.look]
theorem look_named (m : M) : SM.look (gm (groups m) 5) nNamed = some (mk m.named) := by
  have h1 : ¬ nEsc = nNamed := by decide
  rw [gm_five]; simp [SM.look, h1]
theorem look_braced (m : M) : SM.look (gm (groups m) 5) nBraced = some (mk m.braced) := by
  have h1 : ¬ nEsc = nBraced := by decide
  have h2 : ¬ nNamed = nBraced := by decide
  rw [gm_five]; simp [SM.look, h1, h2]
set_option maxHeartbeats 2000000 in
set_option maxRecDepth 100000 in
theorem groups_calls (A : Option Addr) (c : Nat) (m : M) (w : World) (hr : Kd.C Kd.string w A 6 (groups m)) :
    Calls Tryz.prog 102 #[.slice A 6 c, .agg #[]] w fun e w' => ∃ b, e = .returned (.map (some b)) ∧ TMap w' b Value.string (gm (groups m) 5) ∧ Below w.heap.size w w' := by
  have HR := Aside0.mk hr
  clear hr
  have hmm := @run_makeMap Tryz.prog
  have hmu := Tryz.underlying95
  go_enter Tryz.func102, Tryz.ntmps102
  go_wp2_with ((go_at_call 114; refine (subexp _).mono ?_; rintro e w1 ⟨bn, T, rfl, hn, hbn, hb⟩; have HN := Aside0.mk hn; have HBN := Lib.hid hbn; have HB1 := Aside0.mk (below_then (((Below.refl _ _).alloc (Nat.le_refl _) _).alloc (by simp) _) (by simp; omega) hb); have HM1 := Aside0.mk (((TMap.made (w.alloc (Obj.cells #[] 82)) Value.string)).below hb); clear hn hbn hb))
  have HMB := Lib.hid (show (w.alloc (Obj.cells #[] 82)).heap.size = w.heap.size + 1 by simp)
  rw [HMB.out] at HM1
  go_loopw [13] (fun v13 wr => ∃ i : Nat, i ≤ 5 ∧ v13 = .int .i64 i ∧ Aside0 (TMap wr (w.heap.size + 1) Value.string (gm (groups m) i)) ∧ Aside0 (wr.heap[bn]? = some (Obj.cells nameC T)) ∧ Aside0 (Below w.heap.size w wr)) (fun v13 _ => 5 - (intOf v13).toNat)
  case atStart => exact ⟨0, by omega, rfl, HM1, HN, HB1⟩
  case round =>
    obtain ⟨i, hi, rfl, HM, HN, HB⟩ := hrel
    by_cases hlt : i < 5
    · obtain ⟨ad, rfl, hx⟩ := Kd.at_string (Kd.C_below HR.out HB.out) ((i : Int) + 1) (by omega) (by omega)
      obtain ⟨x, hX⟩ : ∃ x, x = (groups m).getD (i + 1) ⟨#[]⟩ := ⟨_, rfl⟩
      obtain ⟨y, hY⟩ : ∃ y, y = nameL.getD (i + 1) ⟨#[]⟩ := ⟨_, rfl⟩
      have hy : wr.cell? ⟨bn, 1 + i, none⟩ = some (.string y) := by
        rw [show wr.cell? ⟨bn, 1 + i, none⟩ = nameC[1 + i]? from cell_one HN.out _, hY]
        match i, hlt with
        | 0, _ => rfl
        | 1, _ => rfl
        | 2, _ => rfl
        | 3, _ => rfl
        | 4, _ => rfl
      have hx' : wr.cell? ⟨ad.block, ad.off + (i + 1), none⟩ = some (.string x) := by
        have e1 : rdOf ByteArray.empty (groups m) ((i : Int) + 1) = x := by rw [hX]; rfl
        rw [e1] at hx
        exact hx
      have HX := Lib.hid hX
      have HY := Lib.hid hY
      clear hX hY hx
      go_wp2_with ((at_mapUpdate; refine wp_put rfl _ _ _ rfl Tryz.underlying95 Tryz.underlying9 rfl HM.out y x rfl rfl (w0 := w) (B := w.heap.size) HB.out (by omega) ?_; intro w2 hm2 hb2 hg2 _; have HM2 := Aside0.mk hm2; have HB2 := Aside0.mk hb2; clear hm2 hb2))
      have hbl : bn < wr.heap.size := by
        rcases Nat.lt_or_ge bn wr.heap.size with q | q
        · exact q
        · have := HN.out; rw [Array.getElem?_eq_none q] at this; cases this
      have hne : w.heap.size + 1 < bn := by have := HBN.out; simp at this; omega
      go_roundw
      case rel => exact ⟨i + 1, by omega, by go_num, ⟨by rw [gm_next, ← HY.out, ← HX.out]; exact HM2.out⟩, ⟨(hg2.block bn hbl (fun e => by injection e with e; omega)).trans HN.out⟩, HB2⟩
      case measure => simp [intOf]; omega
    · go_wp2
      go_ret
      obtain rfl : i = 5 := by omega
      exact ⟨_, rfl, HM.out, HB.out⟩
end Go.Proofs.YtlncdacoefoldaaGreatDoor.U

/- Walks: the operator that a text's match goes by: the sort of the six by where each stands. -/
namespace Go.Proofs.YtlncdacoefoldaaGreatDoor.U
set_option linter.unusedVariables false
set_option linter.unusedSimpArgs false
set_option linter.unusedSectionVars false
open Go.RowKit Go.Proofs.YtlncdacoefoldaaGreatDoorW.PrintWords Go.Proofs.YtlncdacoefoldaaGreatDoorW.PrintLast Go.Proofs.YtlncdacoefoldaaGreatDoor.PX Go.Proofs.YtlncdacoefoldaaGreatDoor.L

/-- a sign with its operator -/
def encS (x : ByteArray × Nat) : List Value := [.string x.1, .func (.func x.2) #[] #[]]
def pl (s t : ByteArray) : Option Nat := idx s.data.toList t.data.toList
def ltS (t : ByteArray) (a b : ByteArray × Nat) : Bool := match pl a.1 t, pl b.1 t with
  | none, _ => false
  | some _, none => true
  | some i, some j => decide (i < j)
theorem swoS (t : ByteArray) : Go.Sort.SWO (ltS t) := by
  refine ⟨fun x => ?_, fun x y z h k => ?_, fun x y z h k => ?_⟩
  · unfold ltS; cases pl x.1 t <;> simp
  · unfold ltS at *
    cases hx : pl x.1 t <;> cases hy : pl y.1 t <;> cases hz : pl z.1 t <;> simp_all
    omega
  · unfold ltS at *
    cases hx : pl x.1 t <;> cases hy : pl y.1 t <;> cases hz : pl z.1 t <;> simp_all
    omega
/-- the place as the program tells it -/
def plI (s t : ByteArray) : Int := fbI 0 (pl s t)
theorem ltS_eq (t : ByteArray) (a b : ByteArray × Nat) : ltS t a b = (if plI a.1 t < 0 then false else if plI b.1 t < 0 then true else decide (plI a.1 t < plI b.1 t)) := by
  unfold ltS plI
  cases hx : pl a.1 t with
  | none => simp [fbI]
  | some i =>
    cases hy : pl b.1 t with
    | none =>
      have : ¬ ((i : Int) < 0) := by omega
      simp [fbI, this]
    | some j =>
      have h1 : ¬ (fbI 0 (some i) < 0) := by show ¬ (((0 + i : Nat) : Int) < 0); omega
      have h2 : ¬ (fbI 0 (some j) < 0) := by show ¬ (((0 + j : Nat) : Int) < 0); omega
      rw [if_neg h1, if_neg h2]
      show decide (i < j) = decide (((0 + i : Nat) : Int) < ((0 + j : Nat) : Int))
      congr 1
      simp
/-- the six, as the program lists them -/
def sixV : List (ByteArray × Nat) := [(⟨#[58, 63]⟩, 123), (⟨#[63]⟩, 124), (⟨#[58, 45]⟩, 125), (⟨#[45]⟩, 126), (⟨#[58, 43]⟩, 127), (⟨#[43]⟩, 128)]
theorem sixV_size : ∀ x ∈ sixV, 1 ≤ x.1.size ∧ x.1.size ≤ 2 := by
  intro x hx
  simp only [sixV, List.mem_cons, List.not_mem_nil, or_false] at hx
  rcases hx with rfl | rfl | rfl | rfl | rfl | rfl <;> decide
def sx (i : Fin 6) : ByteArray × Nat := sixV.get i
def encF (i : Fin 6) : List Value := encS (sx i)
theorem sx_size (i : Fin 6) : 1 ≤ (sx i).1.size ∧ (sx i).1.size ≤ 2 := sixV_size _ (List.get_mem _ _)
def ltF (t : ByteArray) (a b : Fin 6) : Bool := ltS t (sx a) (sx b)
theorem swoF (t : ByteArray) : Go.Sort.SWO (ltF t) := ⟨fun x => (swoS t).1 (sx x), fun x y z h k => (swoS t).2 (sx x) (sx y) (sx z) h k, fun x y z h k => (swoS t).3 (sx x) (sx y) (sx z) h k⟩
set_option maxHeartbeats 2000000 in
theorem sub_less (tb : ByteArray) (hts : tb.size < 2305843009213693952) (Bs Bt : Nat) (W : World) (blk c : Nat) (G : Array (Fin 6)) (hs : W.cell? ⟨Bs, 0, none⟩ = some (.slice (some ⟨blk, 0, none⟩) G.size c)) (ht : W.cell? ⟨Bt, 0, none⟩ = some (.string tb)) (hc : ∀ j, j < G.size → ∀ c', c' < 2 → W.cell? ⟨blk, j * 2 + c', none⟩ = some ((encF G[j]!)[c']!)) (a b : Nat) (ha : a < G.size) (hb : b < G.size) :
    Calls Tryz.prog 129 #[.int .i64 a, .int .i64 b, .pointer (some ⟨Bt, 0, none⟩), .pointer (some ⟨Bs, 0, none⟩)] W fun e w' => e = .returned (.bool (ltF tb G[a]! G[b]!)) ∧ ∃ q, w' = W.drewN q := by
  have ca : W.cell? ⟨blk, a * 2, none⟩ = some (.string (sx G[a]!).1) := hc a ha 0 (by decide)
  have cb : W.cell? ⟨blk, b * 2, none⟩ = some (.string (sx G[b]!).1) := hc b hb 0 (by decide)
  have ga := sx_size G[a]!
  have gb := sx_size G[b]!
  unfold ltF
  rw [ltS_eq]
  obtain ⟨x, hx⟩ : ∃ x, x = (sx G[a]!).1 := ⟨_, rfl⟩
  obtain ⟨y, hy⟩ : ∃ y, y = (sx G[b]!).1 := ⟨_, rfl⟩
  rw [← hx] at ca ga ⊢
  rw [← hy] at cb gb ⊢
  have IA := Lib.hid (index_l tb x (tb.size + 1) hts ga.1 (by omega) (Nat.le_refl _))
  have IB := Lib.hid (index_l tb y (tb.size + 1) hts gb.1 (by omega) (Nat.le_refl _))
  rw [show fbI 0 (idx x.data.toList tb.data.toList) = plI x tb from rfl] at IA
  rw [show fbI 0 (idx y.data.toList tb.data.toList) = plI y tb from rfl] at IB
  clear hc hx hy ga gb hts
  obtain ⟨i, hi⟩ : ∃ i, i = plI x tb := ⟨_, rfl⟩
  obtain ⟨j, hj⟩ : ∃ j, j = plI y tb := ⟨_, rfl⟩
  rw [← hi] at IA ⊢
  rw [← hj] at IB ⊢
  clear hi hj
  by_cases hi : i < 0
  · rw [if_pos hi]
    go_enter Tryz.func129, Tryz.ntmps129
    go_wp2_with fail
    go_quiet ((go_at_call 100; refine (template_zzIndex.calls _ _ _ _ _ IA.out).mono ?_; rintro e w' ⟨rfl, ⟨nd, rfl⟩⟩; first | exact ⟨rfl, _, World.drewN_drewN _ _ _⟩ | exact ⟨rfl, _, Eq.trans (World.drewN_drewN _ _ _) (congrArg (World.drewN _) (Nat.add_assoc _ _ _))⟩ | exact ⟨rfl, _, rfl⟩))
    go_wp2_with fail
    go_quiet ((go_at_call 100; refine (template_zzIndex.calls _ _ _ _ _ IB.out).mono ?_; rintro e w' ⟨rfl, ⟨nd, rfl⟩⟩; first | exact ⟨rfl, _, World.drewN_drewN _ _ _⟩ | exact ⟨rfl, _, Eq.trans (World.drewN_drewN _ _ _) (congrArg (World.drewN _) (Nat.add_assoc _ _ _))⟩ | exact ⟨rfl, _, rfl⟩))
    go_wp2
    go_ret
    exact ⟨rfl, _, rfl⟩
  · rw [if_neg hi]
    by_cases hj : j < 0
    · rw [if_pos hj]
      go_enter Tryz.func129, Tryz.ntmps129
      go_wp2_with fail
      go_quiet ((go_at_call 100; refine (template_zzIndex.calls _ _ _ _ _ IA.out).mono ?_; rintro e w' ⟨rfl, ⟨nd, rfl⟩⟩; first | exact ⟨rfl, _, World.drewN_drewN _ _ _⟩ | exact ⟨rfl, _, Eq.trans (World.drewN_drewN _ _ _) (congrArg (World.drewN _) (Nat.add_assoc _ _ _))⟩ | exact ⟨rfl, _, rfl⟩))
      go_wp2_with fail
      go_quiet ((go_at_call 100; refine (template_zzIndex.calls _ _ _ _ _ IB.out).mono ?_; rintro e w' ⟨rfl, ⟨nd, rfl⟩⟩; first | exact ⟨rfl, _, World.drewN_drewN _ _ _⟩ | exact ⟨rfl, _, Eq.trans (World.drewN_drewN _ _ _) (congrArg (World.drewN _) (Nat.add_assoc _ _ _))⟩ | exact ⟨rfl, _, rfl⟩))
      go_wp2
      go_ret
      exact ⟨rfl, _, rfl⟩
    · rw [if_neg hj]
      go_enter Tryz.func129, Tryz.ntmps129
      go_wp2_with fail
      go_quiet ((go_at_call 100; refine (template_zzIndex.calls _ _ _ _ _ IA.out).mono ?_; rintro e w' ⟨rfl, ⟨nd, rfl⟩⟩; first | exact ⟨rfl, _, World.drewN_drewN _ _ _⟩ | exact ⟨rfl, _, Eq.trans (World.drewN_drewN _ _ _) (congrArg (World.drewN _) (Nat.add_assoc _ _ _))⟩ | exact ⟨rfl, _, rfl⟩))
      go_wp2_with fail
      go_quiet ((go_at_call 100; refine (template_zzIndex.calls _ _ _ _ _ IB.out).mono ?_; rintro e w' ⟨rfl, ⟨nd, rfl⟩⟩; first | exact ⟨rfl, _, World.drewN_drewN _ _ _⟩ | exact ⟨rfl, _, Eq.trans (World.drewN_drewN _ _ _) (congrArg (World.drewN _) (Nat.add_assoc _ _ _))⟩ | exact ⟨rfl, _, rfl⟩))
      go_wp2
      go_ret
      exact ⟨rfl, _, rfl⟩
noncomputable def tiT : TypeInfo := (Tryz.prog.info? 200).get (by kernel_rfl)
noncomputable def tiE : TypeInfo := (Tryz.prog.info? 199).get (by kernel_rfl)
theorem tiK (n : Nat) (h2 : 2 ≤ n) : Lib.swapperK n tiE 25 = 9 := by
  have a : tiE.hasPointers = true := by kernel_rfl
  have b : tiE.bytes = 24 := by kernel_rfl
  have c : (n == 0) = false := by simp; omega
  have d : (n == 1) = false := by simp; omega
  simp [Lib.swapperK, a, b, c, d]
theorem sub_sort (tb : ByteArray) (hts : tb.size < 2305843009213693952) (Bs Bt : Nat) (W : World) (base : Nat) (v : Value) (hown : W.ownsRow base 199 2 v 6 ((List.finRange 6).flatMap encF)) (hbx : W.cell? ⟨Bs, 0, none⟩ = some v) (hne : v.ownBlock ≠ some Bs) (hbt : W.cell? ⟨Bt, 0, none⟩ = some (.string tb)) (hnt : v.ownBlock ≠ some Bt) :
    Calls Tryz.prog 45 #[.iface 200 v, .func (.func 129) #[] #[.pointer (some ⟨Bt, 0, none⟩), .pointer (some ⟨Bs, 0, none⟩)]] W fun en w' =>
      en = .returned (.tuple #[]) ∧ ∃ l' : List (Fin 6), l'.Perm (List.finRange 6) ∧ l'.Pairwise (fun a b => ltF tb b a = false) ∧ w'.ownsRow base 199 2 v l'.length (l'.flatMap encF) ∧ W.grownBy w' v.ownBlock := by
  have hl : (List.finRange 6).length = 6 := by decide
  exact Srt.sort_own2 (P := Tryz.prog) (enc := encF) (k := 2) Tryz.laysGg6 200 199 tiT tiE (by kernel_rfl) (by kernel_rfl) (by kernel_rfl) (by kernel_rfl) 25 (fun _ => by kernel_rfl) (fun _ => rfl) (by decide) (by kernel_rfl) (fun _ => by kernel_rfl) (fun x v hv => by simp [encF, encS] at hv; rcases hv with rfl | rfl <;> rfl) (ltF tb) (swoF tb) 129
    (Go.Proofs.enters_of Tryz.func129 (by kernel_rfl) rfl) 73 74 81 (by kernel_rfl) (by kernel_rfl) 9 tiK (by kernel_rfl) false
    (fun args W => run_callFunc_extern Tryz.func81 (by kernel_rfl) (by kernel_rfl) (by kernel_rfl) (e := Extern.ReflectliteSwapper.swap false) (by kernel_rfl) args W) Bs Bt (.string tb) (fun W blk c G a b d => sub_less tb hts Bs Bt W blk c G a b d) W base v (List.finRange 6) (by rw [hl]; exact hown) hbx hne hbt hnt (by rw [hl]; decide)
end Go.Proofs.YtlncdacoefoldaaGreatDoor.U

/- Walks: the operator that a text's match goes by. -/
namespace Go.Proofs.YtlncdacoefoldaaGreatDoor.U
set_option linter.unusedVariables false
set_option linter.unusedSimpArgs false
set_option linter.unusedSectionVars false
open Go.RowKit Go.Proofs.YtlncdacoefoldaaGreatDoorW.PrintWords Go.Proofs.YtlncdacoefoldaaGreatDoorW.PrintLast Go.Proofs.YtlncdacoefoldaaGreatDoor.PX Go.Proofs.YtlncdacoefoldaaGreatDoor.L

theorem sx_mem (i : Fin 6) : (sx i).1.data.toList ∈ six := by
  match i with
  | 0 => decide
  | 1 => decide
  | 2 => decide
  | 3 => decide
  | 4 => decide
  | 5 => decide
theorem sx_of (s : Bs) (h : s ∈ six) : ∃ i : Fin 6, (sx i).1.data.toList = s := by
  simp only [six, List.mem_cons, List.not_mem_nil, or_false] at h
  rcases h with rfl | rfl | rfl | rfl | rfl | rfl
  · exact ⟨0, rfl⟩
  · exact ⟨1, rfl⟩
  · exact ⟨2, rfl⟩
  · exact ⟨3, rfl⟩
  · exact ⟨4, rfl⟩
  · exact ⟨5, rfl⟩
theorem first_is (t : ByteArray) (i0 : Fin 6) (h : ∀ k, ltF t k i0 = false) (s : Bs) (hs : signOf t.data.toList = some s) : (sx i0).1.data.toList = s := by
  obtain ⟨h1, i, h2, h3⟩ := sign_some _ _ hs
  obtain ⟨k, hk⟩ := sx_of s h1
  have hlt := h k
  unfold ltF ltS pl at hlt
  rw [hk, h2] at hlt
  by_cases e : (sx i0).1.data.toList = s
  · exact e
  · cases hj : idx (sx i0).1.data.toList t.data.toList with
    | none => rw [hj] at hlt; simp at hlt
    | some j =>
      rw [hj] at hlt
      have := h3 _ (sx_mem i0) e j hj
      simp at hlt
      omega
def cells6 : Array Value := #[.string ⟨#[58, 63]⟩, .func (.func 123) #[] #[], .string ⟨#[63]⟩, .func (.func 124) #[] #[], .string ⟨#[58, 45]⟩, .func (.func 125) #[] #[], .string ⟨#[45]⟩, .func (.func 126) #[] #[], .string ⟨#[58, 43]⟩, .func (.func 127) #[] #[], .string ⟨#[43]⟩, .func (.func 128) #[] #[]]
theorem own6 {w : World} {base g : Nat} (h : w.heap[g]? = some (.cells cells6 199 (0, 0))) (hg : base ≤ g) : w.ownsRow base 199 2 (.slice (some ⟨g, 0, none⟩) 6 6) 6 ((List.finRange 6).flatMap encF) :=
  ⟨rfl, .inr ⟨g, 6, cells6, rfl, hg, h, by omega, by unfold maxLen; decide, rfl, rfl⟩⟩
theorem read6 {w : World} {base g : Nat} {l : List (Fin 6)} (hp : l.Perm (List.finRange 6)) (h : w.ownsRow base 199 2 (.slice (some ⟨g, 0, none⟩) 6 6) l.length (l.flatMap encF)) :
    ∃ i0 r, l = i0 :: r ∧ w.cell? ⟨g, 0, none⟩ = some (.string (sx i0).1) ∧ w.cell? ⟨g, 1, none⟩ = some (.func (.func (sx i0).2) #[] #[]) := by
  have hl : l.length = 6 := hp.length_eq.trans (by decide)
  match l, hl with
  | i0 :: r, hl =>
    refine ⟨i0, r, rfl, ?_⟩
    obtain ⟨A, c, e, _, hr⟩ := RowK.of_own h
    injection e with e1 e2 e3
    subst e1
    obtain ⟨b, o, e, _, _, hc⟩ := hr (by simp [encF, encS])
    injection e with e
    injection e with e1 e2
    subst e1
    subst e2
    have h0 := hc 0 (by simp [encF, encS])
    have h1 := hc 1 (by simp [encF, encS])
    exact ⟨h0, h1⟩
theorem heap_old {w : World} {o x : Obj} {b : Nat} (h : w.heap[b]? = some x) : (w.alloc o).heap[b]? = some x := by
  have hb : b < w.heap.size := by
    rcases Nat.lt_or_ge b w.heap.size with q | q
    · exact q
    · rw [Array.getElem?_eq_none q] at h; cases h
  exact (((Below.refl w.heap.size w).alloc (Nat.le_refl _) o).block b hb).trans h
theorem heap_new1 (w : World) (o1 o : Obj) : ((w.alloc o1).alloc o).heap[w.heap.size + 1]? = some o := by
  have h := (MapKept.heap_alloc (w.alloc o1) o).1
  rw [show (w.alloc o1).heap.size = w.heap.size + 1 by simp] at h
  exact h
theorem heap_new2 (w : World) (o1 o2 o : Obj) : (((w.alloc o1).alloc o2).alloc o).heap[w.heap.size + 2]? = some o := by
  have h := (MapKept.heap_alloc ((w.alloc o1).alloc o2) o).1
  rw [show ((w.alloc o1).alloc o2).heap.size = w.heap.size + 2 by simp] at h
  exact h
theorem cell0 {w : World} {b : Nat} {v : Value} {T : TypeId} {fr : Nat × Nat} (h : w.heap[b]? = some (.cells #[v] T fr)) : w.cell? ⟨b, 0, none⟩ = some v := by simp [World.cell?, h]
theorem all_of {l : List (Fin 6)} {lt : Fin 6 → Fin 6 → Bool} {i0 : Fin 6} {r : List (Fin 6)} (hirr : lt i0 i0 = false) (hp : (i0 :: r).Perm (List.finRange 6)) (hs : (i0 :: r).Pairwise (fun a b => lt b a = false)) : ∀ k, lt k i0 = false := by
  intro k
  have hk : k ∈ i0 :: r := hp.mem_iff.2 (List.mem_finRange k)
  rcases List.mem_cons.1 hk with rfl | hk
  · exact hirr
  · exact (List.pairwise_cons.1 hs).1 k hk
set_option maxHeartbeats 2000000 in
set_option maxRecDepth 100000 in
theorem get_sub (tb : ByteArray) (hts : tb.size < 2305843009213693952) (w : World) :
    Calls Tryz.prog 118 #[.string tb] w fun e w' => ∃ i0 : Fin 6, e = .returned (.tuple #[.string (sx i0).1, .func (.func (sx i0).2) #[] #[]]) ∧ (∀ s, signOf tb.data.toList = some s → (sx i0).1.data.toList = s) ∧ Below w.heap.size w w' := by
  go_enter Tryz.func118, Tryz.ntmps118
  go_wp2_with (go_at_call 45; refine (sub_sort tb hts (w.heap.size + 2) w.heap.size _ (w.heap.size + 1) _ (own6 ?h1 (Nat.le_refl _)) ?h2 ?h3 ?h4 ?h5).mono ?_; (case h1 => exact heap_old (heap_new1 _ _ _)); (case h2 => exact cell0 (heap_new2 _ _ _ _)); (case h3 => simp [Value.ownBlock]); (case h4 => exact cell0 (heap_old (heap_old (MapKept.heap_alloc _ _).1))); (case h5 => simp [Value.ownBlock]); rintro e w1 ⟨rfl, l', hp, hs, ho, hg⟩; have hbx : w1.cell? ⟨w.heap.size + 2, 0, none⟩ = some (.slice (some ⟨w.heap.size + 1, 0, none⟩) 6 6) := cell0 ((hg.block (w.heap.size + 2) (by simp) (by simp [Value.ownBlock])).trans (heap_new2 _ _ _ _)); have HB := Aside0.mk (((((Below.refl w.heap.size w).alloc (Nat.le_refl _) _).alloc (by simp) _).alloc (by simp; omega) _).grown hg (by simp; omega) (fun k hk => by simp [Value.ownBlock] at hk; omega)); obtain ⟨i0, r, rfl, hc0, hc1⟩ := read6 hp ho; have HM := Lib.hid (first_is tb i0 (all_of (l := i0 :: r) ((swoF tb).1 i0) hp hs)); clear hp hs ho hg)
  obtain ⟨y, hy⟩ : ∃ y, sx i0 = y := ⟨_, rfl⟩
  rw [hy] at hc0 hc1
  have HY := Lib.hid hy
  clear hy
  obtain ⟨ys, yf⟩ := y
  simp only [] at hc0 hc1
  go_quiet (fail)
  go_wp2
  go_ret2
  exact ⟨i0, by rw [HY.out]; rfl, HM.out, (below_drewN HB.out _)⟩
end Go.Proofs.YtlncdacoefoldaaGreatDoor.U
