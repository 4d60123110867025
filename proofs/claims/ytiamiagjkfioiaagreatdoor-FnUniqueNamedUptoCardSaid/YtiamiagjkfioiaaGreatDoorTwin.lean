/- Plain: what laws.to, laws.from and spec.Same (as printed) answer on any value. -/
import Derived.Test.YtiamiagjkfioiaaGreatDoorFine
import Derived.Test.YtiamiagjkfioiaaGreatDoorPTx2
import Derived.Test.YtiamiagjkfioiaaGreatDoorPTx3
namespace Go.Proofs.YtiamiagjkfioiaaGreatDoor.A
set_option linter.unusedVariables false
set_option linter.unusedSimpArgs false
set_option linter.unusedSectionVars false
open Go.RowKit Go.Proofs.YtiamiagjkfioiaaGreatDoorW.PrintWords Go.Proofs.YtiamiagjkfioiaaGreatDoorW.PrintLast Go.Proofs.YtiamiagjkfioiaaGreatDoorW.PrintMore Go.Proofs.YtiamiagjkfioiaaGreatDoor.PT Go.Proofs.YtiamiagjkfioiaaGreatDoor.L Go.Proofs.YtiamiagjkfioiaaGreatDoor.SM

/-- the same value, as the specification and as the thin package have it -/
inductive Twin : SV → IV → Prop
  | mk {x : SV} {y : IV} (h0 : x.f0 = y.f0) (h1 : x.f1 = y.f1) (h2 : x.f2 = y.f2) (h3 : x.f3 = y.f3) (hl : x.f4.length = y.f4.length) (hb3 : x.f3.length ≤ 1099511627776) (hb4 : x.f4.length ≤ 1099511627776)
      (he : ∀ (i : Nat) (q1 : i < x.f4.length) (q2 : i < y.f4.length), Twin (x.f4[i]'q1) (y.f4[i]'q2)) : Twin x y
theorem etaS (x : SV) : (⟨x.f0, x.f1, x.f2, x.f3, x.f4⟩ : SV) = x := by cases x; rfl
theorem etaI (x : IV) : (⟨x.f0, x.f1, x.f2, x.f3, x.f4⟩ : IV) = x := by cases x; rfl
theorem common (P : Nat → Nat → Prop) : ∀ n, (∀ i, i < n → ∃ k, ∀ K, k ≤ K → P i K) → ∃ k, ∀ i, i < n → ∀ K, k ≤ K → P i K
  | 0, _ => ⟨0, fun i h => absurd h (Nat.not_lt_zero _)⟩
  | n + 1, h => by
    obtain ⟨k, hk⟩ := common P n (fun i hi => h i (Nat.lt_succ_of_lt hi))
    obtain ⟨q, hq⟩ := h n (Nat.lt_succ_self _)
    refine ⟨max k q, fun i hi K hK => ?_⟩
    rcases Nat.lt_or_ge i n with hlt | hge
    · exact hk i hlt K (by omega)
    · obtain rfl : i = n := by omega
      exact hq K (by omega)
theorem wrT {j : Nat} (h : j ≤ 1099511627776) : wrap64 ((j : Int) + 1) = ((j + 1 : Nat) : Int) := by unfold wrap64; omega
theorem rdSV {l : List SV} {i : Nat} (h : i < l.length) : rd_T26 l (i : Int) = l[i] := by
  simp [rd_T26, List.getD_eq_getElem?_getD, List.getElem?_eq_getElem h]
theorem rdIV {l : List IV} {i : Nat} (h : i < l.length) : rd_T34 l (i : Int) = l[i] := by
  simp [rd_T34, List.getD_eq_getElem?_getD, List.getElem?_eq_getElem h]
abbrev Fto (K : Nat) (x : SV) := laws_to.f K x.f0 x.f1 x.f2 x.f3 x.f4
abbrev Ffrom (K : Nat) (y : IV) := laws_from.f K y.f0 y.f1 y.f2 y.f3 y.f4
abbrev Fsame (K : Nat) (x y : SV) := spec_Same.f K x.f0 x.f1 x.f2 x.f3 x.f4 y.f0 y.f1 y.f2 y.f3 y.f4
theorem to_loop (x : SV) (y : IV) (hl : x.f4.length = y.f4.length) (hb4 : x.f4.length ≤ 1099511627776) (k : Nat)
    (hk : ∀ i, i < x.f4.length → ∀ K, k ≤ K → ∀ (q1 : i < x.f4.length) (q2 : i < y.f4.length), Fto K (x.f4[i]'q1) = some ((y.f4[i]'q2).f0, (y.f4[i]'q2).f1, (y.f4[i]'q2).f2, (y.f4[i]'q2).f3, (y.f4[i]'q2).f4)) :
    ∀ d j K, j + d = x.f4.length → k + d + 1 ≤ K → laws_to.l0 K (j : Int) x.f0 x.f1 x.f2 x.f3 x.f4 y.f0 y.f1 y.f2 y.f3 (y.f4.take j) = some (y.f0, y.f1, y.f2, y.f3, y.f4)
  | 0, j, K, hj, hK => by
    obtain ⟨K, rfl⟩ : ∃ K', K = K' + 1 := ⟨K - 1, by omega⟩
    simp only [laws_to.l0]
    rw [if_neg (by omega), List.take_of_length_le (by omega)]
  | d + 1, j, K, hj, hK => by
    obtain ⟨K, rfl⟩ : ∃ K', K = K' + 1 := ⟨K - 1, by omega⟩
    have h1 : j < x.f4.length := by omega
    have h2 : j < y.f4.length := by omega
    simp only [laws_to.l0]
    have hq := hk j h1 K (by omega) h1 h2
    simp only [Fto] at hq
    rw [if_pos (by omega), if_pos (by omega), rdSV h1, hq]
    simp only [Option.bind_some]
    rw [if_pos (by rw [List.length_take]; omega), wrT (by omega)]
    have := to_loop x y hl hb4 k hk d (j + 1) K (by omega) (by omega)
    rw [List.take_succ_eq_append_getElem h2] at this
    rw [etaI]
    exact this
theorem to_f {x : SV} {y : IV} (h : Twin x y) : ∃ k, ∀ K, k ≤ K → Fto K x = some (y.f0, y.f1, y.f2, y.f3, y.f4) := by
  induction h with
  | @mk x y h0 h1 h2 h3 hl hb3 hb4 he ih =>
    obtain ⟨k, hk⟩ := common (fun i K => ∀ (q1 : i < x.f4.length) (q2 : i < y.f4.length), Fto K (x.f4[i]'q1) = some ((y.f4[i]'q2).f0, (y.f4[i]'q2).f1, (y.f4[i]'q2).f2, (y.f4[i]'q2).f3, (y.f4[i]'q2).f4)) x.f4.length (fun i hi => by
      obtain ⟨k, hk⟩ := ih i hi (by omega)
      exact ⟨k, fun K hK q1 q2 => hk K hK⟩)
    refine ⟨k + x.f4.length + 2, fun K hK => ?_⟩
    obtain ⟨K, rfl⟩ : ∃ K', K = K' + 1 := ⟨K - 1, by omega⟩
    simp only [Fto, laws_to.f, Option.bind_some]
    rw [if_pos (by simp only [List.length_nil]; omega), List.nil_append]
    have := to_loop x y hl hb4 k hk x.f4.length 0 K (by omega) (by omega)
    rw [List.take_zero] at this
    rw [← h0, ← h1, ← h2, ← h3] at this ⊢
    exact this
theorem from_loop (x : SV) (y : IV) (hl : x.f4.length = y.f4.length) (hb4 : x.f4.length ≤ 1099511627776) (k : Nat)
    (hk : ∀ i, i < x.f4.length → ∀ K, k ≤ K → ∀ (q1 : i < x.f4.length) (q2 : i < y.f4.length), Ffrom K (y.f4[i]'q2) = some ((x.f4[i]'q1).f0, (x.f4[i]'q1).f1, (x.f4[i]'q1).f2, (x.f4[i]'q1).f3, (x.f4[i]'q1).f4)) :
    ∀ d j K, j + d = x.f4.length → k + d + 1 ≤ K → laws_from.l0 K (j : Int) y.f0 y.f1 y.f2 y.f3 y.f4 x.f0 x.f1 x.f2 x.f3 (x.f4.take j) = some (x.f0, x.f1, x.f2, x.f3, x.f4)
  | 0, j, K, hj, hK => by
    obtain ⟨K, rfl⟩ : ∃ K', K = K' + 1 := ⟨K - 1, by omega⟩
    simp only [laws_from.l0]
    rw [if_neg (by omega), List.take_of_length_le (by omega)]
  | d + 1, j, K, hj, hK => by
    obtain ⟨K, rfl⟩ : ∃ K', K = K' + 1 := ⟨K - 1, by omega⟩
    have h1 : j < x.f4.length := by omega
    have h2 : j < y.f4.length := by omega
    simp only [laws_from.l0]
    have hq := hk j h1 K (by omega) h1 h2
    simp only [Ffrom] at hq
    rw [if_pos (by omega), if_pos (by omega), rdIV h2, hq]
    simp only [Option.bind_some]
    rw [if_pos (by rw [List.length_take]; omega), wrT (by omega)]
    have := from_loop x y hl hb4 k hk d (j + 1) K (by omega) (by omega)
    rw [List.take_succ_eq_append_getElem h1] at this
    rw [etaS]
    exact this
theorem from_f {x : SV} {y : IV} (h : Twin x y) : ∃ k, ∀ K, k ≤ K → Ffrom K y = some (x.f0, x.f1, x.f2, x.f3, x.f4) := by
  induction h with
  | @mk x y h0 h1 h2 h3 hl hb3 hb4 he ih =>
    obtain ⟨k, hk⟩ := common (fun i K => ∀ (q1 : i < x.f4.length) (q2 : i < y.f4.length), Ffrom K (y.f4[i]'q2) = some ((x.f4[i]'q1).f0, (x.f4[i]'q1).f1, (x.f4[i]'q1).f2, (x.f4[i]'q1).f3, (x.f4[i]'q1).f4)) x.f4.length (fun i hi => by
      obtain ⟨k, hk⟩ := ih i hi (by omega)
      exact ⟨k, fun K hK q1 q2 => hk K hK⟩)
    refine ⟨k + x.f4.length + 2, fun K hK => ?_⟩
    obtain ⟨K, rfl⟩ : ∃ K', K = K' + 1 := ⟨K - 1, by omega⟩
    simp only [Ffrom, laws_from.f, Option.bind_some]
    have h3' : y.f3.length = x.f3.length := by rw [h3]
    rw [if_pos (by simp only [List.length_nil]; omega), List.nil_append]
    have := from_loop x y hl hb4 k hk x.f4.length 0 K (by omega) (by omega)
    rw [List.take_zero] at this
    rw [h0, h1, h2, h3] at this ⊢
    exact this
/-- no list of a value is past all bounds -/
inductive Bnd : SV → Prop
  | mk {x : SV} (hb3 : x.f3.length ≤ 1099511627776) (hb4 : x.f4.length ≤ 1099511627776) (he : ∀ (i : Nat) (q1 : i < x.f4.length), Bnd (x.f4[i]'q1)) : Bnd x
theorem Twin.bnd {x : SV} {y : IV} (h : Twin x y) : Bnd x := by
  induction h with
  | mk h0 h1 h2 h3 hl hb3 hb4 he ih => exact .mk hb3 hb4 (fun i q1 => ih i q1 (by omega))
theorem same_l1 (x : SV) (hb4 : x.f4.length ≤ 1099511627776) (k : Nat) (hk : ∀ i, i < x.f4.length → ∀ K, k ≤ K → ∀ (q1 : i < x.f4.length), Fsame K (x.f4[i]'q1) (x.f4[i]'q1) = some true) :
    ∀ d j K, j + d = x.f4.length → k + d + 1 ≤ K → spec_Same.l1 K (j : Int) x.f0 x.f1 x.f2 x.f3 x.f4 x.f0 x.f1 x.f2 x.f3 x.f4 = some true
  | 0, j, K, hj, hK => by
    obtain ⟨K, rfl⟩ : ∃ K', K = K' + 1 := ⟨K - 1, by omega⟩
    simp only [spec_Same.l1]
    rw [if_neg (by omega)]
  | d + 1, j, K, hj, hK => by
    obtain ⟨K, rfl⟩ : ∃ K', K = K' + 1 := ⟨K - 1, by omega⟩
    have h1 : j < x.f4.length := by omega
    simp only [spec_Same.l1]
    have hq := hk j h1 K (by omega) h1
    simp only [Fsame] at hq
    rw [if_pos (by omega), if_pos (by omega), if_pos (by omega), rdSV h1, hq]
    simp only [Option.bind_some, if_true]
    rw [wrT (by omega)]
    exact same_l1 x hb4 k hk d (j + 1) K (by omega) (by omega)
theorem same_l0 (x : SV) (hb3 : x.f3.length ≤ 1099511627776) (k : Nat) (hk : ∀ K, k ≤ K → spec_Same.l1 K 0 x.f0 x.f1 x.f2 x.f3 x.f4 x.f0 x.f1 x.f2 x.f3 x.f4 = some true) :
    ∀ d j K, j + d = x.f3.length → k + d + 1 ≤ K → spec_Same.l0 K (j : Int) x.f0 x.f1 x.f2 x.f3 x.f4 x.f0 x.f1 x.f2 x.f3 x.f4 = some true
  | 0, j, K, hj, hK => by
    obtain ⟨K, rfl⟩ : ∃ K', K = K' + 1 := ⟨K - 1, by omega⟩
    simp only [spec_Same.l0]
    rw [if_neg (by omega)]
    exact hk K (by omega)
  | d + 1, j, K, hj, hK => by
    obtain ⟨K, rfl⟩ : ∃ K', K = K' + 1 := ⟨K - 1, by omega⟩
    simp only [spec_Same.l0]
    rw [if_pos (by omega), if_pos (by omega), if_pos (by omega), if_pos trivial, wrT (by omega)]
    exact same_l0 x hb3 k hk d (j + 1) K (by omega) (by omega)
theorem same_f {x : SV} (h : Bnd x) : ∃ k, ∀ K, k ≤ K → Fsame K x x = some true := by
  induction h with
  | @mk x hb3 hb4 he ih =>
    obtain ⟨k, hk⟩ := common (fun i K => ∀ (q1 : i < x.f4.length), Fsame K (x.f4[i]'q1) (x.f4[i]'q1) = some true) x.f4.length (fun i hi => by
      obtain ⟨k, hk⟩ := ih i hi
      exact ⟨k, fun K hK q1 => hk K hK⟩)
    have h1 := fun K (hK : k + x.f4.length + 1 ≤ K) => same_l1 x hb4 k hk x.f4.length 0 K (by omega) hK
    have h0 := fun K (hK : k + x.f4.length + 1 + x.f3.length + 1 ≤ K) => same_l0 x hb3 (k + x.f4.length + 1) h1 x.f3.length 0 K (by omega) hK
    refine ⟨k + x.f4.length + x.f3.length + 5, fun K hK => ?_⟩
    obtain ⟨K, rfl⟩ : ∃ K', K = K' + 2 := ⟨K - 2, by omega⟩
    simp only [Fsame, spec_Same.f, spec_Same.j0, if_true]
    have := h0 K (by omega)
    simp only [bne_self_eq_false, Bool.false_eq_true, if_false]
    exact this
end Go.Proofs.YtiamiagjkfioiaaGreatDoor.A
