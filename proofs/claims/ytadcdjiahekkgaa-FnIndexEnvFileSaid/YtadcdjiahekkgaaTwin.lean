/- Plain: what laws.to, laws.from and spec.Same (as printed) answer on any value. -/
import Derived.Test.YtadcdjiahekkgaaFine
import Derived.Test.YtadcdjiahekkgaaPTx1
import Derived.Test.YtadcdjiahekkgaaPTx2
import Derived.Test.YtadcdjiahekkgaaPTx3
namespace Go.Proofs.Ytadcdjiahekkgaa.A
set_option linter.unusedVariables false
set_option linter.unusedSimpArgs false
set_option linter.unusedSectionVars false
open Go.RowKit Go.Proofs.YtadcdjiahekkgaaW.PrintWords Go.Proofs.YtadcdjiahekkgaaW.PrintLast Go.Proofs.YtadcdjiahekkgaaW.PrintMore Go.Proofs.Ytadcdjiahekkgaa.PT Go.Proofs.Ytadcdjiahekkgaa.L Go.Proofs.Ytadcdjiahekkgaa.SM

/-- the same value, as the specification and as the thin package have it -/
inductive Twin : SV → IV → Prop
  | mk {x : SV} {y : IV} (h0 : x.f0 = y.f0) (h1 : x.f1 = y.f1) (h2 : x.f2 = y.f2) (h3 : x.f3 = y.f3) (hl : x.f4.length = y.f4.length) (hb3 : x.f3.length ≤ 1099511627776) (hb4 : x.f4.length ≤ 1099511627776)
      (he : ∀ (i : Nat) (q1 : i < x.f4.length) (q2 : i < y.f4.length), Twin (x.f4[i]'q1) (y.f4[i]'q2)) : Twin x y
theorem etaI (x : IV) : (⟨x.f0, x.f1, x.f2, x.f3, x.f4⟩ : IV) = x := by cases x; rfl
theorem common (P : Nat → Nat → Prop) : ∀ n, (∀ i, i < n → ∃ k, ∀ K, k ≤ K → P i K) → ∃ k, ∀ i, i < n → ∀ K, k ≤ K → P i K
  | 0, _ => ⟨0, fun i h => absurd h (Nat.not_lt_zero _)⟩
  | n + 1, h => by
    obtain ⟨k, hk⟩ := common P n (fun i hi => h i (Nat.lt_succ_of_lt hi))
    obtain ⟨q, hq⟩ := h n (Nat.lt_succ_self _)
    refine ⟨max k q, fun i hi K hK => ?_⟩
    rcases Nat.lt_or_ge i n with hlt | hge
    · exact hk i hlt K (by omega)
    · obtain rfl : i = n := by omega
      exact hq K (by omega)
theorem wrT {j : Nat} (h : j ≤ 1099511627776) : wrap64 ((j : Int) + 1) = ((j + 1 : Nat) : Int) := by unfold wrap64; omega
theorem rdSV {l : List SV} {i : Nat} (h : i < l.length) : rd_T32 l (i : Int) = l[i] := by
  simp [rd_T32, List.getD_eq_getElem?_getD, List.getElem?_eq_getElem h]
abbrev Fto (K : Nat) (x : SV) := laws_to.f K x.f0 x.f1 x.f2 x.f3 x.f4
theorem to_loop (x : SV) (y : IV) (hl : x.f4.length = y.f4.length) (hb4 : x.f4.length ≤ 1099511627776) (k : Nat)
    (hk : ∀ i, i < x.f4.length → ∀ K, k ≤ K → ∀ (q1 : i < x.f4.length) (q2 : i < y.f4.length), Fto K (x.f4[i]'q1) = some ((y.f4[i]'q2).f0, (y.f4[i]'q2).f1, (y.f4[i]'q2).f2, (y.f4[i]'q2).f3, (y.f4[i]'q2).f4)) :
    ∀ d j K, j + d = x.f4.length → k + d + 1 ≤ K → laws_to.l0 K (j : Int) x.f0 x.f1 x.f2 x.f3 x.f4 y.f0 y.f1 y.f2 y.f3 (y.f4.take j) = some (y.f0, y.f1, y.f2, y.f3, y.f4)
  | 0, j, K, hj, hK => by
    obtain ⟨K, rfl⟩ : ∃ K', K = K' + 1 := ⟨K - 1, by omega⟩
    simp only [laws_to.l0]
    rw [if_neg (by omega), List.take_of_length_le (by omega)]
  | d + 1, j, K, hj, hK => by
    obtain ⟨K, rfl⟩ : ∃ K', K = K' + 1 := ⟨K - 1, by omega⟩
    have h1 : j < x.f4.length := by omega
    have h2 : j < y.f4.length := by omega
    simp only [laws_to.l0]
    have hq := hk j h1 K (by omega) h1 h2
    simp only [Fto] at hq
    rw [if_pos (by omega), if_pos (by omega), rdSV h1, hq]
    simp only [Option.bind_some]
    rw [if_pos (by rw [List.length_take]; omega), wrT (by omega)]
    have := to_loop x y hl hb4 k hk d (j + 1) K (by omega) (by omega)
    rw [List.take_succ_eq_append_getElem h2] at this
    rw [etaI]
    exact this
theorem to_f {x : SV} {y : IV} (h : Twin x y) : ∃ k, ∀ K, k ≤ K → Fto K x = some (y.f0, y.f1, y.f2, y.f3, y.f4) := by
  induction h with
  | @mk x y h0 h1 h2 h3 hl hb3 hb4 he ih =>
    obtain ⟨k, hk⟩ := common (fun i K => ∀ (q1 : i < x.f4.length) (q2 : i < y.f4.length), Fto K (x.f4[i]'q1) = some ((y.f4[i]'q2).f0, (y.f4[i]'q2).f1, (y.f4[i]'q2).f2, (y.f4[i]'q2).f3, (y.f4[i]'q2).f4)) x.f4.length (fun i hi => by
      obtain ⟨k, hk⟩ := ih i hi (by omega)
      exact ⟨k, fun K hK q1 q2 => hk K hK⟩)
    refine ⟨k + x.f4.length + 2, fun K hK => ?_⟩
    obtain ⟨K, rfl⟩ : ∃ K', K = K' + 1 := ⟨K - 1, by omega⟩
    simp only [Fto, laws_to.f, Option.bind_some]
    rw [if_pos (by simp only [List.length_nil]; omega), List.nil_append]
    have := to_loop x y hl hb4 k hk x.f4.length 0 K (by omega) (by omega)
    rw [List.take_zero] at this
    rw [← h0, ← h1, ← h2, ← h3] at this ⊢
    exact this
/-- no list of a value is past all bounds -/
inductive Bnd : SV → Prop
  | mk {x : SV} (hb3 : x.f3.length ≤ 1099511627776) (hb4 : x.f4.length ≤ 1099511627776) (he : ∀ (i : Nat) (q1 : i < x.f4.length), Bnd (x.f4[i]'q1)) : Bnd x
end Go.Proofs.Ytadcdjiahekkgaa.A
