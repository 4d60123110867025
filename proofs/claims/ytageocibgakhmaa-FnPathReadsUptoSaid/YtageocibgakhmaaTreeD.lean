/- Walks: joined paths; what is asked of known paths; the law on Matches. -/
import Derived.Test.YtageocibgakhmaaTreeC
import Derived.Test.YtageocibgakhmaaShelf
import Derived.Test.YtageocibgakhmaaLaw
namespace Go.Proofs.Ytageocibgakhmaa.L
open Go.RowKit

def dotS : ByteArray := ⟨#[46]⟩
/-- the items, with dots between them -/
def joinD (l : List ByteArray) : ByteArray := ⟨(Lib.join (l.map (·.data.toList)) [46]).toArray⟩

set_option maxHeartbeats 1600000 in
set_option maxRecDepth 100000 in
theorem tree_NewPath (l : List ByteArray) (v : Value) (w : World) (hv : SS w v l) (hN : l.length ≤ 140737488355328) (hlen : (joinD l).size ≤ 140737488355328) :
    Calls Try.prog 58 #[v] w fun e w' => e = .returned (.string (joinD l)) ∧ Below w.heap.size w w' := by
  have hlen' : (Lib.join (l.map (·.data.toList)) dotS.data.toList).length ≤ 140737488355328 := by
    have : (joinD l).size = (Lib.join (l.map (·.data.toList)) [46]).length := mk_size _
    rw [this] at hlen
    exact hlen
  have H := Lib.hid hlen'
  clear hlen hlen'
  obtain ⟨A, c, rfl, h1, h2, h3⟩ := hv.get
  have HV := Lib.hid h3
  clear hv h3
  rcases Nat.eq_zero_or_pos l.length with h0 | h0
  · have hl : l = [] := List.length_eq_zero_iff.1 h0
    subst hl
    go_enter Try.func58, Try.ntmps58
    go_wp2_with fail
    refine (Try.strings_Join_none A c dotS _).mono ?_
    rintro e w' ⟨rfl, rfl⟩
    go_wp2
    go_ret
    exact ⟨rfl, Below.refl _ _⟩
  · obtain ⟨b, o, rfl, hb, hc⟩ := HV.out h0
    have HC := Lib.hid hc
    clear hc
    go_enter Try.func58, Try.ntmps58
    go_wp2_with fail
    refine (Try.strings_Join b o c l dotS _ (fun j x hx => ?_) hb hN h1 H.out).mono ?_
    · obtain ⟨hj, e⟩ := List.getElem?_eq_some_iff.1 hx
      rw [HC.out j hj, List.getD_eq_getElem?_getD, hx]
      rfl
    rintro e w' ⟨rfl, hb1⟩
    go_wp2
    go_ret
    exact ⟨rfl, hb1⟩

theorem impl_NewPath (l : List ByteArray) (v : Value) (w : World) (hv : SS w v l) (hN : l.length ≤ 140737488355328) (hlen : (joinD l).size ≤ 140737488355328) :
    Calls Try.prog 32 #[v] w fun e w' => e = .returned (.string (joinD l)) ∧ Below w.heap.size w w' := by
  go_enter Try.func32, Try.ntmps32
  go_wp2_with (first | (go_at_call 58; refine (tree_NewPath l v _ hv hN hlen).mono ?_; rintro e w' ⟨rfl, hb⟩))
  go_ret
  exact ⟨rfl, hb⟩

theorem impl_Matches (s p : ByteArray) (w : World) (hs : s.size ≤ 2147483647) (hp : p.size ≤ 2147483647) :
    Calls Try.prog 21 #[.string s, .string p] w fun e w' => e = .returned (.bool (matchesB s p)) ∧ Below w.heap.size w w' := by
  go_enter Try.func21, Try.ntmps21
  go_wp2_with (first | (go_at_call 50; refine (tree_Matches s p _ hs hp).mono ?_; rintro e w' ⟨rfl, hb⟩))
  go_ret
  exact ⟨rfl, hb⟩

theorem two_new (w : World) (x y : ByteArray) (t : TypeId) : SS (w.alloc (.cells #[.string x, .string y] t)) (.slice (some ⟨w.heap.size, 0, none⟩) 2 2) [x, y] := by
  refine ⟨_, 2, rfl, Nat.le_refl _, by decide, rfl, fun _ => ⟨w.heap.size, 0, rfl, trivial, by simp, fun i hi => ?_⟩⟩
  rw [World.cell?_alloc_at _ _ _ _ (by simp)]
  match i, hi with
  | 0, _ => rfl
  | 1, _ => rfl

theorem lives_join : joinD [⟨#[97]⟩, ⟨#[98]⟩] = ⟨#[97, 46, 98]⟩ := by kernel_rfl
theorem lives_match : matchesB ⟨#[97, 46, 98]⟩ ⟨#[97, 46, 42]⟩ = true := by kernel_rfl

set_option maxRecDepth 100000 in
theorem treeLives (w : World) : Calls Try.prog 22 #[] w fun e w' => e = .returned (.bool true) ∧ Below w.heap.size w w' := by
  have hs1 : (⟨#[97, 46, 98]⟩ : ByteArray).size ≤ 2147483647 := of_decide_eq_true (by kernel_rfl)
  have hs2 : (⟨#[97, 46, 42]⟩ : ByteArray).size ≤ 2147483647 := of_decide_eq_true (by kernel_rfl)
  have hN : [(⟨#[97]⟩ : ByteArray), ⟨#[98]⟩].length ≤ 140737488355328 := of_decide_eq_true (by kernel_rfl)
  have hlen : (joinD [⟨#[97]⟩, ⟨#[98]⟩]).size ≤ 140737488355328 := of_decide_eq_true (by kernel_rfl)
  have hM := Lib.hid (impl_Matches ⟨#[97, 46, 98]⟩ ⟨#[97, 46, 42]⟩)
  go_enter Try.func22, Try.ntmps22
  go_wp2_with fail
  refine (impl_NewPath _ _ _ (two_new w ⟨#[97]⟩ ⟨#[98]⟩ _) hN hlen).mono ?_
  rintro e w1 ⟨rfl, hb⟩
  rw [lives_join]
  have hb' := ((Below.refl w.heap.size w).alloc (Nat.le_refl _) (.cells #[.string ⟨#[97]⟩, .string ⟨#[98]⟩] 9)).trans (hb.mono (by simp))
  go_wp2_with (first | (go_at_call 21; refine (hM.out _ hs1 hs2).mono ?_; rintro e w2 ⟨rfl, hb2⟩; rw [lives_match]))
  go_ret
  exact ⟨rfl, hb'.trans (hb2.mono hb'.size)⟩

set_option maxRecDepth 100000 in
theorem law_PathMatches (s p : ByteArray) (w : World) :
    Calls Try.prog 5 #[.string s, .string p] w fun e w' => e = .returned (.bool true) ∧ Below w.heap.size w w' := by
  by_cases h1 : s.size ≤ 2147483647
  · by_cases h2 : p.size ≤ 2147483647
    · have h1' : ¬ 2147483647 < (s.size : Int) := by omega
      have h2' : ¬ 2147483647 < (p.size : Int) := by omega
      go_enter Try.func5, Try.ntmps5
      go_wp2_with fail
      refine (spec_PathMatches s p _ h1 h2).mono ?_
      rintro e w1 ⟨rfl, hb1⟩
      by_cases hsaid : saidB s p = true
      · rw [hsaid]
        go_wp2_with (first | (go_at_call 21; refine (impl_Matches s p _ h1 h2).mono ?_; rintro e w2 ⟨rfl, hb2⟩) | (go_at_call 22; refine (treeLives _).mono ?_; rintro e w3 ⟨rfl, hb3⟩))
        go_ret
        exact ⟨by simp, (hb1.trans (hb2.mono hb1.size)).trans (hb3.mono (Nat.le_trans hb1.size hb2.size))⟩
      · have hs' : saidB s p = false := by simpa using hsaid
        rw [hs']
        clear hsaid
        go_wp2_with (first | (go_at_call 22; refine (treeLives _).mono ?_; rintro e w3 ⟨rfl, hb3⟩))
        go_ret
        exact ⟨by simp, hb1.trans (hb3.mono hb1.size)⟩
    · have h1' : ¬ 2147483647 < (s.size : Int) := by omega
      have h2' : 2147483647 < (p.size : Int) := by omega
      go_enter Try.func5, Try.ntmps5
      go_wp2
      go_ret
      exact ⟨rfl, Below.refl _ _⟩
  · have h1' : 2147483647 < (s.size : Int) := by omega
    go_enter Try.func5, Try.ntmps5
    go_wp2
    go_ret
    exact ⟨rfl, Below.refl _ _⟩
end Go.Proofs.Ytageocibgakhmaa.L
