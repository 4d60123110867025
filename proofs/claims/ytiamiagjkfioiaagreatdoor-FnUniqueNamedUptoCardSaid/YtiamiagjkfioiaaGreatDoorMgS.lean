/- Joined texts. -/
import Derived.Test.YtiamiagjkfioiaaGreatDoorFF
import Derived.Test.YtiamiagjkfioiaaGreatDoorRepl
/- What a merge of two trees at a path is, where the path has no rule of its own. Plain. -/
namespace Go.Proofs.YtiamiagjkfioiaaGreatDoor.A
set_option linter.unusedVariables false
set_option linter.unusedSimpArgs false
set_option linter.unusedSectionVars false
open Go.RowKit Go.Proofs.YtiamiagjkfioiaaGreatDoorW.PrintWords Go.Proofs.YtiamiagjkfioiaaGreatDoorW.PrintLast Go.Proofs.YtiamiagjkfioiaaGreatDoorW.PrintMore Go.Proofs.YtiamiagjkfioiaaGreatDoor.PT Go.Proofs.YtiamiagjkfioiaaGreatDoor.L Go.Proofs.YtiamiagjkfioiaaGreatDoor.SM

/-- the first words of the patterns that have a rule -/
def headsS : List ByteArray := [⟨#[110, 101, 116, 119, 111, 114, 107, 115]⟩, ⟨#[118, 111, 108, 117, 109, 101, 115]⟩, ⟨#[115, 101, 99, 114, 101, 116, 115]⟩, ⟨#[99, 111, 110, 102, 105, 103, 115]⟩, ⟨#[115, 101, 114, 118, 105, 99, 101, 115]⟩, ⟨#[106, 111, 98, 115]⟩]
/-- a pattern that may have a rule: three parts at least, the first a section's name -/
def ruleB (pat : ByteArray) : Bool := decide (3 ≤ (parts pat).length) && headsS.any (fun h => decide ((parts pat).head? = some h))
/-- a path that no rule is for -/
structure NoRule (p : ByteArray) : Prop where
  size : p.size ≤ 2147483647
  no : ∀ pat, ruleB pat = true → matchesB p pat = false
/-- two trees merged at a path -/
inductive Mrg : ByteArray → IV → IV → IV → Prop
  | null {p : ByteArray} {a b : IV} (hn : NoRule p) (h0 : b.f0 = 0) : Mrg p a b a
  | last {p : ByteArray} {a b : IV} (hn : NoRule p) (h0 : b.f0 ≠ 0) (h4 : a.f0 ≠ 4) (h5 : a.f0 ≠ 5) : Mrg p a b b
  | map {p : ByteArray} {a b z : IV} (hn : NoRule p) (ha : a.f0 = 5) (hb : b.f0 = 5) (hz : Fine z) (h5 : z.f0 = 5) (hk : ∀ k, k ∈ z.f3 ↔ k ∈ a.f3 ∨ k ∈ b.f3) (h1 : ∀ k, k ∉ b.f3 → kidI z k = kidI a k) (h2 : ∀ k, k ∉ a.f3 → kidI z k = kidI b k)
      (hs : ∀ k, k ∈ a.f3 → k ∈ b.f3 → k.size ≤ 2147483647) (h3 : ∀ k x y u, kidI a k = some x → kidI b k = some y → kidI z k = some u → Mrg (nextP p k) x y u) : Mrg p a b z
end Go.Proofs.YtiamiagjkfioiaaGreatDoor.A
/- The walk of override.zzMergeSpecial at a path that no rule is for; Path.Next of any part. -/
namespace Go.Proofs.YtiamiagjkfioiaaGreatDoor.A
set_option linter.unusedVariables false
set_option linter.unusedSimpArgs false
set_option linter.unusedSectionVars false
open Go.RowKit Go.Proofs.YtiamiagjkfioiaaGreatDoorW.PrintWords Go.Proofs.YtiamiagjkfioiaaGreatDoorW.PrintLast Go.Proofs.YtiamiagjkfioiaaGreatDoorW.PrintMore Go.Proofs.YtiamiagjkfioiaaGreatDoor.PT Go.Proofs.YtiamiagjkfioiaaGreatDoor.L Go.Proofs.YtiamiagjkfioiaaGreatDoor.SM

theorem tree_NextG (p x : ByteArray) (w : World) (hs : p.size ≤ 2147483647) (hx : x.size ≤ 2147483647) :
    Calls Tryz.prog 69 #[.string p, .string x] w fun e w' => e = .returned (.string (nextP p x)) ∧ Below w.heap.size w w' := by
  by_cases h0 : p.size = 0
  · have hp : p = ⟨#[]⟩ := by
      have := Lib.size_eq p
      rw [h0] at this
      exact data_inj (by simpa using (List.eq_nil_of_length_eq_zero this.symm))
    have hn : nextP p x = x := by unfold nextP; rw [if_pos h0]
    rw [hn]
    subst hp
    clear hn h0 hs
    go_enter Tryz.func69, Tryz.ntmps69
    go_wp2
    go_ret
    exact ⟨rfl, Below.refl _ _⟩
  · have hE : p.toList.isEmpty = false := by rw [isEmpty_of_size, decide_eq_false h0]
    have hE2 : (p.toList == []) = false := by rw [← hE]; cases p.toList <;> rfl
    have hn : nextP p x = p ++ ⟨#[46]⟩ ++ mk (replL x.data.toList) := by unfold nextP; rw [if_neg h0]
    obtain ⟨r, hr⟩ : ∃ r, r = mk (replL x.data.toList) := ⟨_, rfl⟩
    have hrs : r.size ≤ 8589934588 := by
      rw [hr, mk_size]
      have := replL_len x.data.toList
      rw [← Lib.size_eq] at this
      omega
    have HZ := Lib.hid (tree_zzReplaceAll x w hx)
    rw [← hr] at HZ hn
    have HN := Lib.hid hn
    have hs1 : ¬ 9223372036854775807 < p.size + 1 := by omega
    have hs2 : ¬ 9223372036854775807 < p.size + 1 + r.size := by omega
    clear hn hr h0
    go_enter Tryz.func69, Tryz.ntmps69
    go_wp2_with fail
    refine HZ.out.mono ?_
    rintro e w1 ⟨rfl, hb⟩
    go_wp2
    go_ret
    exact ⟨by rw [HN.out]; rfl, hb⟩
end Go.Proofs.YtiamiagjkfioiaaGreatDoor.A
