/- Plain law of the mapped entries: what ToMapping, NewLabelsFromMappingWithEquals and ToMappingWithEquals leave, and the words of spec.Full and spec.Pairs. -/
import Derived.Test.YtcocmdbleicmcaaGreatDoorOverP
import Derived.Test.YtcocmdbleicmcaaGreatDoorPairs
import Derived.Test.YtcocmdbleicmcaaGreatDoorPXx6
namespace Go.Proofs.YtcocmdbleicmcaaGreatDoor.M
set_option linter.unusedVariables false
set_option linter.unusedSimpArgs false
set_option linter.unusedSectionVars false
open Go.RowKit Go.Proofs.YtcocmdbleicmcaaGreatDoorW.PrintWords Go.Proofs.YtcocmdbleicmcaaGreatDoorW.PrintLast Go.Proofs.YtcocmdbleicmcaaGreatDoor.PX Go.Proofs.YtcocmdbleicmcaaGreatDoor.SM

theorem put_new {β : Type} {m : List (ByteArray × β)} {k : ByteArray} (v : β) (h : has m k = false) : put m k v = m ++ [(k, v)] := by simp [put, h]
theorem has_none {β : Type} {m : List (ByteArray × β)} {k : ByteArray} (h : ∀ p ∈ m, p.1 ≠ k) : has m k = false := by
  cases e : has m k
  · rfl
  · simp only [has, List.any_eq_true, decide_eq_true_eq] at e
    obtain ⟨p, hp, e⟩ := e
    exact absurd e (h p hp)
end Go.Proofs.YtcocmdbleicmcaaGreatDoor.M
