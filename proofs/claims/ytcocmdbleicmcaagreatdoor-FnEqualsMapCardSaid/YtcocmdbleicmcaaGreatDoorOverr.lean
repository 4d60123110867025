/- The walks of types.MappingWithEquals.OverrideBy, impl.EqualsOverride, spec.Override. -/
import Derived.Test.YtcocmdbleicmcaaGreatDoorEquals
import Derived.Test.YtcocmdbleicmcaaGreatDoorFitP
import Derived.Test.YtcocmdbleicmcaaGreatDoorTold
import Derived.Test.YtcocmdbleicmcaaGreatDoorMapA
namespace Go.Proofs.YtcocmdbleicmcaaGreatDoor.M
set_option linter.unusedVariables false
set_option linter.unusedSimpArgs false
set_option linter.unusedSectionVars false
open Go.RowKit Go.Proofs.YtcocmdbleicmcaaGreatDoorW.PrintWords Go.Proofs.YtcocmdbleicmcaaGreatDoorW.PrintLast Go.Proofs.YtcocmdbleicmcaaGreatDoor.PX Go.Proofs.YtcocmdbleicmcaaGreatDoor.SM

theorem key_uniqG {β : Type} {m : List (ByteArray × β)} (hn : (keys m).Nodup) {p q : ByteArray × β} (hp : p ∈ m) (hq : q ∈ m) (e : p.1 = q.1) : p = q := by
  have h1 := look_mem hn hp
  have h2 := look_mem hn hq
  rw [e, h2] at h1
  injection h1 with h1
  exact Prod.ext e h1.symm
structure Ovr {β : Type} (m1 m2 rm m3 : List (ByteArray × β)) : Prop where
  sub : ∀ p, p ∈ rm → p ∈ m2
  mem : ∀ p, p ∈ m3 ↔ (p ∈ m2 ∧ p ∉ rm) ∨ (p ∈ m1 ∧ ∀ q, q ∈ m2 → q ∉ rm → q.1 ≠ p.1)
theorem Ovr.done {β : Type} {m1 m2 m3 : List (ByteArray × β)} (h : Ovr m1 m2 [] m3) (p : ByteArray × β) : p ∈ m3 ↔ p ∈ m2 ∨ (p ∈ m1 ∧ ∀ q, q ∈ m2 → q.1 ≠ p.1) := by
  rw [h.mem]; simp
theorem Ovr.step {β : Type} {m1 m2 rm m3 : List (ByteArray × β)} (h : Ovr m1 m2 rm m3) (hn : (keys m2).Nodup) {q : ByteArray × β} (hq : q ∈ rm) : Ovr m1 m2 (del rm q.1) (put m3 q.1 q.2) := by
  refine ⟨fun p hp => h.sub p ((mem_del p).1 hp).2, fun p => ?_⟩
  have hq2 := h.sub q hq
  have hqd : q ∉ del rm q.1 := fun h4 => ((mem_del q).1 h4).1 rfl
  rw [mem_put, h.mem]
  constructor
  · rintro (rfl | ⟨h0, ⟨h1, h2⟩ | ⟨h1, h2⟩⟩)
    · exact .inl ⟨hq2, hqd⟩
    · exact .inl ⟨h1, fun h4 => h2 ((mem_del p).1 h4).2⟩
    · refine .inr ⟨h1, fun q' h3 h4 => ?_⟩
      by_cases h5 : q' ∈ rm
      · have : q'.1 = q.1 := Classical.byContradiction fun e => h4 ((mem_del q').2 ⟨e, h5⟩)
        rw [this]; exact fun e => h0 e.symm
      · exact h2 q' h3 h5
  · rintro (⟨h1, h2⟩ | ⟨h1, h2⟩)
    · by_cases h5 : p ∈ rm
      · have : p.1 = q.1 := Classical.byContradiction fun e => h2 ((mem_del p).2 ⟨e, h5⟩)
        exact .inl (key_uniqG hn h1 hq2 this)
      · exact .inr ⟨fun e => h5 (key_uniqG hn h1 hq2 e ▸ hq), .inl ⟨h1, h5⟩⟩
    · exact .inr ⟨fun e => h2 q hq2 hqd e.symm, .inr ⟨h1, fun q' h3 h4 => h2 q' h3 (fun h5 => h4 ((mem_del q').1 h5).2)⟩⟩
end Go.Proofs.YtcocmdbleicmcaaGreatDoor.M
