/- Walks: maps of texts: made of pairs, merged. -/
import Derived.Test.YtcocmdbleicmcaaGreatDoorPXx0
import Derived.Test.YtcocmdbleicmcaaGreatDoorOrd
import Derived.Test.YtcocmdbleicmcaaGreatDoorSM
import Derived.Lib.Hide
import Derived.Outline
namespace Go.Proofs.YtcocmdbleicmcaaGreatDoor.M
set_option linter.unusedVariables false
set_option linter.unusedSimpArgs false
set_option linter.unusedSectionVars false
open Go.RowKit Go.Proofs.YtcocmdbleicmcaaGreatDoorW.PrintWords Go.Proofs.YtcocmdbleicmcaaGreatDoorW.PrintLast Go.Proofs.YtcocmdbleicmcaaGreatDoor.PX Go.Proofs.YtcocmdbleicmcaaGreatDoor.SM

/-- Merge under way: rm is to come. -/
structure Mrg (m1 m2 rm m3 : List (ByteArray × ByteArray)) : Prop where
  sub : ∀ p, p ∈ rm → p ∈ m2
  mem : ∀ p, p ∈ m3 ↔ p ∈ m1 ∨ (p ∈ m2 ∧ p ∉ rm ∧ p.1 ∉ keys m1)
theorem Mrg.done {m1 m2 m3 : List (ByteArray × ByteArray)} (h : Mrg m1 m2 [] m3) (p : ByteArray × ByteArray) : p ∈ m3 ↔ p ∈ m1 ∨ (p ∈ m2 ∧ p.1 ∉ keys m1) := by
  rw [h.mem]; simp
theorem mem_of_key {m : List (ByteArray × ByteArray)} {k : ByteArray} (h : k ∈ keys m) : ∃ v, (k, v) ∈ m := by
  obtain ⟨p, hp, rfl⟩ := List.mem_map.1 h
  exact ⟨p.2, hp⟩
theorem key_uniq {m : List (ByteArray × ByteArray)} (hn : (keys m).Nodup) {p q : ByteArray × ByteArray} (hp : p ∈ m) (hq : q ∈ m) (e : p.1 = q.1) : p = q := by
  have h1 := look_mem hn hp
  have h2 := look_mem hn hq
  rw [e, h2] at h1
  injection h1 with h1
  exact Prod.ext e h1.symm
/-- the key is there already -/
theorem Mrg.skip {m1 m2 rm m3 : List (ByteArray × ByteArray)} (h : Mrg m1 m2 rm m3) (hn : (keys m2).Nodup) {q : ByteArray × ByteArray} (hq : q ∈ rm) (hk : has m3 q.1 = true) : Mrg m1 m2 (del rm q.1) m3 := by
  refine ⟨fun p hp => h.sub p ((mem_del p).1 hp).2, fun p => ?_⟩
  rw [h.mem]
  have hqk : q.1 ∈ keys m1 := by
    obtain ⟨v, hv⟩ := mem_of_key (has_iff.1 hk)
    rcases (h.mem _).1 hv with h1 | ⟨h1, h2, _⟩
    · exact List.mem_map_of_mem (f := (·.1)) h1
    · have := key_uniq hn (h.sub q hq) h1 rfl
      exact absurd (this ▸ hq) h2
  constructor
  · rintro (h1 | ⟨h1, h2, h3⟩)
    · exact .inl h1
    · exact .inr ⟨h1, fun h4 => h2 ((mem_del p).1 h4).2, h3⟩
  · rintro (h1 | ⟨h1, h2, h3⟩)
    · exact .inl h1
    · refine .inr ⟨h1, fun h4 => ?_, h3⟩
      have : p.1 = q.1 := by
        by_cases e : p.1 = q.1
        · exact e
        · exact absurd ((mem_del p).2 ⟨e, h4⟩) h2
      exact h3 (this ▸ hqk)
theorem Mrg.add {m1 m2 rm m3 : List (ByteArray × ByteArray)} (h : Mrg m1 m2 rm m3) (hn : (keys m2).Nodup) {q : ByteArray × ByteArray} (hq : q ∈ rm) (hk : has m3 q.1 = false) : Mrg m1 m2 (del rm q.1) (put m3 q.1 q.2) := by
  refine ⟨fun p hp => h.sub p ((mem_del p).1 hp).2, fun p => ?_⟩
  have hk := has_false.1 hk
  have hqk : q.1 ∉ keys m1 := fun h1 => by
    obtain ⟨v, hv⟩ := mem_of_key h1
    exact hk (List.mem_map_of_mem (f := (·.1)) ((h.mem _).2 (.inl hv)))
  rw [mem_put, h.mem]
  constructor
  · rintro (rfl | ⟨h0, h1 | ⟨h1, h2, h3⟩⟩)
    · exact .inr ⟨h.sub q hq, fun h4 => ((mem_del q).1 h4).1 rfl, hqk⟩
    · exact .inl h1
    · exact .inr ⟨h1, fun h4 => h2 ((mem_del p).1 h4).2, h3⟩
  · rintro (h1 | ⟨h1, h2, h3⟩)
    · exact .inr ⟨fun e => hqk (e ▸ List.mem_map_of_mem (f := (·.1)) h1), .inl h1⟩
    · by_cases e : p.1 = q.1
      · exact .inl (key_uniq hn h1 (h.sub q hq) e)
      · exact .inr ⟨e, .inr ⟨h1, fun h4 => h2 ((mem_del p).2 ⟨e, h4⟩), h3⟩⟩
end Go.Proofs.YtcocmdbleicmcaaGreatDoor.M
