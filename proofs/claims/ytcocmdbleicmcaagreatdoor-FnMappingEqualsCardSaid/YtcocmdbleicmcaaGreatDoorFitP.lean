/- The walk of spec.FitPairs. -/
import Derived.Test.YtcocmdbleicmcaaGreatDoorPXx0
import Derived.Test.YtcocmdbleicmcaaGreatDoorOrd
import Derived.Lib.Hide
import Derived.Outline
namespace Go.Proofs.YtcocmdbleicmcaaGreatDoor.M
set_option linter.unusedVariables false
set_option linter.unusedSimpArgs false
set_option linter.unusedSectionVars false
open Go.RowKit Go.Proofs.YtcocmdbleicmcaaGreatDoorW.PrintWords Go.Proofs.YtcocmdbleicmcaaGreatDoorW.PrintLast Go.Proofs.YtcocmdbleicmcaaGreatDoor.PX

theorem kept_new {α : Type} {d : Kd α} {e base : Nat} {ok : Nat → Prop} {W0 W W1 : World} {v : Value} {xs : List α} {row : Option Nat} (h : d.R e W0 base ok v xs) (h1 : W0.grownBy W none) (hg : W.grownBy W1 row) (hrow : ∀ b, row = some b → W0.heap.size ≤ b) : d.R e W1 base ok v xs :=
  Kd.R_step h (fun k _ hlt => (hg.block k (Nat.lt_of_lt_of_le hlt h1.size) (fun e => by have := hrow k e.symm; omega)).trans (h1.block k hlt (by simp)))
theorem take_next {α : Type} {l : List α} {i : Nat} (h : i < l.length) : l.take (i + 1) = l.take i ++ [l[i]] := List.take_succ_eq_append_getElem h
end Go.Proofs.YtcocmdbleicmcaaGreatDoor.M
