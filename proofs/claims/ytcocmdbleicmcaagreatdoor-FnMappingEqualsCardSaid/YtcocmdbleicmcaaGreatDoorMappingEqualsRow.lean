/- The row of the law 'MappingEquals', proved in full: no condition. -/
import Derived.Test.YtcocmdbleicmcaaGreatDoorEqLaw
import Derived.Test.YtcocmdbleicmcaaGreatDoorDoorP
import Derived.Test.YtcocmdbleicmcaaGreatDoorCards
import Derived.Test.YtcocmdbleicmcaaGreatDoorTie
import Derived.Deep.DeepHandedRow
import Derived.Lib.LaidTab
import Derived.ProofKit
import Derived.OpenShut
import Derived.LaidMore
import Derived.Lay
import Derived.SevenTiedAt
import Derived.Stop.Joined
namespace Go.Proofs.YtcocmdbleicmcaaGreatDoor.MappingEqualsRow
set_option linter.unusedVariables false
set_option linter.unusedSimpArgs false
set_option linter.unusedSectionVars false
open Go.ChangeShapes Go.WideShapes Go.ChangeAt Go.RowKit Go.Proofs.YtcocmdbleicmcaaGreatDoor.L
open Go.ChangeMaps (open_string shut_string)

theorem own : ownKnob Tryz.prog.godebug = none := by kernel_rfl

set_option maxRecDepth 100000 in
theorem contract (H : Type) (enc : TypeId × Value → H) (W : World) (base : Nat) (args : Array Value) (ds gs : List (DataW H)) (before : List MemPlace)
    (hval0 : ∀ (j : Nat) t v, Tryz.f4.params[j]? = some t → args[j]? = some v → Value.okWide Tryz.prog W .any base t v)
    (hW : DataW.Whole enc Tryz.prog Tryz.f4.params.toList Rows.fnMappingEqualsSpec.vars false W args.toList ds gs before) (hL : laidMetH Tryz.prog Rows.fnMappingEqualsRow.laid W) :
    Calls Tryz.prog 4 args W fun e W' => ∃ v, e = .returned v ∧ Rows.fnMappingEqualsSpec.post enc Tryz.prog Tryz.f4 false true false false W args v W' := by
  have hval : ∀ (j : Nat) t v, Tryz.f4.params[j]? = some t → args[j]? = some v → Value.okWide Tryz.prog W .any base t v := hval0
  have hW' := hW
  obtain ⟨p, q, hA0, hV, rfl, hfz, hnd⟩ := hW
  have hA : DataW.TrodAll enc Tryz.prog W 0 (fun _ => true) true Tryz.f4.params.toList args.toList ds p := hA0
  rw [Tryz.params4] at hA hval
  obtain ⟨v0, vs0, d0, ds0, p0, q0, hargs, rfl, rfl, h0, r0⟩ := trodAll_cons hA
  obtain ⟨rfl, rfl, rfl⟩ := trodAll_nil r0
  obtain rfl : args = #[v0] := by cases args; simp_all
  obtain ⟨rfl, rfl⟩ := trodVars_none hV
  obtain ⟨A0, c0, l0, rfl, hc0, hC0⟩ := C_of_trod Go.Proofs.YtcocmdbleicmcaaGreatDoorW.PrintWords.Kd.string Tryz.underlying22 (by kernel_rfl) (by decide) hel_string h0 (okWide_slice Tryz.underlying22 (hval 0 22 v0 rfl rfl))
  clear hA0 hval0
  rw [MakeChecks.laidMetH_plain _ _ _ (by kernel_rfl)] at hL
  obtain ⟨lps, hlv, _⟩ := hL
  have htab := tab_of_laid hlv (List.mem_of_getElem? (i := 7) (by kernel_rfl))
  refine (M.law_FnMappingEquals A0 c0 l0 W hC0 hc0 htab ).mono fun e W' ⟨he, hb⟩ => ?_
  subst he
  exact ⟨_, rfl, law_post (tb := 4) (by kernel_rfl) (by decide +kernel) (by kernel_rfl) Tryz.underlying4 rfl hW' rfl hb⟩
set_option maxRecDepth 100000 in
theorem lifted (os : Os) (started : os.Started) (H : Type) (enc : TypeId × Value → H) :
    ReturnsInHanded {} Tryz.checked os 4 .any (fun w args => (Rows.fnMappingEqualsSpec.pre enc Tryz.prog Tryz.f4 Rows.fnMappingEqualsRow.domain false w args ∧ laidMetH Tryz.prog Rows.fnMappingEqualsRow.laid w) ∧ sizedMet enc Tryz.prog Tryz.f4 (OpenSpec.ofChange Rows.fnMappingEqualsSpec) false w args)
      (Rows.fnMappingEqualsSpec.post enc Tryz.prog Tryz.f4 false true false false) := by
  refine returnsInHanded_of_change_and (C := Tryz.checked) (X := fun w _ => laidMetH Tryz.prog Rows.fnMappingEqualsRow.laid w) (fun _ _ _ hh h => h.of_heap hh) own started (by kernel_rfl) Tryz.func4
    (ChangeSpec.witness_shaped (enc := enc) (C := Tryz.checked) (os := os) (X := fun w _ => laidMetH Tryz.prog Rows.fnMappingEqualsRow.laid w) false (World.laidAll Tryz.prog os Rows.fnMappingEqualsRow.laid) #[.slice none 0 0] 8 (World.laidAll_os _ _ _)
      (World.shaped_of_ZipB (by kernel_rfl) (by kernel_rfl)) (by kernel_rfl) (by kernel_rfl) (by kernel_rfl)
      (by rw [MakeChecks.laidMetH_plain _ _ _ (by kernel_rfl)]; exact laidMet_laidAll _ (by kernel_rfl) (by kernel_rfl))) ?_
  intro W base args ds gs before hval hW _ _ hL _
  exact contract H enc W base args ds gs before hval hW hL

theorem said : Rows.fnMappingEqualsRow.holds Tryz.pinned (OpenSpec.ofChange Rows.fnMappingEqualsSpec) :=
  OpenClaim.holds_of_wide 4 Tryz.f4 rfl rfl rfl rfl rfl rfl rfl ⟨rfl, rfl, rfl, rfl, rfl⟩ rfl rfl rfl rfl rfl (by kernel_rfl) Tryz.func4 (by kernel_rfl)
    (of_decide_eq_true (by kernel_rfl)) (by unfold Func.isWrapper; first | (rw [if_pos (by decide +kernel)]; kernel_rfl) | (rw [if_neg (by decide +kernel)]; exact ⟨rfl, rfl⟩))
    (fun os started H enc _ => lifted os started H enc)
theorem plain (f : FuncId) (fn : Func) (hf : Tryz.pinned.checked.prog.funcNamed "pub-shipwright/laws.FnMappingEquals" = some f) (hfn : Tryz.pinned.checked.prog.funcs[f]? = some fn) :
    true = Tryz.pinned.checked.prog.looks [] ∧ ∀ (j : Nat) t, fn.params[j]? = some t → Tryz.pinned.checked.prog.wantsStandIn t = false := by
  obtain rfl : f = 4 := Option.some.inj ((show Tryz.prog.funcNamed "pub-shipwright/laws.FnMappingEquals" = some 4 by kernel_rfl).symm.trans hf) |>.symm
  obtain rfl : fn = Tryz.f4 := (Option.some.inj (Tryz.func4.symm.trans hfn)).symm
  refine ⟨by kernel_rfl, fun j t ht => ?_⟩
  rw [Tryz.params4] at ht
  have hm := Array.mem_of_getElem? ht
  simp only [List.mem_toArray, List.mem_cons, List.not_mem_nil, or_false] at hm
  rcases hm with rfl
  all_goals first | exact (show Tryz.prog.wantsStandIn 22 = false by kernel_rfl)
theorem card : Rows.FnMappingEqualsCardSaid :=
  Claim7.holds_tied_plain_at .later [] _ _ _ _ said (fun _ h => by cases h) (by kernel_rfl) (fun _ h => by cases h) fnMappingEquals_row_tie rfl ⟨rfl, rfl⟩ (by kernel_rfl) rfl plain (by kernel_rfl)
end Go.Proofs.YtcocmdbleicmcaaGreatDoor.MappingEqualsRow
namespace Go.Proofs.YtcocmdbleicmcaaGreatDoor
theorem mappingEquals_card : Rows.FnMappingEqualsCardSaid := MappingEqualsRow.card
#print axioms mappingEquals_card
end Go.Proofs.YtcocmdbleicmcaaGreatDoor
