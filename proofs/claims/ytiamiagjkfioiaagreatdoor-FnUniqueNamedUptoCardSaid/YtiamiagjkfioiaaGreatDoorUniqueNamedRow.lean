/- The row of the law 'UniqueNamed' where what it reads is of bulk at most 1048576 (the tied card). -/
import Derived.Test.YtiamiagjkfioiaaGreatDoorUqLaw
import Derived.Test.YtiamiagjkfioiaaGreatDoorDoorT
import Derived.Test.YtiamiagjkfioiaaGreatDoorCards
import Derived.Test.YtiamiagjkfioiaaGreatDoorTie
import Derived.Deep.DeepHandedRow
import Derived.Lib.LaidTab
import Derived.ProofKit
import Derived.OpenShut
import Derived.LaidMore
import Derived.Lay
import Derived.SevenTiedAt
import Derived.Stop.Joined
import Derived.JoinedCond
import Derived.LaidHandle
import Derived.ChangeSame
import Derived.ChangeVars
import Derived.JoinedOf
import Derived.RowKitTokens
import Derived.LaidLaws
namespace Go.Proofs.YtiamiagjkfioiaaGreatDoor.UniqueNamedRow
set_option linter.unusedVariables false
set_option linter.unusedSimpArgs false
set_option linter.unusedSectionVars false
open Go.ChangeShapes Go.WideShapes Go.ChangeAt Go.RowKit Go.Proofs.YtiamiagjkfioiaaGreatDoor.L
open Go.ChangeMaps (open_string shut_string)
open Go.ChangeAt

theorem own : ownKnob Tryz.prog.godebug = none := by kernel_rfl
set_option maxRecDepth 100000 in
theorem contract (H : Type) (enc : TypeId × Value → H) (W : World) (base : Nat) (args : Array Value) (ds gs : List (DataW H)) (before : List MemPlace)
    (hval0 : ∀ (j : Nat) t v, Tryz.f3.params[j]? = some t → args[j]? = some v → Value.okWide Tryz.prog W .any base t v)
    (hW : DataW.Whole enc Tryz.prog Tryz.f3.params.toList Rows.fnUniqueNamedSpec.vars false W args.toList ds gs before) (hk : Rows.uptoSmall H (ds ++ gs) = true) (hL : laidMetH Tryz.prog Rows.fnUniqueNamedUptoRow.laid W) :
    Calls Tryz.prog 3 args W fun e W' => ∃ v, e = .returned v ∧ Rows.fnUniqueNamedSpec.post enc Tryz.prog Tryz.f3 false true false false W args v W' := by
  have hval : ∀ (j : Nat) t v, Tryz.f3.params[j]? = some t → args[j]? = some v → Value.okWide Tryz.prog W .any base t v := hval0
  have hW' := hW
  obtain ⟨p, q, hA0, hV, rfl, hfz, hnd⟩ := hW
  have hA : DataW.TrodAll enc Tryz.prog W 0 (fun _ => true) true Tryz.f3.params.toList args.toList ds p := hA0
  rw [Tryz.params3] at hA hval
  obtain ⟨v0, vs0, d0, ds0, p0, q0, hargs, rfl, rfl, h0, r0⟩ := trodAll_cons hA
  obtain ⟨rfl, rfl, rfl⟩ := trodAll_nil r0
  obtain rfl : args = #[v0] := by cases args; simp_all
  obtain ⟨rfl, rfl⟩ := trodVars_none hV
  have hk' := bulk_all hk
  have e_ : Rows.uptoBulkAll ([d0] ++ []) = Rows.uptoBulk d0 := by simp [Rows.uptoBulkAll]
  rw [e_] at hk'
  obtain ⟨A0, c0, l0, rfl, hc0, hC0, hl0, hs0⟩ := A.strs_of_trod h0 (okWide_slice Tryz.underlying22 (hval 0 22 v0 rfl rfl)) (by omega)
  clear hA0 hval0
  rw [MakeChecks.laidMetH_plain _ _ _ (by kernel_rfl)] at hL
  obtain ⟨lps, hlv, _⟩ := hL
  have htab := A.tab_of_laid hlv (List.mem_of_getElem? (i := 2) (by kernel_rfl))
  refine (A.law_UniqueNamed  l0 A0 c0 hC0 hc0 hl0 hs0 htab).mono fun e W' ⟨he, hb⟩ => ?_
  subst he
  exact ⟨_, rfl, law_post (tb := 4) (by kernel_rfl) (by decide +kernel) (by kernel_rfl) Tryz.underlying4 rfl hW' rfl hb⟩
noncomputable def laidWorld (os : Os) : World := World.laidAll Tryz.prog os Rows.fnUniqueNamedUptoRow.laid
set_option maxRecDepth 100000 in
theorem laidWorld_met (os : Os) : laidMetH Tryz.prog Rows.fnUniqueNamedUptoRow.laid ((laidWorld os).forCall (fun _ _ => 0) ⟨#[], #[.slice none 0 0], []⟩).memory :=
  by
  rw [MakeChecks.laidMetH_plain _ _ _ (by kernel_rfl)]
  exact laidMet_laidAll _ (by kernel_rfl) (by kernel_rfl)
set_option maxRecDepth 100000 in
theorem witness (os : Os) (H : Type) (enc : TypeId × Value → H) :
    ∃ (w : World) (tape : Tape) (i : Input), w.os = os ∧ (w.forCall tape i).Shaped Tryz.prog ∧ i.vars = [] ∧ Input.okWide Tryz.prog (w.forCall tape i) .any w.heap.size 3 i ∧
      Rows.fnUniqueNamedUptoRow.pre enc Tryz.prog Tryz.f3 (Rows.OpenSpec.upto Rows.fnUniqueNamedSpec) (w.forCall tape i).memory i.args ∧ ({} : Assume).holds Tryz.prog (lone (Frame.enter Tryz.prog 3 i.args .normal) [] (w.forCall tape i)) := by
  have hok : Input.okWideB Tryz.prog ((laidWorld os).forCall (fun _ _ => 0) ⟨#[], #[.slice none 0 0], []⟩) 3 ⟨#[], #[.slice none 0 0], []⟩ = true := by kernel_rfl
  have hx : DataW.whole enc Tryz.prog ((laidWorld os).forCall (fun _ _ => 0) ⟨#[], #[.slice none 0 0], []⟩).memory Tryz.f3.params.toList (Rows.OpenSpec.upto Rows.fnUniqueNamedSpec).vars false [.slice none 0 0] 8 = some ([.nil], [], []) := by kernel_rfl
  have hsz : Rows.fnUniqueNamedSpec.sizedB enc Tryz.prog Tryz.f3 Rows.fnUniqueNamedUptoRow.apart ((laidWorld os).forCall (fun _ _ => 0) ⟨#[], #[.slice none 0 0], []⟩).memory #[.slice none 0 0] 8 = true := by kernel_rfl
  refine ⟨laidWorld os, fun _ _ => 0, ⟨#[], #[.slice none 0 0], []⟩, World.laidAll_os _ _ _, World.shaped_of_ZipB (by kernel_rfl) (by kernel_rfl), (Input.okWide_of_okWideB (base := 0) hok).1, (Input.okWide_of_okWideB hok).2, ⟨⟨?_, laidWorld_met os⟩, sizedMet_of_sizedB (fuel := 8) hsz⟩, ?_⟩
  · exact (OpenSpec.pre_some rfl _ _ _ _).2 ⟨_, _, _, DataW.Whole_of_whole hx, rfl, by kernel_rfl⟩
  · simp only [Assume.holds]
    exact ⟨by simp, by simp, fun _ => Modest.zero, by simp, by simp⟩
set_option maxRecDepth 100000 in
theorem lifted (os : Os) (started : os.Started) (H : Type) (enc : TypeId × Value → H) (F : Stop.Interp) :
    ReturnsInHanded {} Tryz.checked os 3 .any (Rows.fnUniqueNamedUptoRow.pre enc Tryz.prog Tryz.f3 (Rows.OpenSpec.upto Rows.fnUniqueNamedSpec))
      (((Rows.OpenSpec.upto Rows.fnUniqueNamedSpec).at F).post enc Tryz.prog Tryz.f3 false true false false) := by
  refine returnsInHanded_of_calls (C := Tryz.checked) own started (by kernel_rfl) (witness os H enc) ?_
  intro w tape i _ _ _ hok hpre _
  obtain ⟨_, _, _, fn', hfn', _, _, _, _, hval⟩ := hok
  have e : fn' = Tryz.f3 := Option.some.inj (hfn'.symm.trans Tryz.func3)
  subst e
  obtain ⟨ds, gs, before, hw, hc, hkk⟩ := (OpenSpec.pre_some (k := Rows.uptoSmall) rfl _ _ _ _).1 hpre.1.1
  have hw' := DataW.Whole.of_heap (w' := w.forCall tape i) (by rfl) hw
  refine (contract H enc (w.forCall tape i) w.heap.size i.args ds gs before hval hw' hkk (hpre.1.2.of_heap (by rfl))).mono fun e W' ⟨v, he, hp⟩ => ?_
  subst he
  exact ChangeSpec.post_blind hp
theorem said : Rows.fnUniqueNamedUptoRow.holds Tryz.pinned (Rows.OpenSpec.upto Rows.fnUniqueNamedSpec) :=
  OpenClaim.holds_of_cond 3 Tryz.f3 rfl rfl rfl rfl rfl rfl rfl ⟨rfl, rfl, rfl, rfl, rfl⟩ rfl rfl rfl rfl rfl (by kernel_rfl) Tryz.func3 (by kernel_rfl)
    (of_decide_eq_true (by kernel_rfl)) (by unfold Func.isWrapper; first | (rw [if_pos (by decide +kernel)]; kernel_rfl) | (rw [if_neg (by decide +kernel)]; exact ⟨rfl, rfl⟩))
    (fun os started H enc _ F => lifted os started H enc F)
set_option maxRecDepth 100000 in
theorem plain (f : FuncId) (fn : Func) (hf : Tryz.pinned.checked.prog.funcNamed "pub-shipwright/laws.FnUniqueNamed" = some f) (hfn : Tryz.pinned.checked.prog.funcs[f]? = some fn) :
    true = Tryz.pinned.checked.prog.looks [] ∧ ∀ (j : Nat) t, fn.params[j]? = some t → Tryz.pinned.checked.prog.wantsStandIn t = false := by
  obtain rfl : f = 3 := Option.some.inj ((show Tryz.prog.funcNamed "pub-shipwright/laws.FnUniqueNamed" = some 3 by kernel_rfl).symm.trans hf) |>.symm
  obtain rfl : fn = Tryz.f3 := (Option.some.inj (Tryz.func3.symm.trans hfn)).symm
  refine ⟨by kernel_rfl, fun j t ht => ?_⟩
  rw [Tryz.params3] at ht
  have hm := Array.mem_of_getElem? ht
  simp only [List.mem_toArray, List.mem_cons, List.not_mem_nil, or_false] at hm
  rcases hm with rfl
  all_goals first | exact (show Tryz.prog.wantsStandIn 22 = false by kernel_rfl)
set_option maxRecDepth 100000 in
theorem card : Rows.FnUniqueNamedUptoCardSaid :=
  Claim7.holds_tied_plain_at .later [] _ _ _ _ said (fun _ h => by cases h) (by kernel_rfl) (fun _ h => by cases h) fnUniqueNamedUpto_row_tie rfl ⟨rfl, rfl⟩ (by kernel_rfl) rfl plain (by kernel_rfl)
end Go.Proofs.YtiamiagjkfioiaaGreatDoor.UniqueNamedRow
namespace Go.Proofs.YtiamiagjkfioiaaGreatDoor
theorem uniqueNamed_uptoCard : Rows.FnUniqueNamedUptoCardSaid := UniqueNamedRow.card
#print axioms uniqueNamed_uptoCard
end Go.Proofs.YtiamiagjkfioiaaGreatDoor
