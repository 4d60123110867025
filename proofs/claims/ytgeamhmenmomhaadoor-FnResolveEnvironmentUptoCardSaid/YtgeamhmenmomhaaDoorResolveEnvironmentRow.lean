/- The row of the law 'ResolveEnvironment' where what it reads is of bulk at most 1048576 (the tied card). -/
import Derived.Test.YtgeamhmenmomhaaDoorEnvLaw
import Derived.Test.YtgeamhmenmomhaaDoorDoorVP
import Derived.Test.YtgeamhmenmomhaaDoorLaw
import Derived.Test.YtgeamhmenmomhaaDoorCards
import Derived.Test.YtgeamhmenmomhaaDoorTie
import Derived.Deep.DeepHandedRow
import Derived.Lib.LaidTab
import Derived.ProofKit
import Derived.OpenShut
import Derived.LaidMore
import Derived.Lay
import Derived.SevenTiedAt
import Derived.Stop.Joined
import Derived.JoinedCond
import Derived.LaidHandle
import Derived.ChangeSame
import Derived.ChangeVars
import Derived.JoinedOf
import Derived.RowKitTokens
import Derived.LaidLaws
namespace Go.Proofs.YtgeamhmenmomhaaDoor.ResolveEnvironmentRow
set_option linter.unusedVariables false
set_option linter.unusedSimpArgs false
set_option linter.unusedSectionVars false
open Go.ChangeShapes Go.WideShapes Go.ChangeAt Go.RowKit Go.Proofs.YtgeamhmenmomhaaDoor.L
open Go.ChangeMaps (open_string shut_string)
open Go.ChangeAt

theorem own : ownKnob Tryd.prog.godebug = none := by kernel_rfl
set_option maxRecDepth 100000 in
theorem contract (H : Type) (enc : TypeId × Value → H) (W : World) (base : Nat) (args : Array Value) (ds gs : List (DataW H)) (before : List MemPlace)
    (hval0 : ∀ (j : Nat) t v, Tryd.f4.params[j]? = some t → args[j]? = some v → Value.okWide Tryd.prog W .any base t v)
    (hW : DataW.Whole enc Tryd.prog Tryd.f4.params.toList Rows.fnResolveEnvironmentSpec.vars false W args.toList ds gs before) (hk : Rows.uptoSmall H (ds ++ gs) = true) :
    Calls Tryd.prog 4 args W fun e W' => ∃ v, e = .returned v ∧ Rows.fnResolveEnvironmentSpec.post enc Tryd.prog Tryd.f4 false true false false W args v W' := by
  have hval : ∀ (j : Nat) t v, Tryd.f4.params[j]? = some t → args[j]? = some v → Value.okWide Tryd.prog W .any base t v := hval0
  have hW' := hW
  obtain ⟨p, q, hA0, hV, rfl, hfz, hnd⟩ := hW
  have hA : DataW.TrodAll enc Tryd.prog W 0 (fun _ => true) true Tryd.f4.params.toList args.toList ds p := hA0
  rw [Tryd.params4] at hA hval
  obtain ⟨v0, vs0, d0, ds0, p0, q0, hargs, rfl, rfl, h0, r0⟩ := trodAll_cons hA
  obtain ⟨v1, vs1, d1, ds1, p1, q1, rfl, rfl, rfl, h1, r1⟩ := trodAll_cons r0
  obtain ⟨rfl, rfl, rfl⟩ := trodAll_nil r1
  obtain rfl : args = #[v0, v1] := by cases args; simp_all
  obtain ⟨rfl, rfl⟩ := trodVars_none hV
  have hk' := bulk_all hk
  have e_ : Rows.uptoBulkAll ([d0, d1] ++ []) = Rows.uptoBulk d0 + (Rows.uptoBulk d1) := by simp [Rows.uptoBulkAll]
  rw [e_] at hk'
  obtain ⟨x0, hm0, hb0, hw0⟩ := A.val_of_trod h0 (okWide_struct Tryd.underlying25 (hval 0 25 v0 rfl rfl)) (by omega)
  obtain ⟨A1, c1, l1, rfl, hc1, hC1, hl1, hs1⟩ := A.pairs_of_trod h1 (okWide_slice Tryd.underlying26 (hval 1 26 v1 rfl rfl)) (by omega)
  clear hA0 hval0
  refine (A.law_ResolveEnvironment hb0 (by omega) hm0 l1 A1 c1 hC1 hc1 hl1 hs1).mono fun e W' ⟨he, hb⟩ => ?_
  subst he
  exact ⟨_, rfl, law_post (tb := 4) (by kernel_rfl) (by decide +kernel) (by kernel_rfl) Tryd.underlying4 rfl hW' rfl hb⟩
noncomputable def laidWorld (os : Os) : World := World.laidAll Tryd.prog os Rows.fnResolveEnvironmentUptoRow.laid
set_option maxRecDepth 100000 in
theorem laidWorld_met (os : Os) : laidMetH Tryd.prog Rows.fnResolveEnvironmentUptoRow.laid ((laidWorld os).forCall (fun _ _ => 0) ⟨#[], #[.agg #[.int .i64 0, .int .i64 0, .string ByteArray.empty, .slice none 0 0, .slice none 0 0], .slice none 0 0], []⟩).memory :=
  by
  rw [MakeChecks.laidMetH_plain _ _ _ (by kernel_rfl)]
  exact laidMet_laidAll _ (by kernel_rfl) (by kernel_rfl)
set_option maxRecDepth 100000 in
theorem witness (os : Os) (H : Type) (enc : TypeId × Value → H) :
    ∃ (w : World) (tape : Tape) (i : Input), w.os = os ∧ (w.forCall tape i).Shaped Tryd.prog ∧ i.vars = [] ∧ Input.okWide Tryd.prog (w.forCall tape i) .any w.heap.size 4 i ∧
      Rows.fnResolveEnvironmentUptoRow.pre enc Tryd.prog Tryd.f4 (Rows.OpenSpec.upto Rows.fnResolveEnvironmentSpec) (w.forCall tape i).memory i.args ∧ ({} : Assume).holds Tryd.prog (lone (Frame.enter Tryd.prog 4 i.args .normal) [] (w.forCall tape i)) := by
  have hok : Input.okWideB Tryd.prog ((laidWorld os).forCall (fun _ _ => 0) ⟨#[], #[.agg #[.int .i64 0, .int .i64 0, .string ByteArray.empty, .slice none 0 0, .slice none 0 0], .slice none 0 0], []⟩) 4 ⟨#[], #[.agg #[.int .i64 0, .int .i64 0, .string ByteArray.empty, .slice none 0 0, .slice none 0 0], .slice none 0 0], []⟩ = true := by kernel_rfl
  have hx : DataW.whole enc Tryd.prog ((laidWorld os).forCall (fun _ _ => 0) ⟨#[], #[.agg #[.int .i64 0, .int .i64 0, .string ByteArray.empty, .slice none 0 0, .slice none 0 0], .slice none 0 0], []⟩).memory Tryd.f4.params.toList (Rows.OpenSpec.upto Rows.fnResolveEnvironmentSpec).vars false [.agg #[.int .i64 0, .int .i64 0, .string ByteArray.empty, .slice none 0 0, .slice none 0 0], .slice none 0 0] 8 = some ([.agg [.lit (.int .i64 0), .lit (.int .i64 0), .lit (.string []), .nil, .nil], .nil], [], []) := by kernel_rfl
  have hsz : Rows.fnResolveEnvironmentSpec.sizedB enc Tryd.prog Tryd.f4 Rows.fnResolveEnvironmentUptoRow.apart ((laidWorld os).forCall (fun _ _ => 0) ⟨#[], #[.agg #[.int .i64 0, .int .i64 0, .string ByteArray.empty, .slice none 0 0, .slice none 0 0], .slice none 0 0], []⟩).memory #[.agg #[.int .i64 0, .int .i64 0, .string ByteArray.empty, .slice none 0 0, .slice none 0 0], .slice none 0 0] 8 = true := by kernel_rfl
  refine ⟨laidWorld os, fun _ _ => 0, ⟨#[], #[.agg #[.int .i64 0, .int .i64 0, .string ByteArray.empty, .slice none 0 0, .slice none 0 0], .slice none 0 0], []⟩, World.laidAll_os _ _ _, World.shaped_of_ZipB (by kernel_rfl) (by kernel_rfl), (Input.okWide_of_okWideB (base := 0) hok).1, (Input.okWide_of_okWideB hok).2, ⟨⟨?_, laidWorld_met os⟩, sizedMet_of_sizedB (fuel := 8) hsz⟩, ?_⟩
  · exact (OpenSpec.pre_some rfl _ _ _ _).2 ⟨_, _, _, DataW.Whole_of_whole hx, rfl, by kernel_rfl⟩
  · simp only [Assume.holds]
    exact ⟨by simp, by simp, fun _ => Modest.zero, by simp, by simp⟩
set_option maxRecDepth 100000 in
theorem lifted (os : Os) (started : os.Started) (H : Type) (enc : TypeId × Value → H) (F : Stop.Interp) :
    ReturnsInHanded {} Tryd.checked os 4 .any (Rows.fnResolveEnvironmentUptoRow.pre enc Tryd.prog Tryd.f4 (Rows.OpenSpec.upto Rows.fnResolveEnvironmentSpec))
      (((Rows.OpenSpec.upto Rows.fnResolveEnvironmentSpec).at F).post enc Tryd.prog Tryd.f4 false true false false) := by
  refine returnsInHanded_of_calls (C := Tryd.checked) own started (by kernel_rfl) (witness os H enc) ?_
  intro w tape i _ _ _ hok hpre _
  obtain ⟨_, _, _, fn', hfn', _, _, _, _, hval⟩ := hok
  have e : fn' = Tryd.f4 := Option.some.inj (hfn'.symm.trans Tryd.func4)
  subst e
  obtain ⟨ds, gs, before, hw, hc, hkk⟩ := (OpenSpec.pre_some (k := Rows.uptoSmall) rfl _ _ _ _).1 hpre.1.1
  have hw' := DataW.Whole.of_heap (w' := w.forCall tape i) (by rfl) hw
  refine (contract H enc (w.forCall tape i) w.heap.size i.args ds gs before hval hw' hkk).mono fun e W' ⟨v, he, hp⟩ => ?_
  subst he
  exact ChangeSpec.post_blind hp
theorem said : Rows.fnResolveEnvironmentUptoRow.holds Tryd.pinned (Rows.OpenSpec.upto Rows.fnResolveEnvironmentSpec) :=
  OpenClaim.holds_of_cond 4 Tryd.f4 rfl rfl rfl rfl rfl rfl rfl ⟨rfl, rfl, rfl, rfl, rfl⟩ rfl rfl rfl rfl rfl (by kernel_rfl) Tryd.func4 (by kernel_rfl)
    (of_decide_eq_true (by kernel_rfl)) (by unfold Func.isWrapper; first | (rw [if_pos (by decide +kernel)]; kernel_rfl) | (rw [if_neg (by decide +kernel)]; exact ⟨rfl, rfl⟩))
    (fun os started H enc _ F => lifted os started H enc F)
set_option maxRecDepth 100000 in
theorem plain (f : FuncId) (fn : Func) (hf : Tryd.pinned.checked.prog.funcNamed "pub-shipwright/laws.FnResolveEnvironment" = some f) (hfn : Tryd.pinned.checked.prog.funcs[f]? = some fn) :
    true = Tryd.pinned.checked.prog.looks [] ∧ ∀ (j : Nat) t, fn.params[j]? = some t → Tryd.pinned.checked.prog.wantsStandIn t = false := by
  obtain rfl : f = 4 := Option.some.inj ((show Tryd.prog.funcNamed "pub-shipwright/laws.FnResolveEnvironment" = some 4 by kernel_rfl).symm.trans hf) |>.symm
  obtain rfl : fn = Tryd.f4 := (Option.some.inj (Tryd.func4.symm.trans hfn)).symm
  refine ⟨by kernel_rfl, fun j t ht => ?_⟩
  rw [Tryd.params4] at ht
  have hm := Array.mem_of_getElem? ht
  simp only [List.mem_toArray, List.mem_cons, List.not_mem_nil, or_false] at hm
  rcases hm with rfl | rfl
  all_goals first | exact (show Tryd.prog.wantsStandIn 25 = false by kernel_rfl) | exact (show Tryd.prog.wantsStandIn 26 = false by kernel_rfl)
set_option maxRecDepth 100000 in
theorem card : Rows.FnResolveEnvironmentUptoCardSaid :=
  Claim7.holds_tied_plain_at .later [] _ _ _ _ said (fun _ h => by cases h) (by kernel_rfl) (fun _ h => by cases h) fnResolveEnvironmentUpto_row_tie rfl ⟨rfl, rfl⟩ (by kernel_rfl) rfl plain (by kernel_rfl)
end Go.Proofs.YtgeamhmenmomhaaDoor.ResolveEnvironmentRow
namespace Go.Proofs.YtgeamhmenmomhaaDoor
theorem resolveEnvironment_uptoCard : Rows.FnResolveEnvironmentUptoCardSaid := ResolveEnvironmentRow.card
#print axioms resolveEnvironment_uptoCard
end Go.Proofs.YtgeamhmenmomhaaDoor
