/- The row of the law 'SubstBound' where what it reads is of bulk at most 1048576 (the tied card). -/
import Derived.Test.YtlncdacoefoldaaGreatDoorMrg2
import Derived.Test.YtlncdacoefoldaaGreatDoorMrg1
import Derived.Test.YtlncdacoefoldaaGreatDoorLaw
import Derived.Test.YtlncdacoefoldaaGreatDoorCards
import Derived.Test.YtlncdacoefoldaaGreatDoorTie
import Derived.Deep.DeepHandedRow
import Derived.Lib.LaidTab
import Derived.ProofKit
import Derived.OpenShut
import Derived.LaidMore
import Derived.Lay
import Derived.SevenTiedAt
import Derived.Stop.Joined
import Derived.JoinedCond
import Derived.LaidHandle
import Derived.ChangeSame
import Derived.ChangeVars
import Derived.JoinedOf
import Derived.RowKitTokens
import Derived.LaidLaws
namespace Go.Proofs.YtlncdacoefoldaaGreatDoor.SubstBoundRow
set_option linter.unusedVariables false
set_option linter.unusedSimpArgs false
set_option linter.unusedSectionVars false
open Go.ChangeShapes Go.WideShapes Go.ChangeAt Go.RowKit Go.Proofs.YtlncdacoefoldaaGreatDoor.L
open Go.ChangeMaps (open_string shut_string)

theorem own : ownKnob Tryz.prog.godebug = none := by kernel_rfl
set_option maxRecDepth 100000 in
theorem contract (H : Type) (enc : TypeId × Value → H) (W : World) (base : Nat) (args : Array Value) (ds gs : List (DataW H)) (before : List MemPlace)
    (hval0 : ∀ (j : Nat) t v, Tryz.f3.params[j]? = some t → args[j]? = some v → Value.okWide Tryz.prog W .any base t v)
    (hW : DataW.Whole enc Tryz.prog Tryz.f3.params.toList Rows.fnSubstBoundSpec.vars false W args.toList ds gs before) (hk : Rows.uptoSmall H (ds ++ gs) = true) :
    Calls Tryz.prog 3 args W fun e W' => ∃ v, e = .returned v ∧ Rows.fnSubstBoundSpec.post enc Tryz.prog Tryz.f3 false true false false W args v W' := by
  have hval : ∀ (j : Nat) t v, Tryz.f3.params[j]? = some t → args[j]? = some v → Value.okWide Tryz.prog W .any base t v := hval0
  have hW' := hW
  obtain ⟨p, q, hA0, hV, rfl, hfz, hnd⟩ := hW
  have hA : DataW.TrodAll enc Tryz.prog W 0 (fun _ => true) true Tryz.f3.params.toList args.toList ds p := hA0
  rw [Tryz.params3] at hA hval
  obtain ⟨v0, vs0, d0, ds0, p0, q0, hargs, rfl, rfl, h0, r0⟩ := trodAll_cons hA
  obtain ⟨v1, vs1, d1, ds1, p1, q1, rfl, rfl, rfl, h1, r1⟩ := trodAll_cons r0
  obtain ⟨v2, vs2, d2, ds2, p2, q2, rfl, rfl, rfl, h2, r2⟩ := trodAll_cons r1
  obtain ⟨v3, vs3, d3, ds3, p3, q3, rfl, rfl, rfl, h3, r3⟩ := trodAll_cons r2
  obtain ⟨v4, vs4, d4, ds4, p4, q4, rfl, rfl, rfl, h4, r4⟩ := trodAll_cons r3
  obtain ⟨rfl, rfl, rfl⟩ := trodAll_nil r4
  obtain rfl : args = #[v0, v1, v2, v3, v4] := by cases args; simp_all
  obtain ⟨rfl, rfl⟩ := trodVars_none hV
  obtain ⟨a0, rfl, e0, _, w0⟩ := open_string Tryz.underlying9 (hval 0 9 v0 rfl rfl) h0
  obtain ⟨a1, rfl, e1, _, w1⟩ := open_string Tryz.underlying9 (hval 1 9 v1 rfl rfl) h1
  obtain ⟨a2, rfl, e2, _, w2⟩ := open_string Tryz.underlying9 (hval 2 9 v2 rfl rfl) h2
  obtain ⟨a3, rfl, e3, _, w3⟩ := open_string Tryz.underlying9 (hval 3 9 v3 rfl rfl) h3
  obtain ⟨A4, c4, l4, rfl, hc4, hC4, hn4, hm4⟩ := C_of_trod_bulk PX.k59 (fun x => x.f1.size) Tryz.underlying22 (by kernel_rfl) (by decide) hel_pair_bulk h4 (okWide_slice Tryz.underlying22 (hval 4 22 v4 rfl rfl))
  have hk' := bulk_all hk
  have e_ : Rows.uptoBulkAll ([d0, d1, d2, d3, d4] ++ []) = Rows.uptoBulk d0 + (Rows.uptoBulk d1 + (Rows.uptoBulk d2 + (Rows.uptoBulk d3 + (Rows.uptoBulk d4)))) := by simp [Rows.uptoBulkAll]
  rw [e_, e0, e1, e2, e3, bulk_text, bulk_text, bulk_text, bulk_text] at hk'
  clear hA0 hval0
  refine (U.law_FnSubstBound_upto a0 a1 a2 a3 A4 c4 l4 W hC4 hc4 (by omega) (by omega) (by omega) (by omega) (by omega) (fun x hx => by have := hm4 x hx; omega)).mono fun e W' ⟨he, hb⟩ => ?_
  subst he
  exact ⟨_, rfl, law_post (tb := 4) (by kernel_rfl) (by decide +kernel) (by kernel_rfl) Tryz.underlying4 rfl hW' rfl hb⟩
/-- A WORLD FOR THE WITNESS: the settled one, the handle of the type 'error' laid in its variable. -/
noncomputable def laidWorld (os : Os) : World :=
  let w0 := World.holding Tryz.prog os ⟨#[], #[], []⟩
  { w0 with heap := w0.heap.modify 1 fun
      | .cells _ t frozen => .cells #[.iface 141 (.agg #[.pointer (some ⟨2, 66, none⟩)])] t frozen
      | o => o }
theorem laidWorld_met (os : Os) : laidMetH Tryz.prog Rows.fnSubstBoundUptoRow.laid ((laidWorld os).forCall (fun _ _ => 0) ⟨#[], #[.string ByteArray.empty, .string ByteArray.empty, .string ByteArray.empty, .string ByteArray.empty, .slice none 0 0], []⟩).memory :=
  laidMetH_of_parts (laidMet_of_run' 8 (by kernel_rfl) (by kernel_rfl)) (by kernel_rfl)
set_option maxRecDepth 100000 in
theorem witness (os : Os) (H : Type) (enc : TypeId × Value → H) :
    ∃ (w : World) (tape : Tape) (i : Input), w.os = os ∧ (w.forCall tape i).Shaped Tryz.prog ∧ i.vars = [] ∧ Input.okWide Tryz.prog (w.forCall tape i) .any w.heap.size 3 i ∧
      Rows.fnSubstBoundUptoRow.pre enc Tryz.prog Tryz.f3 (Rows.OpenSpec.upto Rows.fnSubstBoundSpec) (w.forCall tape i).memory i.args ∧ ({} : Assume).holds Tryz.prog (lone (Frame.enter Tryz.prog 3 i.args .normal) [] (w.forCall tape i)) := by
  have hok : Input.okWideB Tryz.prog ((laidWorld os).forCall (fun _ _ => 0) ⟨#[], #[.string ByteArray.empty, .string ByteArray.empty, .string ByteArray.empty, .string ByteArray.empty, .slice none 0 0], []⟩) 3 ⟨#[], #[.string ByteArray.empty, .string ByteArray.empty, .string ByteArray.empty, .string ByteArray.empty, .slice none 0 0], []⟩ = true := by kernel_rfl
  have hx : DataW.whole enc Tryz.prog ((laidWorld os).forCall (fun _ _ => 0) ⟨#[], #[.string ByteArray.empty, .string ByteArray.empty, .string ByteArray.empty, .string ByteArray.empty, .slice none 0 0], []⟩).memory Tryz.f3.params.toList (Rows.OpenSpec.upto Rows.fnSubstBoundSpec).vars false [.string ByteArray.empty, .string ByteArray.empty, .string ByteArray.empty, .string ByteArray.empty, .slice none 0 0] 8 = some ([.lit (.string []), .lit (.string []), .lit (.string []), .lit (.string []), .nil], [], []) := by kernel_rfl
  have hsz : Rows.fnSubstBoundSpec.sizedB enc Tryz.prog Tryz.f3 Rows.fnSubstBoundUptoRow.apart ((laidWorld os).forCall (fun _ _ => 0) ⟨#[], #[.string ByteArray.empty, .string ByteArray.empty, .string ByteArray.empty, .string ByteArray.empty, .slice none 0 0], []⟩).memory #[.string ByteArray.empty, .string ByteArray.empty, .string ByteArray.empty, .string ByteArray.empty, .slice none 0 0] 8 = true := by kernel_rfl
  refine ⟨laidWorld os, fun _ _ => 0, ⟨#[], #[.string ByteArray.empty, .string ByteArray.empty, .string ByteArray.empty, .string ByteArray.empty, .slice none 0 0], []⟩, rfl, World.shaped_of_B (by kernel_rfl) (by kernel_rfl), (Input.okWide_of_okWideB (base := 0) hok).1, (Input.okWide_of_okWideB hok).2, ⟨⟨?_, laidWorld_met os⟩, sizedMet_of_sizedB (fuel := 8) hsz⟩, ?_⟩
  · exact (OpenSpec.pre_some rfl _ _ _ _).2 ⟨_, _, _, DataW.Whole_of_whole hx, rfl, by kernel_rfl⟩
  · simp only [Assume.holds]
    exact ⟨by simp, by simp, fun _ => Modest.zero, by simp, by simp⟩
set_option maxRecDepth 100000 in
theorem lifted (os : Os) (started : os.Started) (H : Type) (enc : TypeId × Value → H) (F : Stop.Interp) :
    ReturnsInHanded {} Tryz.checked os 3 .any (Rows.fnSubstBoundUptoRow.pre enc Tryz.prog Tryz.f3 (Rows.OpenSpec.upto Rows.fnSubstBoundSpec))
      (((Rows.OpenSpec.upto Rows.fnSubstBoundSpec).at F).post enc Tryz.prog Tryz.f3 false true false false) := by
  refine returnsInHanded_of_calls (C := Tryz.checked) own started (by kernel_rfl) (witness os H enc) ?_
  intro w tape i _ _ _ hok hpre _
  obtain ⟨_, _, _, fn', hfn', _, _, _, _, hval⟩ := hok
  have e : fn' = Tryz.f3 := Option.some.inj (hfn'.symm.trans Tryz.func3)
  subst e
  obtain ⟨ds, gs, before, hw, hc, hkk⟩ := (OpenSpec.pre_some (k := Rows.uptoSmall) rfl _ _ _ _).1 hpre.1.1
  have hw' := DataW.Whole.of_heap (w' := w.forCall tape i) (by rfl) hw
  refine (contract H enc (w.forCall tape i) w.heap.size i.args ds gs before hval hw' hkk).mono fun e W' ⟨v, he, hp⟩ => ?_
  subst he
  exact ChangeSpec.post_blind hp
theorem said : Rows.fnSubstBoundUptoRow.holds Tryz.pinned (Rows.OpenSpec.upto Rows.fnSubstBoundSpec) :=
  OpenClaim.holds_of_cond 3 Tryz.f3 rfl rfl rfl rfl rfl rfl rfl ⟨rfl, rfl, rfl, rfl, rfl⟩ rfl rfl rfl rfl rfl (by kernel_rfl) Tryz.func3 (by kernel_rfl)
    (of_decide_eq_true (by kernel_rfl)) (by unfold Func.isWrapper; first | (rw [if_pos (by decide +kernel)]; kernel_rfl) | (rw [if_neg (by decide +kernel)]; exact ⟨rfl, rfl⟩))
    (fun os started H enc _ F => lifted os started H enc F)
set_option maxRecDepth 100000 in
theorem plain (f : FuncId) (fn : Func) (hf : Tryz.pinned.checked.prog.funcNamed "pub-shipwright/laws.FnSubstBound" = some f) (hfn : Tryz.pinned.checked.prog.funcs[f]? = some fn) :
    true = Tryz.pinned.checked.prog.looks [] ∧ ∀ (j : Nat) t, fn.params[j]? = some t → Tryz.pinned.checked.prog.wantsStandIn t = false := by
  obtain rfl : f = 3 := Option.some.inj ((show Tryz.prog.funcNamed "pub-shipwright/laws.FnSubstBound" = some 3 by kernel_rfl).symm.trans hf) |>.symm
  obtain rfl : fn = Tryz.f3 := (Option.some.inj (Tryz.func3.symm.trans hfn)).symm
  refine ⟨by kernel_rfl, fun j t ht => ?_⟩
  rw [Tryz.params3] at ht
  have hm := Array.mem_of_getElem? ht
  simp only [List.mem_toArray, List.mem_cons, List.not_mem_nil, or_false] at hm
  rcases hm with rfl | rfl | rfl | rfl | rfl
  all_goals first | exact (show Tryz.prog.wantsStandIn 9 = false by kernel_rfl) | exact (show Tryz.prog.wantsStandIn 22 = false by kernel_rfl)
set_option maxRecDepth 100000 in
theorem card : Rows.FnSubstBoundUptoCardSaid :=
  Claim7.holds_tied_plain_at .later [] _ _ _ _ said (fun _ h => by cases h) (by kernel_rfl) (fun _ h => by cases h) fnSubstBoundUpto_row_tie rfl ⟨rfl, rfl⟩ (by kernel_rfl) rfl plain (by kernel_rfl)
end Go.Proofs.YtlncdacoefoldaaGreatDoor.SubstBoundRow
namespace Go.Proofs.YtlncdacoefoldaaGreatDoor
theorem substBound_uptoCard : Rows.FnSubstBoundUptoCardSaid := SubstBoundRow.card
#print axioms substBound_uptoCard
end Go.Proofs.YtlncdacoefoldaaGreatDoor
