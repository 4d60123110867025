/- The row of the law 'TransformDependsOn' where what it reads is of bulk at most 1048576: true, and the input reads as it did. -/
import Derived.Test.YtgeamhmenmomhaaNeedLaw
import Derived.Test.YtgeamhmenmomhaaDoorV
import Derived.Test.YtgeamhmenmomhaaLaw
import Derived.OpenShut
import Derived.JoinedCond
namespace Go.Proofs.Ytgeamhmenmomhaa.TransformDependsOnRow
set_option linter.unusedVariables false
set_option linter.unusedSimpArgs false
set_option linter.unusedSectionVars false
open Go.ChangeShapes Go.WideShapes Go.ChangeAt Go.RowKit Go.Proofs.Ytgeamhmenmomhaa.L
open Go.ChangeMaps (open_string shut_string)

theorem own : ownKnob Try.prog.godebug = none := by kernel_rfl

set_option maxRecDepth 100000 in
theorem contract (H : Type) (enc : TypeId × Value → H) (W : World) (base : Nat) (args : Array Value) (ds gs : List (DataW H)) (before : List MemPlace)
    (hval0 : ∀ (j : Nat) t v, Try.f3.params[j]? = some t → args[j]? = some v → Value.okWide Try.prog W .any base t v)
    (hW : DataW.Whole enc Try.prog Try.f3.params.toList Rows.fnTransformDependsOnSpec.vars false W args.toList ds gs before) (hk : Rows.uptoSmall H (ds ++ gs) = true) :
    Calls Try.prog 3 args W fun e W' => ∃ v, e = .returned v ∧ Rows.fnTransformDependsOnSpec.post enc Try.prog Try.f3 false true false false W args v W' := by
  have hval : ∀ (j : Nat) t v, Try.f3.params[j]? = some t → args[j]? = some v → Value.okWide Try.prog W .any base t v := hval0
  have hW' := hW
  obtain ⟨p, q, hA0, hV, rfl, hfz, hnd⟩ := hW
  have hA : DataW.TrodAll enc Try.prog W 0 (fun _ => true) true Try.f3.params.toList args.toList ds p := hA0
  rw [Try.params3] at hA hval
  obtain ⟨v0, vs0, d0, ds0, p0, q0, hargs, rfl, rfl, h0, r0⟩ := trodAll_cons hA
  obtain ⟨v1, vs1, d1, ds1, p1, q1, rfl, rfl, rfl, h1, r1⟩ := trodAll_cons r0
  obtain ⟨rfl, rfl, rfl⟩ := trodAll_nil r1
  obtain rfl : args = #[v0, v1] := by cases args; simp_all
  obtain ⟨rfl, rfl⟩ := trodVars_none hV
  have hk' := bulk_all hk
  have e_ : Rows.uptoBulkAll ([d0, d1] ++ []) = Rows.uptoBulk d0 + (Rows.uptoBulk d1) := by simp [Rows.uptoBulkAll]
  rw [e_] at hk'
  obtain ⟨x0, hm0, hb0, hw0⟩ := A.val_of_trod h0 (okWide_struct Try.underlying25 (hval 0 25 v0 rfl rfl)) (by omega)
  obtain ⟨a1, rfl, e1, _⟩ := open_bool Try.underlying4 (hval 1 4 v1 rfl rfl) h1
  clear hA0 hval0
  refine (A.law_TransformDependsOn hb0 (by omega) hm0 a1).mono fun e W' ⟨he, hb⟩ => ?_
  subst he
  exact ⟨_, rfl, law_post (tb := 4) (by kernel_rfl) (by decide +kernel) (by kernel_rfl) Try.underlying4 rfl hW' rfl hb⟩

set_option maxRecDepth 100000 in
theorem lifted (os : Os) (started : os.Started) (H : Type) (enc : TypeId × Value → H) (F : Stop.Interp) :
    ReturnsInHanded {} Try.checked os 3 .any ((Rows.OpenSpec.upto Rows.fnTransformDependsOnSpec).pre6 enc Try.prog Try.f3 Rows.fnTransformDependsOnUptoRow.domain false) (((Rows.OpenSpec.upto Rows.fnTransformDependsOnSpec).at F).post enc Try.prog Try.f3 false true false false) := by
  refine returnsInHanded_of_cond (C := Try.checked) (s := Rows.OpenSpec.upto Rows.fnTransformDependsOnSpec) (k := Rows.uptoSmall) rfl own started (by kernel_rfl) Try.func3
    (OpenSpec.witness (enc := enc) (C := Try.checked) (s := Rows.OpenSpec.upto Rows.fnTransformDependsOnSpec) (k := Rows.uptoSmall) rfl false ⟨#[], #[.agg #[.int .i64 0, .int .i64 0, .string ByteArray.empty, .slice none 0 0, .slice none 0 0], .bool false], []⟩ 8 (by kernel_rfl) (by kernel_rfl) (by kernel_rfl)
      (x := ([.agg [.lit (.int .i64 0), .lit (.int .i64 0), .lit (.string []), .nil, .nil], .lit (.bool false)], [], [])) (by kernel_rfl) rfl (by kernel_rfl)) ?_
  intro W base args ds gs before hval hW _ hk _
  exact contract H enc W base args ds gs before hval hW hk

theorem over : Rows.fnTransformDependsOnUptoRow.holds Try.pinned (Rows.OpenSpec.upto Rows.fnTransformDependsOnSpec) :=
  OpenClaim.holds_of_cond 3 Try.f3 rfl rfl rfl rfl rfl rfl rfl ⟨rfl, rfl, rfl, rfl, rfl⟩ rfl rfl rfl rfl rfl (by kernel_rfl) Try.func3 (by kernel_rfl)
    (of_decide_eq_true (by kernel_rfl)) (by unfold Func.isWrapper; first | (rw [if_pos (by decide +kernel)]; kernel_rfl) | (rw [if_neg (by decide +kernel)]; exact ⟨rfl, rfl⟩))
    (fun os started H enc _ F => lifted os started H enc F)
end Go.Proofs.Ytgeamhmenmomhaa.TransformDependsOnRow
namespace Go.Proofs.Ytgeamhmenmomhaa
theorem transformDependsOn_upto : Rows.FnTransformDependsOnUptoSaid := TransformDependsOnRow.over
#print axioms transformDependsOn_upto
end Go.Proofs.Ytgeamhmenmomhaa
