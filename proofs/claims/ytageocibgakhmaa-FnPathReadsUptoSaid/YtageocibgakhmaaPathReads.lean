/- The law on NewPath, Parts, Last, Parent and Next, where what it reads is of bulk at most 1048576: true, and the input reads as it did. -/
import Derived.Test.YtageocibgakhmaaTreeK
import Derived.Test.YtageocibgakhmaaBulk
import Derived.OpenShut
import Derived.JoinedCond
namespace Go.Proofs.Ytageocibgakhmaa.PathReadsRow
open Go.ChangeShapes Go.WideShapes Go.ChangeAt Go.RowKit Go.Proofs.Ytageocibgakhmaa.L
open Go.ChangeMaps (open_string shut_string)

theorem own : ownKnob Try.prog.godebug = none := by kernel_rfl

set_option maxRecDepth 100000 in
theorem contract (H : Type) (enc : TypeId × Value → H) (W : World) (base : Nat) (args : Array Value) (ds gs : List (DataW H)) (before : List MemPlace)
    (hval0 : ∀ (j : Nat) t v, Try.f10.params[j]? = some t → args[j]? = some v → Value.okWide Try.prog W .any base t v)
    (hW : DataW.Whole enc Try.prog Try.f10.params.toList Rows.fnPathReadsSpec.vars false W args.toList ds gs before) (hk : Rows.uptoSmall H (ds ++ gs) = true) :
    Calls Try.prog 10 args W fun e W' => ∃ v, e = .returned v ∧ Rows.fnPathReadsSpec.post enc Try.prog Try.f10 false true false false W args v W' := by
  have hval : ∀ (j : Nat) t v, Try.f10.params[j]? = some t → args[j]? = some v → Value.okWide Try.prog W .any base t v := hval0
  have hW' := hW
  obtain ⟨p, q, hA0, hV, rfl, hfz, hnd⟩ := hW
  have hA : DataW.TrodAll enc Try.prog W 0 (fun _ => true) true Try.f10.params.toList args.toList ds p := hA0
  rw [Try.params10] at hA hval
  obtain ⟨v0, vs0, d0, ds0, p0, q0, hargs, rfl, rfl, h0, r0⟩ := trodAll_cons hA
  obtain ⟨rfl, rfl, rfl⟩ := trodAll_nil r0
  obtain rfl : args = #[v0] := by cases args; simp_all
  obtain ⟨rfl, rfl⟩ := trodVars_none hV
  obtain ⟨l, hl, hb⟩ := ss_of_trod_bulk Try.underlying28 Try.underlying9 (by kernel_rfl) h0 (okWide_slice Try.underlying28 (hval 0 28 v0 rfl rfl))
  have hk' := bulk_all hk
  have hr : room l ≤ 2147483647 := by
    have e : Rows.uptoBulkAll ([d0] ++ []) = Rows.uptoBulk d0 := by simp [Rows.uptoBulkAll]
    rw [e] at hk'
    have e2 : room l = (l.map fun x => x.size + 1).sum := rfl
    omega
  clear hA0 hval0
  refine (law_PathReads l v0 W hl hr).mono fun e W' ⟨he, hb⟩ => ?_
  subst he
  exact ⟨_, rfl, law_post (tb := 4) (by kernel_rfl) (by decide +kernel) (by kernel_rfl) Try.underlying4 rfl hW' rfl hb⟩

set_option maxRecDepth 100000 in
theorem lifted (os : Os) (started : os.Started) (H : Type) (enc : TypeId × Value → H) (F : Stop.Interp) :
    ReturnsInHanded {} Try.checked os 10 .any ((Rows.OpenSpec.upto Rows.fnPathReadsSpec).pre6 enc Try.prog Try.f10 Rows.fnPathReadsUptoRow.domain false) (((Rows.OpenSpec.upto Rows.fnPathReadsSpec).at F).post enc Try.prog Try.f10 false true false false) := by
  refine returnsInHanded_of_cond (C := Try.checked) (s := Rows.OpenSpec.upto Rows.fnPathReadsSpec) (k := Rows.uptoSmall) rfl own started (by kernel_rfl) Try.func10
    (OpenSpec.witness (enc := enc) (C := Try.checked) (s := Rows.OpenSpec.upto Rows.fnPathReadsSpec) (k := Rows.uptoSmall) rfl false ⟨#[], #[.slice none 0 0], []⟩ 8 (by kernel_rfl) (by kernel_rfl) (by kernel_rfl)
      (x := ([.nil], [], [])) (by kernel_rfl) rfl (by kernel_rfl)) ?_
  intro W base args ds gs before hval hW _ hk _
  exact contract H enc W base args ds gs before hval hW hk

theorem over : Rows.fnPathReadsUptoRow.holds Try.pinned (Rows.OpenSpec.upto Rows.fnPathReadsSpec) :=
  OpenClaim.holds_of_cond 10 Try.f10 rfl rfl rfl rfl rfl rfl rfl ⟨rfl, rfl, rfl, rfl, rfl⟩ rfl rfl rfl rfl rfl (by kernel_rfl) Try.func10 (by kernel_rfl)
    (of_decide_eq_true (by kernel_rfl)) (by unfold Func.isWrapper; first | (rw [if_pos (by decide +kernel)]; kernel_rfl) | (rw [if_neg (by decide +kernel)]; exact ⟨rfl, rfl⟩))
    (fun os started H enc _ F => lifted os started H enc F)
end Go.Proofs.Ytageocibgakhmaa.PathReadsRow
namespace Go.Proofs.Ytageocibgakhmaa
theorem pathReads_upto : Rows.FnPathReadsUptoSaid := PathReadsRow.over
#print axioms pathReads_upto
end Go.Proofs.Ytageocibgakhmaa
