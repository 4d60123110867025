/- The walks of laws.shortAwake, impl.IsFilePath and laws.FnFilePath. -/
import Derived.Test.YtklbghadhneejaaDoorVolI
namespace Go.Proofs.YtklbghadhneejaaDoor.V
set_option linter.unusedVariables false
set_option linter.unusedSimpArgs false
set_option linter.unusedSectionVars false
open Go.RowKit Go.Proofs.YtklbghadhneejaaDoorW.PrintWords Go.Proofs.YtklbghadhneejaaDoorW.PrintLast Go.Proofs.YtklbghadhneejaaDoor.PX

def sAwake : ByteArray := ⟨#[100, 97, 116, 97, 58, 47, 118, 97, 114, 47, 108, 105, 98, 58, 114, 111]⟩
def vAwake : Vol := ⟨⟨#[]⟩, ⟨#[100, 97, 116, 97]⟩, ⟨#[47, 118, 97, 114, 47, 108, 105, 98]⟩, true, none, none⟩
theorem opt_ro (v : Vol) : (splitC (⟨#[114, 111]⟩ : ByteArray).size ⟨#[114, 111]⟩).foldl optStep v = { v with ro := true } := by
  have h1 : splitC (⟨#[114, 111]⟩ : ByteArray).size ⟨#[114, 111]⟩ = [⟨#[114, 111]⟩] := by kernel_rfl
  have h2 : (⟨#[114, 111]⟩ : ByteArray).toList = [114, 111] := by rw [ByteArray.toList_eq]
  rw [h1]
  show optStep v _ = _
  rw [optStep, if_pos h2]
theorem run_awake : run vol0 [] ((sAwake ++ (⟨#[0]⟩ : ByteArray)).data.toList) = some vAwake := by
  have e : (sAwake ++ (⟨#[0]⟩ : ByteArray)).data.toList = [100, 97, 116, 97, 58, 47, 118, 97, 114, 47, 108, 105, 98, 58, 114, 111, 0] := by kernel_rfl
  rw [e]
  have a1 : ∀ cs, run vol0 [] (100 :: 97 :: 116 :: 97 :: 58 :: cs) = run { vol0 with src := ⟨#[100, 97, 116, 97]⟩ } [] cs := fun cs => by kernel_rfl
  have a2 : ∀ cs, run { vol0 with src := ⟨#[100, 97, 116, 97]⟩ } [] (47 :: 118 :: 97 :: 114 :: 47 :: 108 :: 105 :: 98 :: 58 :: cs) = run { vol0 with src := ⟨#[100, 97, 116, 97]⟩, tgt := ⟨#[47, 118, 97, 114, 47, 108, 105, 98]⟩ } [] cs := fun cs => by kernel_rfl
  have a3 : run { vol0 with src := ⟨#[100, 97, 116, 97]⟩, tgt := ⟨#[47, 118, 97, 114, 47, 108, 105, 98]⟩ } [] [114, 111, 0] = some ((splitC (⟨#[114, 111]⟩ : ByteArray).size ⟨#[114, 111]⟩).foldl optStep { vol0 with src := ⟨#[100, 97, 116, 97]⟩, tgt := ⟨#[47, 118, 97, 114, 47, 108, 105, 98]⟩ }) := by kernel_rfl
  rw [a1, a2, a3, opt_ro]
  rfl
theorem path_data : PathSaid ⟨#[100, 97, 116, 97]⟩ false := by
  have hb : ∀ j : Nat, j < 4 → wordC false (bt (⟨#[100, 97, 116, 97]⟩ : ByteArray) (j : Int)) := by
    intro j hj
    rcases j with _ | _ | _ | _ | j
    · exact .inl (by decide)
    · exact .inl (by decide)
    · exact .inl (by decide)
    · exact .inl (by decide)
    · omega
  exact ⟨by decide, (fun h => by cases h), fun _ => ⟨hb, by decide⟩, fun j hj => .inl (word_mono (hb j hj))⟩
set_option maxHeartbeats 4000000 in
set_option maxRecDepth 100000 in
theorem laws_shortAwake (w : World) :
    Calls Tryd.prog 7 #[] w fun e w' => e = .returned (.bool true) ∧ Below w.heap.size w w' := by
  have HP := Lib.hid (fun W => impl_ParseVolume_own sAwake vAwake false false W (by decide) (by decide) run_awake (.inl path_data) (by decide) rfl rfl)
  have HIC := Lib.hid (show implCells (popT vAwake false) = #[.string ⟨#[118, 111, 108, 117, 109, 101]⟩, .string ⟨#[100, 97, 116, 97]⟩, .string ⟨#[47, 118, 97, 114, 47, 108, 105, 98]⟩, .string ⟨#[]⟩, .string ⟨#[]⟩, .string ⟨#[]⟩, .bool true, .bool false, .bool false, .bool false, .bool true, .bool false] from rfl)
  go_enter Tryd.func7, Tryd.ntmps7
  go_wp2_with (go_at_call 8; refine (HP.out _).mono ?_; rintro e w1 ⟨rfl, hb1⟩; have HB1 := Aside0.mk hb1; rw [HIC.out]; clear hb1)
  go_ret
  exact ⟨rfl, HB1.out.alloc HB1.out.size _⟩
end Go.Proofs.YtklbghadhneejaaDoor.V
