/- What spec.With makes of lengths; spec.Empty. -/
import Derived.Test.YtiamiagjkfioiaaGreatDoorWithR
namespace Go.Proofs.YtiamiagjkfioiaaGreatDoor.A
set_option linter.unusedVariables false
set_option linter.unusedSimpArgs false
set_option linter.unusedSectionVars false
open Go.RowKit Go.Proofs.YtiamiagjkfioiaaGreatDoorW.PrintWords Go.Proofs.YtiamiagjkfioiaaGreatDoorW.PrintLast Go.Proofs.YtiamiagjkfioiaaGreatDoorW.PrintMore Go.Proofs.YtiamiagjkfioiaaGreatDoor.PT Go.Proofs.YtiamiagjkfioiaaGreatDoor.L

theorem withKs_len (key : ByteArray) (ks : List ByteArray) : (withKs key ks).length ≤ ks.length + 1 := by
  unfold withKs
  split
  · omega
  · have := placeN_le key ks
    simp only [List.length_append, List.length_take, List.length_cons, List.length_drop]
    omega
theorem withVs_len (key : ByteArray) (ks : List ByteArray) (vs : List RV) (x : RV) (h : vs.length = ks.length) : (withVs key ks vs x).length = (withKs key ks).length := by
  have := placeN_le key ks
  unfold withKs withVs
  split
  · rw [List.length_set, h]
  · simp only [List.length_append, List.length_take, List.length_cons, List.length_drop]
    omega
theorem spec_Empty (w : World) :
    Calls Tryz.prog 25 #[] w fun e w' => e = .returned (.agg #[.int .i64 5, .int .i64 0, .string ⟨#[]⟩, .slice none 0 0, .slice none 0 0]) ∧ w' = w.alloc (Obj.cells #[.int .i64 5, .int .i64 0, .string ⟨#[]⟩, .slice none 0 0, .slice none 0 0] 26) := by
  go_enter Tryz.func25, Tryz.ntmps25
  go_wp2
  refine bodyPost_ret (v := .agg #[.int .i64 5, .int .i64 0, .string ⟨#[]⟩, .slice none 0 0, .slice none 0 0]) (by simp [results, Tryz.results25, go_sem]) rfl ?_
  exact ⟨rfl, rfl⟩
end Go.Proofs.YtiamiagjkfioiaaGreatDoor.A
