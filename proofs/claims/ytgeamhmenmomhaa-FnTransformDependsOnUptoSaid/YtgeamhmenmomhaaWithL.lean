/- What spec.With makes of lengths; spec.Empty. -/
import Derived.Test.YtgeamhmenmomhaaWithR
namespace Go.Proofs.Ytgeamhmenmomhaa.A
set_option linter.unusedVariables false
set_option linter.unusedSimpArgs false
set_option linter.unusedSectionVars false
open Go.RowKit Go.Proofs.YtgeamhmenmomhaaW.PrintWords Go.Proofs.YtgeamhmenmomhaaW.PrintLast Go.Proofs.YtgeamhmenmomhaaW.PrintMore Go.Proofs.Ytgeamhmenmomhaa.PT Go.Proofs.Ytgeamhmenmomhaa.L

theorem withKs_len (key : ByteArray) (ks : List ByteArray) : (withKs key ks).length ≤ ks.length + 1 := by
  unfold withKs
  split
  · omega
  · have := placeN_le key ks
    simp only [List.length_append, List.length_take, List.length_cons, List.length_drop]
    omega
theorem withVs_len (key : ByteArray) (ks : List ByteArray) (vs : List RV) (x : RV) (h : vs.length = ks.length) : (withVs key ks vs x).length = (withKs key ks).length := by
  have := placeN_le key ks
  unfold withKs withVs
  split
  · rw [List.length_set, h]
  · simp only [List.length_append, List.length_take, List.length_cons, List.length_drop]
    omega
theorem spec_Empty (w : World) :
    Calls Try.prog 13 #[] w fun e w' => e = .returned (.agg #[.int .i64 5, .int .i64 0, .string ⟨#[]⟩, .slice none 0 0, .slice none 0 0]) ∧ w' = w.alloc (Obj.cells #[.int .i64 5, .int .i64 0, .string ⟨#[]⟩, .slice none 0 0, .slice none 0 0] 25) := by
  go_enter Try.func13, Try.ntmps13
  go_wp2
  refine bodyPost_ret (v := .agg #[.int .i64 5, .int .i64 0, .string ⟨#[]⟩, .slice none 0 0, .slice none 0 0]) (by simp [results, Try.results13, go_sem]) rfl ?_
  exact ⟨rfl, rfl⟩
end Go.Proofs.Ytgeamhmenmomhaa.A
