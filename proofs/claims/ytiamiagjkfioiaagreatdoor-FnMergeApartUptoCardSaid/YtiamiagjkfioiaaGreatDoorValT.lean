/- A text as a value of a configuration. -/
import Derived.Test.YtiamiagjkfioiaaGreatDoorRows
import Derived.Test.YtiamiagjkfioiaaGreatDoorL
namespace Go.Proofs.YtiamiagjkfioiaaGreatDoor.L
set_option linter.unusedVariables false
set_option linter.unusedSimpArgs false
set_option linter.unusedSectionVars false
open Go.RowKit

def valT (s : ByteArray) : Value := .agg #[.int .i64 3, .int .i64 0, .string s, .slice none 0 0, .slice none 0 0]

theorem spec_T_at (s : ByteArray) (w : World) :
    Calls Tryz.prog 26 #[.string s] w fun e w' => e = .returned (valT s) ∧ w' = w.alloc (Obj.cells #[.int .i64 3, .int .i64 0, .string s, .slice none 0 0, .slice none 0 0] 26) := by
  go_enter Tryz.func26, Tryz.ntmps26
  go_wp2
  refine bodyPost_ret (v := valT s) (by simp [results, Tryz.results26, go_sem]; rfl) rfl ?_
  exact ⟨rfl, rfl⟩
theorem spec_T (s : ByteArray) (w : World) :
    Calls Tryz.prog 26 #[.string s] w fun e w' => e = .returned (valT s) ∧ Below w.heap.size w w' := by
  refine (spec_T_at s w).mono ?_
  rintro e w' ⟨rfl, rfl⟩
  exact ⟨rfl, (Below.refl _ _).alloc (Nat.le_refl _) _⟩

end Go.Proofs.YtiamiagjkfioiaaGreatDoor.L
