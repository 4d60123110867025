/- The law of FilePath under the name that its row takes. -/
import Derived.Test.YtklbghadhneejaaDoorVolL
import Derived.Test.YtklbghadhneejaaDoorLaw
namespace Go.Proofs.YtklbghadhneejaaDoor.L
set_option linter.unusedVariables false
set_option linter.unusedSimpArgs false
set_option linter.unusedSectionVars false
open Go.RowKit
theorem law_FilePath (s : ByteArray) (w : World) : Calls Tryd.prog 4 #[.string s] w fun e w' => e = .returned (.bool true) ∧ Below w.heap.size w w' := V.law_FnFilePath s w
end Go.Proofs.YtklbghadhneejaaDoor.L
