/- Plain: the printed functions of the statements on substitution that turn a text (SubstDouble, substBare, SubstName, SubstPlain), as lists of bytes tell them. -/
import Derived.Test.YtlncdacoefoldaaGreatDoorPXx5
import Derived.Test.YtlncdacoefoldaaGreatDoorSubB
import Derived.Test.YtlncdacoefoldaaGreatDoorSubE
import Derived.Test.YtlncdacoefoldaaGreatDoorBytes
namespace Go.Proofs.YtlncdacoefoldaaGreatDoor.U
set_option linter.unusedVariables false
set_option linter.unusedSimpArgs false
set_option linter.unusedSectionVars false
open Go.RowKit Go.Proofs.YtlncdacoefoldaaGreatDoorW.PrintWords Go.Proofs.YtlncdacoefoldaaGreatDoorW.PrintLast Go.Proofs.YtlncdacoefoldaaGreatDoor.PX Go.Proofs.YtlncdacoefoldaaGreatDoor.L

def nm (l : Bs) : List Int := l.map (fun c => (c.toNat : Int))
theorem q10 (c : UInt8) : ((c.toNat : Int) = 10) ↔ c = 10 := by rw [u8]; show _ ↔ c.toNat = 10; omega
/-! ### a name -/
end Go.Proofs.YtlncdacoefoldaaGreatDoor.U
