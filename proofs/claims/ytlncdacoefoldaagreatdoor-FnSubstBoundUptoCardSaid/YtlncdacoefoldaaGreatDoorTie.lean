/-
  DERIVED. GIVEN WITH THE SEED: THE PROGRAM's TIES (one call each: nine closed facts by the kernel) AND EACH ROW's TIE, after the 31st guide's Derived/Test/Toyas{Tie, Card}.lean. No idea stands in it: it is a product of the set-up. Laid BY PROGRAM, IN A SANDBOX (cutbox-door.mjs). By AI agents, Wed Nov 11 2026. No macro, syntax, notation, axiom, sorry.
-/
import Derived.Test.YtlncdacoefoldaaGreatDoorRows
import Derived.LaidByTextLater
import Derived.SevenTiedAt
import Derived.LaidSub
import Derived.LaidOnce
namespace Go.Proofs.YtlncdacoefoldaaGreatDoor
open Go
set_option maxRecDepth 100000
theorem seatTie1 : Tryz.prog.laidByTextLater [("errors.errorType", Rows.laid_errors_errorType), ("pub-shipwright/pub/composego/template.DefaultPattern", Rows.laid_pub_shipwright_pub_composego_template_DefaultPattern)] [.handle, .data] true :=
  Program.laidByTextLater_by_one 21 8 2 (by kernel_rfl) (by kernel_rfl) (by kernel_rfl) (by kernel_rfl) (by kernel_rfl) (by kernel_rfl) (fun _ _ => by kernel_rfl)
theorem noOwnUnsafe : Tryz.pinned.checked.prog.headLifts.contains "ownunsafe" = false := by kernel_rfl
theorem tie : Tryz.prog.laidByTextLater [("errors.errorType", Rows.laid_errors_errorType), ("pub-shipwright/pub/composego/template.DefaultPattern", Rows.laid_pub_shipwright_pub_composego_template_DefaultPattern)] [.handle, .data] true :=
  Program.laidByTextLater.sub seatTie1 ["errors.errorType", "pub-shipwright/pub/composego/template.DefaultPattern"] (by kernel_rfl) (by kernel_rfl)
theorem fnSubstBound_row_tie : Rows.fnSubstBoundRow.laidByTextAt .later Tryz.pinned [.handle, .data] true :=
  OpenClaim.laidByTextAt_later rfl rfl tie noOwnUnsafe
theorem fnSubstChain_row_tie : Rows.fnSubstChainRow.laidByTextAt .later Tryz.pinned [.handle, .data] true :=
  OpenClaim.laidByTextAt_later rfl rfl tie noOwnUnsafe
theorem fnSubstEscaped_row_tie : Rows.fnSubstEscapedRow.laidByTextAt .later Tryz.pinned [.handle, .data] true :=
  OpenClaim.laidByTextAt_later rfl rfl tie noOwnUnsafe
theorem fnSubstJoined_row_tie : Rows.fnSubstJoinedRow.laidByTextAt .later Tryz.pinned [.handle, .data] true :=
  OpenClaim.laidByTextAt_later rfl rfl tie noOwnUnsafe
theorem fnSubstOpen_row_tie : Rows.fnSubstOpenRow.laidByTextAt .later Tryz.pinned [.handle, .data] true :=
  OpenClaim.laidByTextAt_later rfl rfl tie noOwnUnsafe
theorem fnSubstReads_row_tie : Rows.fnSubstReadsRow.laidByTextAt .later Tryz.pinned [.handle, .data] true :=
  OpenClaim.laidByTextAt_later rfl rfl tie noOwnUnsafe
theorem fnPartition_row_tie : Rows.fnPartitionRow.laidByTextAt .later Tryz.pinned [.handle, .data] true :=
  OpenClaim.laidByTextAt_later rfl rfl tie noOwnUnsafe
theorem fnVariablesEscaped_row_tie : Rows.fnVariablesEscapedRow.laidByTextAt .later Tryz.pinned [.handle, .data] true :=
  OpenClaim.laidByTextAt_later rfl rfl tie noOwnUnsafe
theorem fnSubstBoundUpto_row_tie : Rows.fnSubstBoundUptoRow.laidByTextAt .later Tryz.pinned [.handle, .data] true :=
  OpenClaim.laidByTextAt_later rfl rfl tie noOwnUnsafe
theorem fnSubstChainUpto_row_tie : Rows.fnSubstChainUptoRow.laidByTextAt .later Tryz.pinned [.handle, .data] true :=
  OpenClaim.laidByTextAt_later rfl rfl tie noOwnUnsafe
theorem fnSubstEscapedUpto_row_tie : Rows.fnSubstEscapedUptoRow.laidByTextAt .later Tryz.pinned [.handle, .data] true :=
  OpenClaim.laidByTextAt_later rfl rfl tie noOwnUnsafe
theorem fnSubstJoinedUpto_row_tie : Rows.fnSubstJoinedUptoRow.laidByTextAt .later Tryz.pinned [.handle, .data] true :=
  OpenClaim.laidByTextAt_later rfl rfl tie noOwnUnsafe
theorem fnSubstOpenUpto_row_tie : Rows.fnSubstOpenUptoRow.laidByTextAt .later Tryz.pinned [.handle, .data] true :=
  OpenClaim.laidByTextAt_later rfl rfl tie noOwnUnsafe
theorem fnSubstReadsUpto_row_tie : Rows.fnSubstReadsUptoRow.laidByTextAt .later Tryz.pinned [.handle, .data] true :=
  OpenClaim.laidByTextAt_later rfl rfl tie noOwnUnsafe
theorem fnPartitionUpto_row_tie : Rows.fnPartitionUptoRow.laidByTextAt .later Tryz.pinned [.handle, .data] true :=
  OpenClaim.laidByTextAt_later rfl rfl tie noOwnUnsafe
theorem fnVariablesEscapedUpto_row_tie : Rows.fnVariablesEscapedUptoRow.laidByTextAt .later Tryz.pinned [.handle, .data] true :=
  OpenClaim.laidByTextAt_later rfl rfl tie noOwnUnsafe
end Go.Proofs.YtlncdacoefoldaaGreatDoor
