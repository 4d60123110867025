/-
  DERIVED. GIVEN WITH THE SEED: THE CARDS: each row of YtlncdacoefoldaaGreatDoorRows.lean that lists a variable, with what it lists TIED to the program's text (the seventh form; the later family's looks); each row that meets fmt, with fmt's text TOLD by the authors' own Lean function (tested against real Go, not proved from fmt's source: count such statements apart). THE CARD IS WHAT COUNTS. Prove the row's statement (the work); the ties are given (YtlncdacoefoldaaGreatDoorTie.lean); close each card by the builder's one call (the guide's Derived/Test/ToyasCard.lean, 'card_holds'). Laid BY PROGRAM, IN A SANDBOX (cutbox-door.mjs). By AI agents, Wed Nov 11 2026. No macro, syntax, notation, axiom, sorry.
-/
import Derived.Test.YtlncdacoefoldaaGreatDoorRows
import GoSem.ClaimSeven
namespace Go.Proofs.YtlncdacoefoldaaGreatDoor
namespace Rows

/-- THE TIED CARD OF 'laws.FnSubstBound'. -/
def fnSubstBoundCard : Claim7 := { stood := { row := fnSubstBoundRow, standIns := [], harness := (true, "da520d0b472d6291af804e5c38f84bfc656a6a29fab179e9dde677b4c3dd4000"), looks := true }, kinds := [], alts := [], laidByText := true, laidKinds := [.handle, .data], laidTests := true, laidLooks := .later }
def FnSubstBoundCardSaid : Prop := Claim7.holds Tryz.pinned (.plain (OpenSpec.ofChange fnSubstBoundSpec)) fnSubstBoundCard

/-- THE TIED CARD OF 'laws.FnSubstChain'. -/
def fnSubstChainCard : Claim7 := { stood := { row := fnSubstChainRow, standIns := [], harness := (true, "da520d0b472d6291af804e5c38f84bfc656a6a29fab179e9dde677b4c3dd4000"), looks := true }, kinds := [], alts := [], laidByText := true, laidKinds := [.handle, .data], laidTests := true, laidLooks := .later }
def FnSubstChainCardSaid : Prop := Claim7.holds Tryz.pinned (.plain (OpenSpec.ofChange fnSubstChainSpec)) fnSubstChainCard

/-- THE TIED CARD OF 'laws.FnSubstEscaped'. -/
def fnSubstEscapedCard : Claim7 := { stood := { row := fnSubstEscapedRow, standIns := [], harness := (true, "da520d0b472d6291af804e5c38f84bfc656a6a29fab179e9dde677b4c3dd4000"), looks := true }, kinds := [], alts := [], laidByText := true, laidKinds := [.handle, .data], laidTests := true, laidLooks := .later }
def FnSubstEscapedCardSaid : Prop := Claim7.holds Tryz.pinned (.plain (OpenSpec.ofChange fnSubstEscapedSpec)) fnSubstEscapedCard

/-- THE TIED CARD OF 'laws.FnSubstJoined'. -/
def fnSubstJoinedCard : Claim7 := { stood := { row := fnSubstJoinedRow, standIns := [], harness := (true, "da520d0b472d6291af804e5c38f84bfc656a6a29fab179e9dde677b4c3dd4000"), looks := true }, kinds := [], alts := [], laidByText := true, laidKinds := [.handle, .data], laidTests := true, laidLooks := .later }
def FnSubstJoinedCardSaid : Prop := Claim7.holds Tryz.pinned (.plain (OpenSpec.ofChange fnSubstJoinedSpec)) fnSubstJoinedCard

/-- THE TIED CARD OF 'laws.FnSubstOpen'. -/
def fnSubstOpenCard : Claim7 := { stood := { row := fnSubstOpenRow, standIns := [], harness := (true, "da520d0b472d6291af804e5c38f84bfc656a6a29fab179e9dde677b4c3dd4000"), looks := true }, kinds := [], alts := [], laidByText := true, laidKinds := [.handle, .data], laidTests := true, laidLooks := .later }
def FnSubstOpenCardSaid : Prop := Claim7.holds Tryz.pinned (.plain (OpenSpec.ofChange fnSubstOpenSpec)) fnSubstOpenCard

/-- THE TIED CARD OF 'laws.FnSubstReads'. -/
def fnSubstReadsCard : Claim7 := { stood := { row := fnSubstReadsRow, standIns := [], harness := (true, "da520d0b472d6291af804e5c38f84bfc656a6a29fab179e9dde677b4c3dd4000"), looks := true }, kinds := [], alts := [], laidByText := true, laidKinds := [.handle, .data], laidTests := true, laidLooks := .later }
def FnSubstReadsCardSaid : Prop := Claim7.holds Tryz.pinned (.plain (OpenSpec.ofChange fnSubstReadsSpec)) fnSubstReadsCard

/-- THE TIED CARD OF 'laws.FnPartition'. -/
def fnPartitionCard : Claim7 := { stood := { row := fnPartitionRow, standIns := [], harness := (true, "da520d0b472d6291af804e5c38f84bfc656a6a29fab179e9dde677b4c3dd4000"), looks := true }, kinds := [], alts := [], laidByText := true, laidKinds := [.handle, .data], laidTests := true, laidLooks := .later }
def FnPartitionCardSaid : Prop := Claim7.holds Tryz.pinned (.plain (OpenSpec.ofChange fnPartitionSpec)) fnPartitionCard

/-- THE TIED CARD OF 'laws.FnVariablesEscaped'. -/
def fnVariablesEscapedCard : Claim7 := { stood := { row := fnVariablesEscapedRow, standIns := [], harness := (true, "da520d0b472d6291af804e5c38f84bfc656a6a29fab179e9dde677b4c3dd4000"), looks := true }, kinds := [], alts := [], laidByText := true, laidKinds := [.handle, .data], laidTests := true, laidLooks := .later }
def FnVariablesEscapedCardSaid : Prop := Claim7.holds Tryz.pinned (.plain (OpenSpec.ofChange fnVariablesEscapedSpec)) fnVariablesEscapedCard

/-- THE SECOND FORM's CARD OF 'laws.FnSubstBound'. -/
def fnSubstBoundUptoCard : Claim7 := { stood := { row := fnSubstBoundUptoRow, standIns := [], harness := (true, "da520d0b472d6291af804e5c38f84bfc656a6a29fab179e9dde677b4c3dd4000"), looks := true }, kinds := [], alts := [], laidByText := true, laidKinds := [.handle, .data], laidTests := true, laidLooks := .later }
def FnSubstBoundUptoCardSaid : Prop := Claim7.holds Tryz.pinned (.plain (OpenSpec.upto fnSubstBoundSpec)) fnSubstBoundUptoCard

/-- THE SECOND FORM's CARD OF 'laws.FnSubstChain'. -/
def fnSubstChainUptoCard : Claim7 := { stood := { row := fnSubstChainUptoRow, standIns := [], harness := (true, "da520d0b472d6291af804e5c38f84bfc656a6a29fab179e9dde677b4c3dd4000"), looks := true }, kinds := [], alts := [], laidByText := true, laidKinds := [.handle, .data], laidTests := true, laidLooks := .later }
def FnSubstChainUptoCardSaid : Prop := Claim7.holds Tryz.pinned (.plain (OpenSpec.upto fnSubstChainSpec)) fnSubstChainUptoCard

/-- THE SECOND FORM's CARD OF 'laws.FnSubstEscaped'. -/
def fnSubstEscapedUptoCard : Claim7 := { stood := { row := fnSubstEscapedUptoRow, standIns := [], harness := (true, "da520d0b472d6291af804e5c38f84bfc656a6a29fab179e9dde677b4c3dd4000"), looks := true }, kinds := [], alts := [], laidByText := true, laidKinds := [.handle, .data], laidTests := true, laidLooks := .later }
def FnSubstEscapedUptoCardSaid : Prop := Claim7.holds Tryz.pinned (.plain (OpenSpec.upto fnSubstEscapedSpec)) fnSubstEscapedUptoCard

/-- THE SECOND FORM's CARD OF 'laws.FnSubstJoined'. -/
def fnSubstJoinedUptoCard : Claim7 := { stood := { row := fnSubstJoinedUptoRow, standIns := [], harness := (true, "da520d0b472d6291af804e5c38f84bfc656a6a29fab179e9dde677b4c3dd4000"), looks := true }, kinds := [], alts := [], laidByText := true, laidKinds := [.handle, .data], laidTests := true, laidLooks := .later }
def FnSubstJoinedUptoCardSaid : Prop := Claim7.holds Tryz.pinned (.plain (OpenSpec.upto fnSubstJoinedSpec)) fnSubstJoinedUptoCard

/-- THE SECOND FORM's CARD OF 'laws.FnSubstOpen'. -/
def fnSubstOpenUptoCard : Claim7 := { stood := { row := fnSubstOpenUptoRow, standIns := [], harness := (true, "da520d0b472d6291af804e5c38f84bfc656a6a29fab179e9dde677b4c3dd4000"), looks := true }, kinds := [], alts := [], laidByText := true, laidKinds := [.handle, .data], laidTests := true, laidLooks := .later }
def FnSubstOpenUptoCardSaid : Prop := Claim7.holds Tryz.pinned (.plain (OpenSpec.upto fnSubstOpenSpec)) fnSubstOpenUptoCard

/-- THE SECOND FORM's CARD OF 'laws.FnSubstReads'. -/
def fnSubstReadsUptoCard : Claim7 := { stood := { row := fnSubstReadsUptoRow, standIns := [], harness := (true, "da520d0b472d6291af804e5c38f84bfc656a6a29fab179e9dde677b4c3dd4000"), looks := true }, kinds := [], alts := [], laidByText := true, laidKinds := [.handle, .data], laidTests := true, laidLooks := .later }
def FnSubstReadsUptoCardSaid : Prop := Claim7.holds Tryz.pinned (.plain (OpenSpec.upto fnSubstReadsSpec)) fnSubstReadsUptoCard

/-- THE SECOND FORM's CARD OF 'laws.FnPartition'. -/
def fnPartitionUptoCard : Claim7 := { stood := { row := fnPartitionUptoRow, standIns := [], harness := (true, "da520d0b472d6291af804e5c38f84bfc656a6a29fab179e9dde677b4c3dd4000"), looks := true }, kinds := [], alts := [], laidByText := true, laidKinds := [.handle, .data], laidTests := true, laidLooks := .later }
def FnPartitionUptoCardSaid : Prop := Claim7.holds Tryz.pinned (.plain (OpenSpec.upto fnPartitionSpec)) fnPartitionUptoCard

/-- THE SECOND FORM's CARD OF 'laws.FnVariablesEscaped'. -/
def fnVariablesEscapedUptoCard : Claim7 := { stood := { row := fnVariablesEscapedUptoRow, standIns := [], harness := (true, "da520d0b472d6291af804e5c38f84bfc656a6a29fab179e9dde677b4c3dd4000"), looks := true }, kinds := [], alts := [], laidByText := true, laidKinds := [.handle, .data], laidTests := true, laidLooks := .later }
def FnVariablesEscapedUptoCardSaid : Prop := Claim7.holds Tryz.pinned (.plain (OpenSpec.upto fnVariablesEscapedSpec)) fnVariablesEscapedUptoCard
end Rows
end Go.Proofs.YtlncdacoefoldaaGreatDoor
