/-
  DERIVED. GIVEN WITH THE SEED: THE CARDS: each row of YtcocmdbleicmcaaGreatDoorRows.lean that lists a variable, with what it lists TIED to the program's text (the seventh form; the later family's looks); each row that meets fmt, with fmt's text TOLD by the authors' own Lean function (tested against real Go, not proved from fmt's source: count such statements apart). THE CARD IS WHAT COUNTS. Prove the row's statement (the work); the ties are given (YtcocmdbleicmcaaGreatDoorTie.lean); close each card by the builder's one call (the guide's Derived/Test/ToyasCard.lean, 'card_holds'). Laid BY PROGRAM, IN A SANDBOX (cutbox-door.mjs). By AI agents, Wed Nov 11 2026. No macro, syntax, notation, axiom, sorry.
-/
import Derived.Test.YtcocmdbleicmcaaGreatDoorRows
import GoSem.ClaimSeven
namespace Go.Proofs.YtcocmdbleicmcaaGreatDoor
namespace Rows

/-- THE TIED CARD OF 'laws.FnDistinct'. -/
def fnDistinctCard : Claim7 := { stood := { row := fnDistinctRow, standIns := [], harness := (true, "dba7180a7a5641f14904de9d32a2d6dea7fd3683465a110eea6f87bd1017689c"), looks := true }, kinds := [], alts := [], laidByText := true, laidKinds := [.data, .data, .data, .data, .sentinel, .sentinel, .listed, .data, .pinned, .pinned], laidTests := true, laidLooks := .later }
def FnDistinctCardSaid : Prop := Claim7.holds Tryz.pinned (.plain (OpenSpec.ofChange fnDistinctSpec)) fnDistinctCard

/-- THE TIED CARD OF 'laws.FnMappingEquals'. -/
def fnMappingEqualsCard : Claim7 := { stood := { row := fnMappingEqualsRow, standIns := [], harness := (true, "dba7180a7a5641f14904de9d32a2d6dea7fd3683465a110eea6f87bd1017689c"), looks := true }, kinds := [], alts := [], laidByText := true, laidKinds := [.data, .data, .data, .data, .sentinel, .sentinel, .listed, .data, .pinned, .pinned], laidTests := true, laidLooks := .later }
def FnMappingEqualsCardSaid : Prop := Claim7.holds Tryz.pinned (.plain (OpenSpec.ofChange fnMappingEqualsSpec)) fnMappingEqualsCard

/-- THE TIED CARD OF 'laws.FnMappingMerge'. -/
def fnMappingMergeCard : Claim7 := { stood := { row := fnMappingMergeRow, standIns := [], harness := (true, "dba7180a7a5641f14904de9d32a2d6dea7fd3683465a110eea6f87bd1017689c"), looks := true }, kinds := [], alts := [], laidByText := true, laidKinds := [.data, .data, .data, .data, .sentinel, .sentinel, .listed, .data, .pinned, .pinned], laidTests := true, laidLooks := .later }
def FnMappingMergeCardSaid : Prop := Claim7.holds Tryz.pinned (.plain (OpenSpec.ofChange fnMappingMergeSpec)) fnMappingMergeCard

/-- THE TIED CARD OF 'laws.FnEqualsOverride'. -/
def fnEqualsOverrideCard : Claim7 := { stood := { row := fnEqualsOverrideRow, standIns := [], harness := (true, "dba7180a7a5641f14904de9d32a2d6dea7fd3683465a110eea6f87bd1017689c"), looks := true }, kinds := [], alts := [], laidByText := true, laidKinds := [.data, .data, .data, .data, .sentinel, .sentinel, .listed, .data, .pinned, .pinned], laidTests := true, laidLooks := .later }
def FnEqualsOverrideCardSaid : Prop := Claim7.holds Tryz.pinned (.plain (OpenSpec.ofChange fnEqualsOverrideSpec)) fnEqualsOverrideCard

/-- THE TIED CARD OF 'laws.FnEqualsMapped'. -/
def fnEqualsMappedCard : Claim7 := { stood := { row := fnEqualsMappedRow, standIns := [], harness := (true, "dba7180a7a5641f14904de9d32a2d6dea7fd3683465a110eea6f87bd1017689c"), looks := true }, kinds := [], alts := [], laidByText := true, laidKinds := [.data, .data, .data, .data, .sentinel, .sentinel, .listed, .data, .pinned, .pinned], laidTests := true, laidLooks := .later }
def FnEqualsMappedCardSaid : Prop := Claim7.holds Tryz.pinned (.plain (OpenSpec.ofChange fnEqualsMappedSpec)) fnEqualsMappedCard

/-- THE TIED CARD OF 'laws.FnEqualsMap'. -/
def fnEqualsMapCard : Claim7 := { stood := { row := fnEqualsMapRow, standIns := [], harness := (true, "dba7180a7a5641f14904de9d32a2d6dea7fd3683465a110eea6f87bd1017689c"), looks := true }, kinds := [], alts := [], laidByText := true, laidKinds := [.data, .data, .data, .data, .sentinel, .sentinel, .listed, .data, .pinned, .pinned], laidTests := true, laidLooks := .later }
def FnEqualsMapCardSaid : Prop := Claim7.holds Tryz.pinned (.plain (OpenSpec.ofChange fnEqualsMapSpec)) fnEqualsMapCard

/-- THE TIED CARD OF 'laws.FnSets'. -/
def fnSetsCard : Claim7 := { stood := { row := fnSetsRow, standIns := [], harness := (true, "dba7180a7a5641f14904de9d32a2d6dea7fd3683465a110eea6f87bd1017689c"), looks := true }, kinds := [], alts := [], laidByText := true, laidKinds := [.data, .data, .data, .data, .sentinel, .sentinel, .listed, .data, .pinned, .pinned], laidTests := true, laidLooks := .later }
def FnSetsCardSaid : Prop := Claim7.holds Tryz.pinned (.plain (OpenSpec.ofChange fnSetsSpec)) fnSetsCard

/-- THE TIED CARD OF 'laws.FnHosts'. -/
def fnHostsCard : Claim7 := { stood := { row := fnHostsRow, standIns := [], harness := (true, "dba7180a7a5641f14904de9d32a2d6dea7fd3683465a110eea6f87bd1017689c"), looks := true }, kinds := [], alts := [], laidByText := true, laidKinds := [.data, .data, .data, .data, .sentinel, .sentinel, .listed, .data, .pinned, .pinned], laidTests := true, laidLooks := .later }
def FnHostsCardSaid : Prop := Claim7.holds Tryz.pinned (.plain (OpenSpec.ofChange fnHostsSpec)) fnHostsCard

/-- THE SECOND FORM's CARD OF 'laws.FnDistinct'. -/
def fnDistinctUptoCard : Claim7 := { stood := { row := fnDistinctUptoRow, standIns := [], harness := (true, "dba7180a7a5641f14904de9d32a2d6dea7fd3683465a110eea6f87bd1017689c"), looks := true }, kinds := [], alts := [], laidByText := true, laidKinds := [.data, .data, .data, .data, .sentinel, .sentinel, .listed, .data, .pinned, .pinned], laidTests := true, laidLooks := .later }
def FnDistinctUptoCardSaid : Prop := Claim7.holds Tryz.pinned (.plain (OpenSpec.upto fnDistinctSpec)) fnDistinctUptoCard

/-- THE SECOND FORM's CARD OF 'laws.FnMappingEquals'. -/
def fnMappingEqualsUptoCard : Claim7 := { stood := { row := fnMappingEqualsUptoRow, standIns := [], harness := (true, "dba7180a7a5641f14904de9d32a2d6dea7fd3683465a110eea6f87bd1017689c"), looks := true }, kinds := [], alts := [], laidByText := true, laidKinds := [.data, .data, .data, .data, .sentinel, .sentinel, .listed, .data, .pinned, .pinned], laidTests := true, laidLooks := .later }
def FnMappingEqualsUptoCardSaid : Prop := Claim7.holds Tryz.pinned (.plain (OpenSpec.upto fnMappingEqualsSpec)) fnMappingEqualsUptoCard

/-- THE SECOND FORM's CARD OF 'laws.FnMappingMerge'. -/
def fnMappingMergeUptoCard : Claim7 := { stood := { row := fnMappingMergeUptoRow, standIns := [], harness := (true, "dba7180a7a5641f14904de9d32a2d6dea7fd3683465a110eea6f87bd1017689c"), looks := true }, kinds := [], alts := [], laidByText := true, laidKinds := [.data, .data, .data, .data, .sentinel, .sentinel, .listed, .data, .pinned, .pinned], laidTests := true, laidLooks := .later }
def FnMappingMergeUptoCardSaid : Prop := Claim7.holds Tryz.pinned (.plain (OpenSpec.upto fnMappingMergeSpec)) fnMappingMergeUptoCard

/-- THE SECOND FORM's CARD OF 'laws.FnEqualsOverride'. -/
def fnEqualsOverrideUptoCard : Claim7 := { stood := { row := fnEqualsOverrideUptoRow, standIns := [], harness := (true, "dba7180a7a5641f14904de9d32a2d6dea7fd3683465a110eea6f87bd1017689c"), looks := true }, kinds := [], alts := [], laidByText := true, laidKinds := [.data, .data, .data, .data, .sentinel, .sentinel, .listed, .data, .pinned, .pinned], laidTests := true, laidLooks := .later }
def FnEqualsOverrideUptoCardSaid : Prop := Claim7.holds Tryz.pinned (.plain (OpenSpec.upto fnEqualsOverrideSpec)) fnEqualsOverrideUptoCard

/-- THE SECOND FORM's CARD OF 'laws.FnEqualsMapped'. -/
def fnEqualsMappedUptoCard : Claim7 := { stood := { row := fnEqualsMappedUptoRow, standIns := [], harness := (true, "dba7180a7a5641f14904de9d32a2d6dea7fd3683465a110eea6f87bd1017689c"), looks := true }, kinds := [], alts := [], laidByText := true, laidKinds := [.data, .data, .data, .data, .sentinel, .sentinel, .listed, .data, .pinned, .pinned], laidTests := true, laidLooks := .later }
def FnEqualsMappedUptoCardSaid : Prop := Claim7.holds Tryz.pinned (.plain (OpenSpec.upto fnEqualsMappedSpec)) fnEqualsMappedUptoCard

/-- THE SECOND FORM's CARD OF 'laws.FnEqualsMap'. -/
def fnEqualsMapUptoCard : Claim7 := { stood := { row := fnEqualsMapUptoRow, standIns := [], harness := (true, "dba7180a7a5641f14904de9d32a2d6dea7fd3683465a110eea6f87bd1017689c"), looks := true }, kinds := [], alts := [], laidByText := true, laidKinds := [.data, .data, .data, .data, .sentinel, .sentinel, .listed, .data, .pinned, .pinned], laidTests := true, laidLooks := .later }
def FnEqualsMapUptoCardSaid : Prop := Claim7.holds Tryz.pinned (.plain (OpenSpec.upto fnEqualsMapSpec)) fnEqualsMapUptoCard

/-- THE SECOND FORM's CARD OF 'laws.FnSets'. -/
def fnSetsUptoCard : Claim7 := { stood := { row := fnSetsUptoRow, standIns := [], harness := (true, "dba7180a7a5641f14904de9d32a2d6dea7fd3683465a110eea6f87bd1017689c"), looks := true }, kinds := [], alts := [], laidByText := true, laidKinds := [.data, .data, .data, .data, .sentinel, .sentinel, .listed, .data, .pinned, .pinned], laidTests := true, laidLooks := .later }
def FnSetsUptoCardSaid : Prop := Claim7.holds Tryz.pinned (.plain (OpenSpec.upto fnSetsSpec)) fnSetsUptoCard

/-- THE SECOND FORM's CARD OF 'laws.FnHosts'. -/
def fnHostsUptoCard : Claim7 := { stood := { row := fnHostsUptoRow, standIns := [], harness := (true, "dba7180a7a5641f14904de9d32a2d6dea7fd3683465a110eea6f87bd1017689c"), looks := true }, kinds := [], alts := [], laidByText := true, laidKinds := [.data, .data, .data, .data, .sentinel, .sentinel, .listed, .data, .pinned, .pinned], laidTests := true, laidLooks := .later }
def FnHostsUptoCardSaid : Prop := Claim7.holds Tryz.pinned (.plain (OpenSpec.upto fnHostsSpec)) fnHostsUptoCard
end Rows
end Go.Proofs.YtcocmdbleicmcaaGreatDoor
