/-
  DERIVED. GIVEN WITH THE SEED: THE CARDS: each row of YtklbghadhneejaaDoorRows.lean that lists a variable, with what it lists TIED to the program's text (the seventh form; the later family's looks); each row that meets fmt, with fmt's text TOLD by the authors' own Lean function (tested against real Go, not proved from fmt's source: count such statements apart). THE CARD IS WHAT COUNTS. Prove the row's statement (the work); the ties are given (YtklbghadhneejaaDoorTie.lean); close each card by the builder's one call (the guide's Derived/Test/ToyasCard.lean, 'card_holds'). Laid BY PROGRAM, IN A SANDBOX (cutbox-door.mjs). By AI agents, Wed Nov 11 2026. No macro, syntax, notation, axiom, sorry.
-/
import Derived.Test.YtklbghadhneejaaDoorRows
import GoSem.ClaimSeven
namespace Go.Proofs.YtklbghadhneejaaDoor
namespace Rows

/-- THE TIED CARD OF 'laws.FnVolumeParts'. -/
def fnVolumePartsCard : Claim7 := { stood := { row := fnVolumePartsRow, standIns := [], harness := (true, "f2ac9d2850a07fad9a7506e57616df89784b896e6758d4472429b1e35e9381ab"), looks := false }, kinds := [], alts := [], laidByText := true, laidKinds := [.data, .data, .pinned, .pinned], laidTests := true, laidLooks := .later }
def FnVolumePartsCardSaid : Prop := Claim7.holds Tryd.pinned (.plain (OpenSpec.ofChange fnVolumePartsSpec)) fnVolumePartsCard

/-- THE TIED CARD OF 'laws.FnFilePath'. -/
def fnFilePathCard : Claim7 := { stood := { row := fnFilePathRow, standIns := [], harness := (true, "f2ac9d2850a07fad9a7506e57616df89784b896e6758d4472429b1e35e9381ab"), looks := false }, kinds := [], alts := [], laidByText := true, laidKinds := [.data, .data, .pinned, .pinned], laidTests := true, laidLooks := .later }
def FnFilePathCardSaid : Prop := Claim7.holds Tryd.pinned (.plain (OpenSpec.ofChange fnFilePathSpec)) fnFilePathCard

/-- THE SECOND FORM's CARD OF 'laws.FnVolumeParts'. -/
def fnVolumePartsUptoCard : Claim7 := { stood := { row := fnVolumePartsUptoRow, standIns := [], harness := (true, "f2ac9d2850a07fad9a7506e57616df89784b896e6758d4472429b1e35e9381ab"), looks := false }, kinds := [], alts := [], laidByText := true, laidKinds := [.data, .data, .pinned, .pinned], laidTests := true, laidLooks := .later }
def FnVolumePartsUptoCardSaid : Prop := Claim7.holds Tryd.pinned (.plain (OpenSpec.upto fnVolumePartsSpec)) fnVolumePartsUptoCard

/-- THE SECOND FORM's CARD OF 'laws.FnFilePath'. -/
def fnFilePathUptoCard : Claim7 := { stood := { row := fnFilePathUptoRow, standIns := [], harness := (true, "f2ac9d2850a07fad9a7506e57616df89784b896e6758d4472429b1e35e9381ab"), looks := false }, kinds := [], alts := [], laidByText := true, laidKinds := [.data, .data, .pinned, .pinned], laidTests := true, laidLooks := .later }
def FnFilePathUptoCardSaid : Prop := Claim7.holds Tryd.pinned (.plain (OpenSpec.upto fnFilePathSpec)) fnFilePathUptoCard
end Rows
end Go.Proofs.YtklbghadhneejaaDoor
