/-
  DERIVED. GIVEN WITH THE SEED: THE CARDS: each row of YtageocibgakhmaaDoorRows.lean that lists a variable, with what it lists TIED to the program's text (the seventh form; the later family's looks); each row that meets fmt, with fmt's text TOLD by the authors' own Lean function (tested against real Go, not proved from fmt's source: count such statements apart). THE CARD IS WHAT COUNTS. Prove the row's statement (the work); the ties are given (YtageocibgakhmaaDoorTie.lean); close each card by the builder's one call (the guide's Derived/Test/ToyasCard.lean, 'card_holds'). Laid BY PROGRAM, IN A SANDBOX (cutbox-door.mjs). By AI agents, Wed Nov 11 2026. No macro, syntax, notation, axiom, sorry.
-/
import Derived.Test.YtageocibgakhmaaDoorRows
import GoSem.ClaimSeven
namespace Go.Proofs.YtageocibgakhmaaDoor
namespace Rows

/-- THE TIED CARD OF 'laws.FnIndexExpose'. -/
def fnIndexExposeCard : Claim7 := { stood := { row := fnIndexExposeRow, standIns := [], harness := (true, "fb7f72024c64f179c86957acc7cefb4aad423b4ac2b5415cda1d23db7cc0442a"), looks := true }, kinds := [], alts := [], laidByText := true, laidKinds := [.data, .data, .data], laidTests := true, laidLooks := .later }
def FnIndexExposeCardSaid : Prop := Claim7.holds Tryd.pinned (.plain (OpenSpec.ofChange fnIndexExposeSpec)) fnIndexExposeCard

/-- THE TIED CARD OF 'laws.FnProjectName'. -/
def fnProjectNameCard : Claim7 := { stood := { row := fnProjectNameRow, standIns := [], harness := (true, "fb7f72024c64f179c86957acc7cefb4aad423b4ac2b5415cda1d23db7cc0442a"), looks := true }, kinds := [], alts := [], laidByText := true, laidKinds := [.data, .pinned, .pinned], laidTests := true, laidLooks := .later }
def FnProjectNameCardSaid : Prop := Claim7.holds Tryd.pinned (.plain (OpenSpec.ofChange fnProjectNameSpec)) fnProjectNameCard

/-- THE TIED CARD OF 'laws.FnVolumeParts'. -/
def fnVolumePartsCard : Claim7 := { stood := { row := fnVolumePartsRow, standIns := [], harness := (true, "fb7f72024c64f179c86957acc7cefb4aad423b4ac2b5415cda1d23db7cc0442a"), looks := true }, kinds := [], alts := [], laidByText := true, laidKinds := [.data, .data, .pinned, .pinned], laidTests := true, laidLooks := .later }
def FnVolumePartsCardSaid : Prop := Claim7.holds Tryd.pinned (.plain (OpenSpec.ofChange fnVolumePartsSpec)) fnVolumePartsCard

/-- THE TIED CARD OF 'laws.FnFilePath'. -/
def fnFilePathCard : Claim7 := { stood := { row := fnFilePathRow, standIns := [], harness := (true, "fb7f72024c64f179c86957acc7cefb4aad423b4ac2b5415cda1d23db7cc0442a"), looks := true }, kinds := [], alts := [], laidByText := true, laidKinds := [.data, .data, .pinned, .pinned], laidTests := true, laidLooks := .later }
def FnFilePathCardSaid : Prop := Claim7.holds Tryd.pinned (.plain (OpenSpec.ofChange fnFilePathSpec)) fnFilePathCard

/-- THE SECOND FORM's CARD OF 'laws.FnIndexExpose'. -/
def fnIndexExposeUptoCard : Claim7 := { stood := { row := fnIndexExposeUptoRow, standIns := [], harness := (true, "fb7f72024c64f179c86957acc7cefb4aad423b4ac2b5415cda1d23db7cc0442a"), looks := true }, kinds := [], alts := [], laidByText := true, laidKinds := [.data, .data, .data], laidTests := true, laidLooks := .later }
def FnIndexExposeUptoCardSaid : Prop := Claim7.holds Tryd.pinned (.plain (OpenSpec.upto fnIndexExposeSpec)) fnIndexExposeUptoCard

/-- THE SECOND FORM's CARD OF 'laws.FnProjectName'. -/
def fnProjectNameUptoCard : Claim7 := { stood := { row := fnProjectNameUptoRow, standIns := [], harness := (true, "fb7f72024c64f179c86957acc7cefb4aad423b4ac2b5415cda1d23db7cc0442a"), looks := true }, kinds := [], alts := [], laidByText := true, laidKinds := [.data, .pinned, .pinned], laidTests := true, laidLooks := .later }
def FnProjectNameUptoCardSaid : Prop := Claim7.holds Tryd.pinned (.plain (OpenSpec.upto fnProjectNameSpec)) fnProjectNameUptoCard

/-- THE SECOND FORM's CARD OF 'laws.FnVolumeParts'. -/
def fnVolumePartsUptoCard : Claim7 := { stood := { row := fnVolumePartsUptoRow, standIns := [], harness := (true, "fb7f72024c64f179c86957acc7cefb4aad423b4ac2b5415cda1d23db7cc0442a"), looks := true }, kinds := [], alts := [], laidByText := true, laidKinds := [.data, .data, .pinned, .pinned], laidTests := true, laidLooks := .later }
def FnVolumePartsUptoCardSaid : Prop := Claim7.holds Tryd.pinned (.plain (OpenSpec.upto fnVolumePartsSpec)) fnVolumePartsUptoCard

/-- THE SECOND FORM's CARD OF 'laws.FnFilePath'. -/
def fnFilePathUptoCard : Claim7 := { stood := { row := fnFilePathUptoRow, standIns := [], harness := (true, "fb7f72024c64f179c86957acc7cefb4aad423b4ac2b5415cda1d23db7cc0442a"), looks := true }, kinds := [], alts := [], laidByText := true, laidKinds := [.data, .data, .pinned, .pinned], laidTests := true, laidLooks := .later }
def FnFilePathUptoCardSaid : Prop := Claim7.holds Tryd.pinned (.plain (OpenSpec.upto fnFilePathSpec)) fnFilePathUptoCard
end Rows
end Go.Proofs.YtageocibgakhmaaDoor
