/-
  DERIVED. GIVEN WITH THE SEED: THE CARDS: each row of YtiamiagjkfioiaaGreatDoorRows.lean that lists a variable, with what it lists TIED to the program's text (the seventh form; the later family's looks); each row that meets fmt, with fmt's text TOLD by the authors' own Lean function (tested against real Go, not proved from fmt's source: count such statements apart). THE CARD IS WHAT COUNTS. Prove the row's statement (the work); the ties are given (YtiamiagjkfioiaaGreatDoorTie.lean); close each card by the builder's one call (the guide's Derived/Test/ToyasCard.lean, 'card_holds'). Laid BY PROGRAM, IN A SANDBOX (cutbox-door.mjs). By AI agents, Wed Nov 11 2026. No macro, syntax, notation, axiom, sorry.
-/
import Derived.Test.YtiamiagjkfioiaaGreatDoorRows
import GoSem.ClaimSeven
namespace Go.Proofs.YtiamiagjkfioiaaGreatDoor
namespace Rows

/-- THE TIED CARD OF 'laws.FnUniqueNamed'. -/
def fnUniqueNamedCard : Claim7 := { stood := { row := fnUniqueNamedRow, standIns := [], harness := (true, "099fb096e239bb19734b2287a572aaf1c89e816c7ccba88b4fabdbfec561af35"), looks := true }, kinds := [], alts := [], laidByText := true, laidKinds := [.data, .data, .data, .data, .data, .pinned, .pinned], laidTests := true, laidLooks := .later }
def FnUniqueNamedCardSaid : Prop := Claim7.holds Tryz.pinned (.plain (OpenSpec.ofChange fnUniqueNamedSpec)) fnUniqueNamedCard

/-- THE TIED CARD OF 'laws.FnMergeAssociates'. -/
def fnMergeAssociatesCard : Claim7 := { stood := { row := fnMergeAssociatesRow, standIns := [], harness := (true, "099fb096e239bb19734b2287a572aaf1c89e816c7ccba88b4fabdbfec561af35"), looks := true }, kinds := [], alts := [], laidByText := true, laidKinds := [.data, .data, .data], laidTests := true, laidLooks := .later }
def FnMergeAssociatesCardSaid : Prop := Claim7.holds Tryz.pinned (.plain (OpenSpec.ofChange fnMergeAssociatesSpec)) fnMergeAssociatesCard

/-- THE TIED CARD OF 'laws.FnMergeApart'. -/
def fnMergeApartCard : Claim7 := { stood := { row := fnMergeApartRow, standIns := [], harness := (true, "099fb096e239bb19734b2287a572aaf1c89e816c7ccba88b4fabdbfec561af35"), looks := true }, kinds := [], alts := [], laidByText := true, laidKinds := [.data, .data, .data], laidTests := true, laidLooks := .later }
def FnMergeApartCardSaid : Prop := Claim7.holds Tryz.pinned (.plain (OpenSpec.ofChange fnMergeApartSpec)) fnMergeApartCard

/-- THE TIED CARD OF 'laws.FnMergeUnlike'. -/
def fnMergeUnlikeCard : Claim7 := { stood := { row := fnMergeUnlikeRow, standIns := [], harness := (true, "099fb096e239bb19734b2287a572aaf1c89e816c7ccba88b4fabdbfec561af35"), looks := true }, kinds := [], alts := [], laidByText := true, laidKinds := [.data, .data, .data], laidTests := true, laidLooks := .later }
def FnMergeUnlikeCardSaid : Prop := Claim7.holds Tryz.pinned (.plain (OpenSpec.ofChange fnMergeUnlikeSpec)) fnMergeUnlikeCard

/-- THE SECOND FORM's CARD OF 'laws.FnUniqueNamed'. -/
def fnUniqueNamedUptoCard : Claim7 := { stood := { row := fnUniqueNamedUptoRow, standIns := [], harness := (true, "099fb096e239bb19734b2287a572aaf1c89e816c7ccba88b4fabdbfec561af35"), looks := true }, kinds := [], alts := [], laidByText := true, laidKinds := [.data, .data, .data, .data, .data, .pinned, .pinned], laidTests := true, laidLooks := .later }
def FnUniqueNamedUptoCardSaid : Prop := Claim7.holds Tryz.pinned (.plain (OpenSpec.upto fnUniqueNamedSpec)) fnUniqueNamedUptoCard

/-- THE SECOND FORM's CARD OF 'laws.FnMergeAssociates'. -/
def fnMergeAssociatesUptoCard : Claim7 := { stood := { row := fnMergeAssociatesUptoRow, standIns := [], harness := (true, "099fb096e239bb19734b2287a572aaf1c89e816c7ccba88b4fabdbfec561af35"), looks := true }, kinds := [], alts := [], laidByText := true, laidKinds := [.data, .data, .data], laidTests := true, laidLooks := .later }
def FnMergeAssociatesUptoCardSaid : Prop := Claim7.holds Tryz.pinned (.plain (OpenSpec.upto fnMergeAssociatesSpec)) fnMergeAssociatesUptoCard

/-- THE SECOND FORM's CARD OF 'laws.FnMergeApart'. -/
def fnMergeApartUptoCard : Claim7 := { stood := { row := fnMergeApartUptoRow, standIns := [], harness := (true, "099fb096e239bb19734b2287a572aaf1c89e816c7ccba88b4fabdbfec561af35"), looks := true }, kinds := [], alts := [], laidByText := true, laidKinds := [.data, .data, .data], laidTests := true, laidLooks := .later }
def FnMergeApartUptoCardSaid : Prop := Claim7.holds Tryz.pinned (.plain (OpenSpec.upto fnMergeApartSpec)) fnMergeApartUptoCard

/-- THE SECOND FORM's CARD OF 'laws.FnMergeUnlike'. -/
def fnMergeUnlikeUptoCard : Claim7 := { stood := { row := fnMergeUnlikeUptoRow, standIns := [], harness := (true, "099fb096e239bb19734b2287a572aaf1c89e816c7ccba88b4fabdbfec561af35"), looks := true }, kinds := [], alts := [], laidByText := true, laidKinds := [.data, .data, .data], laidTests := true, laidLooks := .later }
def FnMergeUnlikeUptoCardSaid : Prop := Claim7.holds Tryz.pinned (.plain (OpenSpec.upto fnMergeUnlikeSpec)) fnMergeUnlikeUptoCard
end Rows
end Go.Proofs.YtiamiagjkfioiaaGreatDoor
