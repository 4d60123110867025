/-
  DERIVED. GIVEN WITH THE SEED: THE CARDS: each row of YtadcdjiahekkgaaDoorRows.lean that lists a variable, with what it lists TIED to the program's text (the seventh form; the later family's looks); each row that meets fmt, with fmt's text TOLD by the authors' own Lean function (tested against real Go, not proved from fmt's source: count such statements apart). THE CARD IS WHAT COUNTS. Prove the row's statement (the work); the ties are given (YtadcdjiahekkgaaDoorTie.lean); close each card by the builder's one call (the guide's Derived/Test/ToyasCard.lean, 'card_holds'). Laid BY PROGRAM, IN A SANDBOX (cutbox-door.mjs). By AI agents, Wed Nov 11 2026. No macro, syntax, notation, axiom, sorry.
-/
import Derived.Test.YtadcdjiahekkgaaDoorRows
import GoSem.ClaimSeven
namespace Go.Proofs.YtadcdjiahekkgaaDoor
namespace Rows

/-- THE TIED CARD OF 'laws.FnOmitTwice'. -/
def fnOmitTwiceCard : Claim7 := { stood := { row := fnOmitTwiceRow, standIns := [], harness := (true, "ae8eceacde2d77ad62c623d886f6e00d6680deb30de5f2117aeb5e1006bbe58c"), looks := true }, kinds := [], alts := [], laidByText := true, laidKinds := [.data, .pinned, .pinned], laidTests := true, laidLooks := .later }
def FnOmitTwiceCardSaid : Prop := Claim7.holds Tryd.pinned (.plain (OpenSpec.ofChange fnOmitTwiceSpec)) fnOmitTwiceCard

/-- THE TIED CARD OF 'laws.FnResolveOne'. -/
def fnResolveOneCard : Claim7 := { stood := { row := fnResolveOneRow, standIns := [], harness := (true, "ae8eceacde2d77ad62c623d886f6e00d6680deb30de5f2117aeb5e1006bbe58c"), looks := true }, kinds := [], alts := [], laidByText := true, laidKinds := [.data, .pinned, .pinned], laidTests := true, laidLooks := .later }
def FnResolveOneCardSaid : Prop := Claim7.holds Tryd.pinned (.plain (OpenSpec.ofChange fnResolveOneSpec)) fnResolveOneCard

/-- THE TIED CARD OF 'laws.FnResolveEnvironment'. -/
def fnResolveEnvironmentCard : Claim7 := { stood := { row := fnResolveEnvironmentRow, standIns := [], harness := (true, "ae8eceacde2d77ad62c623d886f6e00d6680deb30de5f2117aeb5e1006bbe58c"), looks := true }, kinds := [], alts := [], laidByText := true, laidKinds := [.data, .pinned, .pinned], laidTests := true, laidLooks := .later }
def FnResolveEnvironmentCardSaid : Prop := Claim7.holds Tryd.pinned (.plain (OpenSpec.ofChange fnResolveEnvironmentSpec)) fnResolveEnvironmentCard

/-- THE SECOND FORM's CARD OF 'laws.FnOmitTwice'. -/
def fnOmitTwiceUptoCard : Claim7 := { stood := { row := fnOmitTwiceUptoRow, standIns := [], harness := (true, "ae8eceacde2d77ad62c623d886f6e00d6680deb30de5f2117aeb5e1006bbe58c"), looks := true }, kinds := [], alts := [], laidByText := true, laidKinds := [.data, .pinned, .pinned], laidTests := true, laidLooks := .later }
def FnOmitTwiceUptoCardSaid : Prop := Claim7.holds Tryd.pinned (.plain (OpenSpec.upto fnOmitTwiceSpec)) fnOmitTwiceUptoCard

/-- THE SECOND FORM's CARD OF 'laws.FnResolveOne'. -/
def fnResolveOneUptoCard : Claim7 := { stood := { row := fnResolveOneUptoRow, standIns := [], harness := (true, "ae8eceacde2d77ad62c623d886f6e00d6680deb30de5f2117aeb5e1006bbe58c"), looks := true }, kinds := [], alts := [], laidByText := true, laidKinds := [.data, .pinned, .pinned], laidTests := true, laidLooks := .later }
def FnResolveOneUptoCardSaid : Prop := Claim7.holds Tryd.pinned (.plain (OpenSpec.upto fnResolveOneSpec)) fnResolveOneUptoCard

/-- THE SECOND FORM's CARD OF 'laws.FnResolveEnvironment'. -/
def fnResolveEnvironmentUptoCard : Claim7 := { stood := { row := fnResolveEnvironmentUptoRow, standIns := [], harness := (true, "ae8eceacde2d77ad62c623d886f6e00d6680deb30de5f2117aeb5e1006bbe58c"), looks := true }, kinds := [], alts := [], laidByText := true, laidKinds := [.data, .pinned, .pinned], laidTests := true, laidLooks := .later }
def FnResolveEnvironmentUptoCardSaid : Prop := Claim7.holds Tryd.pinned (.plain (OpenSpec.upto fnResolveEnvironmentSpec)) fnResolveEnvironmentUptoCard
end Rows
end Go.Proofs.YtadcdjiahekkgaaDoor
