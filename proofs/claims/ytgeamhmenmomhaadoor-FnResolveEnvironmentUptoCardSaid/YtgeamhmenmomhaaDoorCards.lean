/-
  DERIVED. GIVEN WITH THE SEED: THE CARDS: each row of YtgeamhmenmomhaaDoorRows.lean that lists a variable, with what it lists TIED to the program's text (the seventh form; the later family's looks); each row that meets fmt, with fmt's text TOLD by the authors' own Lean function (tested against real Go, not proved from fmt's source: count such statements apart). THE CARD IS WHAT COUNTS. Prove the row's statement (the work); the ties are given (YtgeamhmenmomhaaDoorTie.lean); close each card by the builder's one call (the guide's Derived/Test/ToyasCard.lean, 'card_holds'). Laid BY PROGRAM, IN A SANDBOX (cutbox-door.mjs). By AI agents, Wed Nov 11 2026. No macro, syntax, notation, axiom, sorry.
-/
import Derived.Test.YtgeamhmenmomhaaDoorRows
import GoSem.ClaimSeven
namespace Go.Proofs.YtgeamhmenmomhaaDoor
namespace Rows

/-- THE TIED CARD OF 'laws.FnResolveOne'. -/
def fnResolveOneCard : Claim7 := { stood := { row := fnResolveOneRow, standIns := [], harness := (true, "e33974b83d1163d15271ed1a4bf85c36c9c6a00a5e4facbbf0dcc4f58c76d7b9"), looks := true }, kinds := [], alts := [], laidByText := true, laidKinds := [.data, .pinned, .pinned], laidTests := true, laidLooks := .later }
def FnResolveOneCardSaid : Prop := Claim7.holds Tryd.pinned (.plain (OpenSpec.ofChange fnResolveOneSpec)) fnResolveOneCard

/-- THE TIED CARD OF 'laws.FnResolveEnvironment'. -/
def fnResolveEnvironmentCard : Claim7 := { stood := { row := fnResolveEnvironmentRow, standIns := [], harness := (true, "e33974b83d1163d15271ed1a4bf85c36c9c6a00a5e4facbbf0dcc4f58c76d7b9"), looks := true }, kinds := [], alts := [], laidByText := true, laidKinds := [.data, .pinned, .pinned], laidTests := true, laidLooks := .later }
def FnResolveEnvironmentCardSaid : Prop := Claim7.holds Tryd.pinned (.plain (OpenSpec.ofChange fnResolveEnvironmentSpec)) fnResolveEnvironmentCard

/-- THE SECOND FORM's CARD OF 'laws.FnResolveOne'. -/
def fnResolveOneUptoCard : Claim7 := { stood := { row := fnResolveOneUptoRow, standIns := [], harness := (true, "e33974b83d1163d15271ed1a4bf85c36c9c6a00a5e4facbbf0dcc4f58c76d7b9"), looks := true }, kinds := [], alts := [], laidByText := true, laidKinds := [.data, .pinned, .pinned], laidTests := true, laidLooks := .later }
def FnResolveOneUptoCardSaid : Prop := Claim7.holds Tryd.pinned (.plain (OpenSpec.upto fnResolveOneSpec)) fnResolveOneUptoCard

/-- THE SECOND FORM's CARD OF 'laws.FnResolveEnvironment'. -/
def fnResolveEnvironmentUptoCard : Claim7 := { stood := { row := fnResolveEnvironmentUptoRow, standIns := [], harness := (true, "e33974b83d1163d15271ed1a4bf85c36c9c6a00a5e4facbbf0dcc4f58c76d7b9"), looks := true }, kinds := [], alts := [], laidByText := true, laidKinds := [.data, .pinned, .pinned], laidTests := true, laidLooks := .later }
def FnResolveEnvironmentUptoCardSaid : Prop := Claim7.holds Tryd.pinned (.plain (OpenSpec.upto fnResolveEnvironmentSpec)) fnResolveEnvironmentUptoCard
end Rows
end Go.Proofs.YtgeamhmenmomhaaDoor
