/-
  No cell of these rows narrows 'for every input' (looked for: loops, veiled, ifaces, maps, wideKeys, modest, calm, conditions, laid).
  DERIVED. THE GIVEN ROWS OF THIS SEAT. 8 by the template 'for every input the law returns true; each argument reads behind the call as it read before'; 0 by the template 'total and deterministic' (their statements: YtageocibgakhmaaTotals.lean).
  GIVEN WITH THE SEED: the statements are not yours to turn. If you find one false, say at which input.
  Laid BY PROGRAM, IN A SANDBOX (cutbox-rows.mjs): the forced cells as the released guide's own fill.sh prints them over the translation 0e80fffb15ac40be… (all of the seat's roots in one cut). By AI agents, Wed Nov 11 2026. No macro, syntax, notation, axiom, sorry.
-/
import Derived.Test.YtageocibgakhmaaChecked
import GoSem.Claim
import GoSem.ClaimJoined
import GoSem.ClaimMapViews
import Derived.JoinedTies
import Derived.KernelRfl
namespace Go.Proofs.Ytageocibgakhmaa
/- THE CELL 'sum', in the pinned program and in every row, IS THE sha256 OF THE DUMP (.gsa) THAT YtageocibgakhmaaProg.lean LOADS. Nothing in Lean hashes anything: it is a label: what it is worth is what the hold of that sum in a sandbox is worth. -/
noncomputable def Try.pinned : Pinned := { name := "ytageocibgakhmaa", sum := "0e80fffb15ac40befe0acb01bdecf89ab82c46837fcfb548b0f67af5e6f37504", checked := Try.checked }
namespace Rows
def none {H : Type} : Left H := { results := [], args := [] }

/-- 'laws.FnWindowsAbs': WHATEVER THE INPUT: true; the input reads as it did. -/
def fnWindowsAbsSpec : ChangeSpec := { name := "fnWindowsAbs", fn := fun _ => fun
  | [d] => { results := [.lit (.bool true)], args := [d] }
  | _ => none }
def fnWindowsAbsRow : OpenClaim := { program := "ytageocibgakhmaa", sum := "0e80fffb15ac40befe0acb01bdecf89ab82c46837fcfb548b0f67af5e6f37504", func := "pub-shipwright/laws.FnWindowsAbs", spec := "fnWindowsAbs", apart := false }
def FnWindowsAbsSaid : Prop := fnWindowsAbsRow.holds Try.pinned (OpenSpec.ofChange fnWindowsAbsSpec)

/-- ITS FALSE NEIGHBOUR: 'it returns false'. Refute it at one input. -/
def fnWindowsAbsWrong : ChangeSpec := { name := "fnWindowsAbs", fn := fun _ => fun
  | [d] => { results := [.lit (.bool false)], args := [d] }
  | _ => none }
def FnWindowsAbsWrongFalsely : Prop := fnWindowsAbsRow.holds Try.pinned (OpenSpec.ofChange fnWindowsAbsWrong)

/-- 'laws.FnIndexEnvFile': WHATEVER THE INPUT: true; the input reads as it did. -/
def fnIndexEnvFileSpec : ChangeSpec := { name := "fnIndexEnvFile", fn := fun _ => fun
  | [d] => { results := [.lit (.bool true)], args := [d] }
  | _ => none }
def fnIndexEnvFileRow : OpenClaim := { program := "ytageocibgakhmaa", sum := "0e80fffb15ac40befe0acb01bdecf89ab82c46837fcfb548b0f67af5e6f37504", func := "pub-shipwright/laws.FnIndexEnvFile", spec := "fnIndexEnvFile", inPlace := ["internal/abi.NoEscape", "internal/bytealg.MakeNoZero"], recurses := true, apart := false }
def FnIndexEnvFileSaid : Prop := fnIndexEnvFileRow.holds Try.pinned (OpenSpec.ofChange fnIndexEnvFileSpec)

/-- ITS FALSE NEIGHBOUR: 'it returns false'. Refute it at one input. -/
def fnIndexEnvFileWrong : ChangeSpec := { name := "fnIndexEnvFile", fn := fun _ => fun
  | [d] => { results := [.lit (.bool false)], args := [d] }
  | _ => none }
def FnIndexEnvFileWrongFalsely : Prop := fnIndexEnvFileRow.holds Try.pinned (OpenSpec.ofChange fnIndexEnvFileWrong)

/-- 'laws.FnPathMatches': WHATEVER THE INPUT: true; the input reads as it did. -/
def fnPathMatchesSpec : ChangeSpec := { name := "fnPathMatches", fn := fun _ => fun
  | [d1, d2] => { results := [.lit (.bool true)], args := [d1, d2] }
  | _ => none }
def fnPathMatchesRow : OpenClaim := { program := "ytageocibgakhmaa", sum := "0e80fffb15ac40befe0acb01bdecf89ab82c46837fcfb548b0f67af5e6f37504", func := "pub-shipwright/laws.FnPathMatches", spec := "fnPathMatches", inPlace := ["internal/abi.NoEscape", "internal/bytealg.MakeNoZero"], apart := false }
def FnPathMatchesSaid : Prop := fnPathMatchesRow.holds Try.pinned (OpenSpec.ofChange fnPathMatchesSpec)

/-- ITS FALSE NEIGHBOUR: 'it returns false'. Refute it at one input. -/
def fnPathMatchesWrong : ChangeSpec := { name := "fnPathMatches", fn := fun _ => fun
  | [d1, d2] => { results := [.lit (.bool false)], args := [d1, d2] }
  | _ => none }
def FnPathMatchesWrongFalsely : Prop := fnPathMatchesRow.holds Try.pinned (OpenSpec.ofChange fnPathMatchesWrong)

/-- 'laws.FnIndexKeyValue': WHATEVER THE INPUT: true; the input reads as it did. -/
def fnIndexKeyValueSpec : ChangeSpec := { name := "fnIndexKeyValue", fn := fun _ => fun
  | [d1, d2] => { results := [.lit (.bool true)], args := [d1, d2] }
  | _ => none }
def fnIndexKeyValueRow : OpenClaim := { program := "ytageocibgakhmaa", sum := "0e80fffb15ac40befe0acb01bdecf89ab82c46837fcfb548b0f67af5e6f37504", func := "pub-shipwright/laws.FnIndexKeyValue", spec := "fnIndexKeyValue", inPlace := ["internal/abi.NoEscape", "internal/bytealg.MakeNoZero"], recurses := true, apart := false }
def FnIndexKeyValueSaid : Prop := fnIndexKeyValueRow.holds Try.pinned (OpenSpec.ofChange fnIndexKeyValueSpec)

/-- ITS FALSE NEIGHBOUR: 'it returns false'. Refute it at one input. -/
def fnIndexKeyValueWrong : ChangeSpec := { name := "fnIndexKeyValue", fn := fun _ => fun
  | [d1, d2] => { results := [.lit (.bool false)], args := [d1, d2] }
  | _ => none }
def FnIndexKeyValueWrongFalsely : Prop := fnIndexKeyValueRow.holds Try.pinned (OpenSpec.ofChange fnIndexKeyValueWrong)

/-- 'laws.FnIndexDevice': WHATEVER THE INPUT: true; the input reads as it did. -/
def fnIndexDeviceSpec : ChangeSpec := { name := "fnIndexDevice", fn := fun _ => fun
  | [d1, d2, d3, d4, d5] => { results := [.lit (.bool true)], args := [d1, d2, d3, d4, d5] }
  | _ => none }
def fnIndexDeviceRow : OpenClaim := { program := "ytageocibgakhmaa", sum := "0e80fffb15ac40befe0acb01bdecf89ab82c46837fcfb548b0f67af5e6f37504", func := "pub-shipwright/laws.FnIndexDevice", spec := "fnIndexDevice", inPlace := ["internal/abi.NoEscape", "internal/bytealg.MakeNoZero"], recurses := true, apart := false }
def FnIndexDeviceSaid : Prop := fnIndexDeviceRow.holds Try.pinned (OpenSpec.ofChange fnIndexDeviceSpec)

/-- ITS FALSE NEIGHBOUR: 'it returns false'. Refute it at one input. -/
def fnIndexDeviceWrong : ChangeSpec := { name := "fnIndexDevice", fn := fun _ => fun
  | [d1, d2, d3, d4, d5] => { results := [.lit (.bool false)], args := [d1, d2, d3, d4, d5] }
  | _ => none }
def FnIndexDeviceWrongFalsely : Prop := fnIndexDeviceRow.holds Try.pinned (OpenSpec.ofChange fnIndexDeviceWrong)

/-- 'laws.FnPathAny': WHATEVER THE INPUT: true; the input reads as it did. -/
def fnPathAnySpec : ChangeSpec := { name := "fnPathAny", fn := fun _ => fun
  | [d1, d2] => { results := [.lit (.bool true)], args := [d1, d2] }
  | _ => none }
def fnPathAnyRow : OpenClaim := { program := "ytageocibgakhmaa", sum := "0e80fffb15ac40befe0acb01bdecf89ab82c46837fcfb548b0f67af5e6f37504", func := "pub-shipwright/laws.FnPathAny", spec := "fnPathAny", inPlace := ["internal/abi.NoEscape", "internal/bytealg.MakeNoZero"], apart := false }
def FnPathAnySaid : Prop := fnPathAnyRow.holds Try.pinned (OpenSpec.ofChange fnPathAnySpec)

/-- ITS FALSE NEIGHBOUR: 'it returns false'. Refute it at one input. -/
def fnPathAnyWrong : ChangeSpec := { name := "fnPathAny", fn := fun _ => fun
  | [d1, d2] => { results := [.lit (.bool false)], args := [d1, d2] }
  | _ => none }
def FnPathAnyWrongFalsely : Prop := fnPathAnyRow.holds Try.pinned (OpenSpec.ofChange fnPathAnyWrong)

/-- 'laws.FnPathOrder': WHATEVER THE INPUT: true; the input reads as it did. -/
def fnPathOrderSpec : ChangeSpec := { name := "fnPathOrder", fn := fun _ => fun
  | [d1, d2] => { results := [.lit (.bool true)], args := [d1, d2] }
  | _ => none }
def fnPathOrderRow : OpenClaim := { program := "ytageocibgakhmaa", sum := "0e80fffb15ac40befe0acb01bdecf89ab82c46837fcfb548b0f67af5e6f37504", func := "pub-shipwright/laws.FnPathOrder", spec := "fnPathOrder", inPlace := ["internal/abi.NoEscape", "internal/bytealg.MakeNoZero"], apart := false }
def FnPathOrderSaid : Prop := fnPathOrderRow.holds Try.pinned (OpenSpec.ofChange fnPathOrderSpec)

/-- ITS FALSE NEIGHBOUR: 'it returns false'. Refute it at one input. -/
def fnPathOrderWrong : ChangeSpec := { name := "fnPathOrder", fn := fun _ => fun
  | [d1, d2] => { results := [.lit (.bool false)], args := [d1, d2] }
  | _ => none }
def FnPathOrderWrongFalsely : Prop := fnPathOrderRow.holds Try.pinned (OpenSpec.ofChange fnPathOrderWrong)

/-- 'laws.FnPathReads': WHATEVER THE INPUT: true; the input reads as it did. -/
def fnPathReadsSpec : ChangeSpec := { name := "fnPathReads", fn := fun _ => fun
  | [d] => { results := [.lit (.bool true)], args := [d] }
  | _ => none }
def fnPathReadsRow : OpenClaim := { program := "ytageocibgakhmaa", sum := "0e80fffb15ac40befe0acb01bdecf89ab82c46837fcfb548b0f67af5e6f37504", func := "pub-shipwright/laws.FnPathReads", spec := "fnPathReads", inPlace := ["internal/abi.NoEscape", "internal/bytealg.MakeNoZero"], apart := false }
def FnPathReadsSaid : Prop := fnPathReadsRow.holds Try.pinned (OpenSpec.ofChange fnPathReadsSpec)

/-- ITS FALSE NEIGHBOUR: 'it returns false'. Refute it at one input. -/
def fnPathReadsWrong : ChangeSpec := { name := "fnPathReads", fn := fun _ => fun
  | [d] => { results := [.lit (.bool false)], args := [d] }
  | _ => none }
def FnPathReadsWrongFalsely : Prop := fnPathReadsRow.holds Try.pinned (OpenSpec.ofChange fnPathReadsWrong)

/- THE SECOND FORM. 'bulk': how many values and letters a reading holds, each counted each time it is reached (what is shared counts as often as it is met; a slice's spare places count too). A statement '..UptoSaid' is the law's where the arguments, and the package variables that the reading takes, are together of bulk at most 1048576: NARROWER than '..Said'. Prove '..Said' where nothing that the law and all that it calls make is longer than what came in: it says more and counts as full. Else prove '..UptoSaid'. A law counts once. -/
mutual
def uptoBulk {H : Type} : DataW H → Nat
  | .lit (.string bytes) => bytes.length + 1
  | .lit _ => 1
  | .nil => 1
  | .ptr d => uptoBulk d + 1
  | .slice elems spare => uptoBulkAll elems + uptoBulkAll spare + 1
  | .agg parts => uptoBulkAll parts + 1
  | .iface _ d => uptoBulk d + 1
  | .map entries => uptoBulkEntries entries + 1
  | .held _ => 1
def uptoBulkAll {H : Type} : List (DataW H) → Nat
  | [] => 0
  | d :: r => uptoBulk d + uptoBulkAll r
def uptoBulkEntries {H : Type} : List (Lit × DataW H) → Nat
  | [] => 0
  | x :: r => uptoBulkEntry x + uptoBulkEntries r
def uptoBulkEntry {H : Type} : Lit × DataW H → Nat
  | (.string bytes, d) => bytes.length + uptoBulk d + 1
  | (_, d) => uptoBulk d + 1
 end
def uptoSmall : (H : Type) → List (DataW H) → Bool := fun _ ds => decide (uptoBulkAll ds ≤ 1048576)
def OpenSpec.upto (s : _root_.Go.ChangeSpec) : _root_.Go.OpenSpec := { _root_.Go.OpenSpec.ofChange s with cond := some uptoSmall }

/-- 'laws.FnWindowsAbs', WHERE WHAT IT READS IS OF BULK AT MOST 1048576: true; the input reads as it did. -/
def fnWindowsAbsUptoRow : OpenClaim := { program := "ytageocibgakhmaa", sum := "0e80fffb15ac40befe0acb01bdecf89ab82c46837fcfb548b0f67af5e6f37504", func := "pub-shipwright/laws.FnWindowsAbs", spec := "fnWindowsAbs", apart := false, narrowed := true }
def FnWindowsAbsUptoSaid : Prop := fnWindowsAbsUptoRow.holds Try.pinned (OpenSpec.upto fnWindowsAbsSpec)

/-- 'laws.FnIndexEnvFile', WHERE WHAT IT READS IS OF BULK AT MOST 1048576: true; the input reads as it did. -/
def fnIndexEnvFileUptoRow : OpenClaim := { program := "ytageocibgakhmaa", sum := "0e80fffb15ac40befe0acb01bdecf89ab82c46837fcfb548b0f67af5e6f37504", func := "pub-shipwright/laws.FnIndexEnvFile", spec := "fnIndexEnvFile", inPlace := ["internal/abi.NoEscape", "internal/bytealg.MakeNoZero"], recurses := true, apart := false, narrowed := true }
def FnIndexEnvFileUptoSaid : Prop := fnIndexEnvFileUptoRow.holds Try.pinned (OpenSpec.upto fnIndexEnvFileSpec)

/-- 'laws.FnPathMatches', WHERE WHAT IT READS IS OF BULK AT MOST 1048576: true; the input reads as it did. -/
def fnPathMatchesUptoRow : OpenClaim := { program := "ytageocibgakhmaa", sum := "0e80fffb15ac40befe0acb01bdecf89ab82c46837fcfb548b0f67af5e6f37504", func := "pub-shipwright/laws.FnPathMatches", spec := "fnPathMatches", inPlace := ["internal/abi.NoEscape", "internal/bytealg.MakeNoZero"], apart := false, narrowed := true }
def FnPathMatchesUptoSaid : Prop := fnPathMatchesUptoRow.holds Try.pinned (OpenSpec.upto fnPathMatchesSpec)

/-- 'laws.FnIndexKeyValue', WHERE WHAT IT READS IS OF BULK AT MOST 1048576: true; the input reads as it did. -/
def fnIndexKeyValueUptoRow : OpenClaim := { program := "ytageocibgakhmaa", sum := "0e80fffb15ac40befe0acb01bdecf89ab82c46837fcfb548b0f67af5e6f37504", func := "pub-shipwright/laws.FnIndexKeyValue", spec := "fnIndexKeyValue", inPlace := ["internal/abi.NoEscape", "internal/bytealg.MakeNoZero"], recurses := true, apart := false, narrowed := true }
def FnIndexKeyValueUptoSaid : Prop := fnIndexKeyValueUptoRow.holds Try.pinned (OpenSpec.upto fnIndexKeyValueSpec)

/-- 'laws.FnIndexDevice', WHERE WHAT IT READS IS OF BULK AT MOST 1048576: true; the input reads as it did. -/
def fnIndexDeviceUptoRow : OpenClaim := { program := "ytageocibgakhmaa", sum := "0e80fffb15ac40befe0acb01bdecf89ab82c46837fcfb548b0f67af5e6f37504", func := "pub-shipwright/laws.FnIndexDevice", spec := "fnIndexDevice", inPlace := ["internal/abi.NoEscape", "internal/bytealg.MakeNoZero"], recurses := true, apart := false, narrowed := true }
def FnIndexDeviceUptoSaid : Prop := fnIndexDeviceUptoRow.holds Try.pinned (OpenSpec.upto fnIndexDeviceSpec)

/-- 'laws.FnPathAny', WHERE WHAT IT READS IS OF BULK AT MOST 1048576: true; the input reads as it did. -/
def fnPathAnyUptoRow : OpenClaim := { program := "ytageocibgakhmaa", sum := "0e80fffb15ac40befe0acb01bdecf89ab82c46837fcfb548b0f67af5e6f37504", func := "pub-shipwright/laws.FnPathAny", spec := "fnPathAny", inPlace := ["internal/abi.NoEscape", "internal/bytealg.MakeNoZero"], apart := false, narrowed := true }
def FnPathAnyUptoSaid : Prop := fnPathAnyUptoRow.holds Try.pinned (OpenSpec.upto fnPathAnySpec)

/-- 'laws.FnPathOrder', WHERE WHAT IT READS IS OF BULK AT MOST 1048576: true; the input reads as it did. -/
def fnPathOrderUptoRow : OpenClaim := { program := "ytageocibgakhmaa", sum := "0e80fffb15ac40befe0acb01bdecf89ab82c46837fcfb548b0f67af5e6f37504", func := "pub-shipwright/laws.FnPathOrder", spec := "fnPathOrder", inPlace := ["internal/abi.NoEscape", "internal/bytealg.MakeNoZero"], apart := false, narrowed := true }
def FnPathOrderUptoSaid : Prop := fnPathOrderUptoRow.holds Try.pinned (OpenSpec.upto fnPathOrderSpec)

/-- 'laws.FnPathReads', WHERE WHAT IT READS IS OF BULK AT MOST 1048576: true; the input reads as it did. -/
def fnPathReadsUptoRow : OpenClaim := { program := "ytageocibgakhmaa", sum := "0e80fffb15ac40befe0acb01bdecf89ab82c46837fcfb548b0f67af5e6f37504", func := "pub-shipwright/laws.FnPathReads", spec := "fnPathReads", inPlace := ["internal/abi.NoEscape", "internal/bytealg.MakeNoZero"], apart := false, narrowed := true }
def FnPathReadsUptoSaid : Prop := fnPathReadsUptoRow.holds Try.pinned (OpenSpec.upto fnPathReadsSpec)

end Rows
end Go.Proofs.Ytageocibgakhmaa
