/-
  NARROWER THAN 'FOR EVERY INPUT', by the rows' own cells (each row's printed sentence says how): FnTransformDependsOn: loops.
  DERIVED. THE GIVEN ROWS OF THIS SEAT. 5 by the template 'for every input the law returns true; each argument reads behind the call as it read before'; 0 by the template 'total and deterministic' (their statements: YtadcdjiahekkgaaTotals.lean).
  GIVEN WITH THE SEED: the statements are not yours to turn. If you find one false, say at which input.
  Laid BY PROGRAM, IN A SANDBOX (cutbox-rows.mjs): the forced cells as the released guide's own fill.sh prints them over the translation 3c1e2f4783aa3652… (all of the seat's roots in one cut). By AI agents, Wed Nov 11 2026. No macro, syntax, notation, axiom, sorry.
-/
import Derived.Test.YtadcdjiahekkgaaChecked
import GoSem.Claim
import GoSem.ClaimJoined
import GoSem.ClaimMapViews
import Derived.JoinedTies
import Derived.KernelRfl
namespace Go.Proofs.Ytadcdjiahekkgaa
/- THE CELL 'sum', in the pinned program and in every row, IS THE sha256 OF THE DUMP (.gsa) THAT YtadcdjiahekkgaaProg.lean LOADS. Nothing in Lean hashes anything: it is a label: what it is worth is what the hold of that sum in a sandbox is worth. -/
noncomputable def Try.pinned : Pinned := { name := "ytadcdjiahekkgaa", sum := "3c1e2f4783aa36527b414c74be911d568d2427562dbebb8d83b327c6128a3e5b", checked := Try.checked }
namespace Rows
def none {H : Type} : Left H := { results := [], args := [] }

/-- 'laws.FnIndexEnvFile': WHATEVER THE INPUT: true; the input reads as it did. -/
def fnIndexEnvFileSpec : ChangeSpec := { name := "fnIndexEnvFile", fn := fun _ => fun
  | [d] => { results := [.lit (.bool true)], args := [d] }
  | _ => none }
def fnIndexEnvFileRow : OpenClaim := { program := "ytadcdjiahekkgaa", sum := "3c1e2f4783aa36527b414c74be911d568d2427562dbebb8d83b327c6128a3e5b", func := "pub-shipwright/laws.FnIndexEnvFile", spec := "fnIndexEnvFile", inPlace := ["internal/abi.NoEscape", "internal/bytealg.MakeNoZero"], recurses := true, apart := false }
def FnIndexEnvFileSaid : Prop := fnIndexEnvFileRow.holds Try.pinned (OpenSpec.ofChange fnIndexEnvFileSpec)

/-- ITS FALSE NEIGHBOUR: 'it returns false'. Refute it at one input. -/
def fnIndexEnvFileWrong : ChangeSpec := { name := "fnIndexEnvFile", fn := fun _ => fun
  | [d] => { results := [.lit (.bool false)], args := [d] }
  | _ => none }
def FnIndexEnvFileWrongFalsely : Prop := fnIndexEnvFileRow.holds Try.pinned (OpenSpec.ofChange fnIndexEnvFileWrong)

/-- 'laws.FnTransformInclude': WHATEVER THE INPUT: true; the input reads as it did. -/
def fnTransformIncludeSpec : ChangeSpec := { name := "fnTransformInclude", fn := fun _ => fun
  | [d1, d2] => { results := [.lit (.bool true)], args := [d1, d2] }
  | _ => none }
def fnTransformIncludeRow : OpenClaim := { program := "ytadcdjiahekkgaa", sum := "3c1e2f4783aa36527b414c74be911d568d2427562dbebb8d83b327c6128a3e5b", func := "pub-shipwright/laws.FnTransformInclude", spec := "fnTransformInclude", inPlace := ["internal/abi.NoEscape", "internal/bytealg.MakeNoZero"], recurses := true, apart := false }
def FnTransformIncludeSaid : Prop := fnTransformIncludeRow.holds Try.pinned (OpenSpec.ofChange fnTransformIncludeSpec)

/-- ITS FALSE NEIGHBOUR: 'it returns false'. Refute it at one input. -/
def fnTransformIncludeWrong : ChangeSpec := { name := "fnTransformInclude", fn := fun _ => fun
  | [d1, d2] => { results := [.lit (.bool false)], args := [d1, d2] }
  | _ => none }
def FnTransformIncludeWrongFalsely : Prop := fnTransformIncludeRow.holds Try.pinned (OpenSpec.ofChange fnTransformIncludeWrong)

/-- 'laws.FnTransformSecrets': WHATEVER THE INPUT: true; the input reads as it did. -/
def fnTransformSecretsSpec : ChangeSpec := { name := "fnTransformSecrets", fn := fun _ => fun
  | [d1, d2] => { results := [.lit (.bool true)], args := [d1, d2] }
  | _ => none }
def fnTransformSecretsRow : OpenClaim := { program := "ytadcdjiahekkgaa", sum := "3c1e2f4783aa36527b414c74be911d568d2427562dbebb8d83b327c6128a3e5b", func := "pub-shipwright/laws.FnTransformSecrets", spec := "fnTransformSecrets", inPlace := ["internal/abi.NoEscape", "internal/bytealg.MakeNoZero"], unfollowed := true, recurses := true, apart := false }
def FnTransformSecretsSaid : Prop := fnTransformSecretsRow.holds Try.pinned (OpenSpec.ofChange fnTransformSecretsSpec)

/-- ITS FALSE NEIGHBOUR: 'it returns false'. Refute it at one input. -/
def fnTransformSecretsWrong : ChangeSpec := { name := "fnTransformSecrets", fn := fun _ => fun
  | [d1, d2] => { results := [.lit (.bool false)], args := [d1, d2] }
  | _ => none }
def FnTransformSecretsWrongFalsely : Prop := fnTransformSecretsRow.holds Try.pinned (OpenSpec.ofChange fnTransformSecretsWrong)

/-- 'laws.FnTransformDependsOn': WHATEVER THE INPUT: true; the input reads as it did. -/
def fnTransformDependsOnSpec : ChangeSpec := { name := "fnTransformDependsOn", fn := fun _ => fun
  | [d1, d2] => { results := [.lit (.bool true)], args := [d1, d2] }
  | _ => none }
def fnTransformDependsOnRow : OpenClaim := { program := "ytadcdjiahekkgaa", sum := "3c1e2f4783aa36527b414c74be911d568d2427562dbebb8d83b327c6128a3e5b", func := "pub-shipwright/laws.FnTransformDependsOn", spec := "fnTransformDependsOn", inPlace := ["internal/abi.NoEscape", "internal/bytealg.MakeNoZero"], unfollowed := true, recurses := true, loops := true, apart := false }
def FnTransformDependsOnSaid : Prop := fnTransformDependsOnRow.holds Try.pinned (OpenSpec.ofChange fnTransformDependsOnSpec)

/-- ITS FALSE NEIGHBOUR: 'it returns false'. Refute it at one input. -/
def fnTransformDependsOnWrong : ChangeSpec := { name := "fnTransformDependsOn", fn := fun _ => fun
  | [d1, d2] => { results := [.lit (.bool false)], args := [d1, d2] }
  | _ => none }
def FnTransformDependsOnWrongFalsely : Prop := fnTransformDependsOnRow.holds Try.pinned (OpenSpec.ofChange fnTransformDependsOnWrong)

/-- 'laws.FnTransformDevice': WHATEVER THE INPUT: true; the input reads as it did. -/
def fnTransformDeviceSpec : ChangeSpec := { name := "fnTransformDevice", fn := fun _ => fun
  | [d1, d2, d3, d4] => { results := [.lit (.bool true)], args := [d1, d2, d3, d4] }
  | _ => none }
def fnTransformDeviceRow : OpenClaim := { program := "ytadcdjiahekkgaa", sum := "3c1e2f4783aa36527b414c74be911d568d2427562dbebb8d83b327c6128a3e5b", func := "pub-shipwright/laws.FnTransformDevice", spec := "fnTransformDevice", inPlace := ["internal/abi.NoEscape", "internal/bytealg.MakeNoZero"], unfollowed := true, recurses := true, apart := false }
def FnTransformDeviceSaid : Prop := fnTransformDeviceRow.holds Try.pinned (OpenSpec.ofChange fnTransformDeviceSpec)

/-- ITS FALSE NEIGHBOUR: 'it returns false'. Refute it at one input. -/
def fnTransformDeviceWrong : ChangeSpec := { name := "fnTransformDevice", fn := fun _ => fun
  | [d1, d2, d3, d4] => { results := [.lit (.bool false)], args := [d1, d2, d3, d4] }
  | _ => none }
def FnTransformDeviceWrongFalsely : Prop := fnTransformDeviceRow.holds Try.pinned (OpenSpec.ofChange fnTransformDeviceWrong)

/- THE SECOND FORM. 'bulk': how many values and letters a reading holds, each counted each time it is reached (what is shared counts as often as it is met; a slice's spare places count too). A statement '..UptoSaid' is the law's where the arguments, and the package variables that the reading takes, are together of bulk at most 1048576: NARROWER than '..Said'. Prove '..Said' where nothing that the law and all that it calls make is longer than what came in: it says more and counts as full. Else prove '..UptoSaid'. A law counts once. -/
mutual
def uptoBulk {H : Type} : DataW H → Nat
  | .lit (.string bytes) => bytes.length + 1
  | .lit _ => 1
  | .nil => 1
  | .ptr d => uptoBulk d + 1
  | .slice elems spare => uptoBulkAll elems + uptoBulkAll spare + 1
  | .agg parts => uptoBulkAll parts + 1
  | .iface _ d => uptoBulk d + 1
  | .map entries => uptoBulkEntries entries + 1
  | .held _ => 1
def uptoBulkAll {H : Type} : List (DataW H) → Nat
  | [] => 0
  | d :: r => uptoBulk d + uptoBulkAll r
def uptoBulkEntries {H : Type} : List (Lit × DataW H) → Nat
  | [] => 0
  | x :: r => uptoBulkEntry x + uptoBulkEntries r
def uptoBulkEntry {H : Type} : Lit × DataW H → Nat
  | (.string bytes, d) => bytes.length + uptoBulk d + 1
  | (_, d) => uptoBulk d + 1
 end
def uptoSmall : (H : Type) → List (DataW H) → Bool := fun _ ds => decide (uptoBulkAll ds ≤ 1048576)
def OpenSpec.upto (s : _root_.Go.ChangeSpec) : _root_.Go.OpenSpec := { _root_.Go.OpenSpec.ofChange s with cond := some uptoSmall }

/-- 'laws.FnIndexEnvFile', WHERE WHAT IT READS IS OF BULK AT MOST 1048576: true; the input reads as it did. -/
def fnIndexEnvFileUptoRow : OpenClaim := { program := "ytadcdjiahekkgaa", sum := "3c1e2f4783aa36527b414c74be911d568d2427562dbebb8d83b327c6128a3e5b", func := "pub-shipwright/laws.FnIndexEnvFile", spec := "fnIndexEnvFile", inPlace := ["internal/abi.NoEscape", "internal/bytealg.MakeNoZero"], recurses := true, apart := false, narrowed := true }
def FnIndexEnvFileUptoSaid : Prop := fnIndexEnvFileUptoRow.holds Try.pinned (OpenSpec.upto fnIndexEnvFileSpec)

/-- 'laws.FnTransformInclude', WHERE WHAT IT READS IS OF BULK AT MOST 1048576: true; the input reads as it did. -/
def fnTransformIncludeUptoRow : OpenClaim := { program := "ytadcdjiahekkgaa", sum := "3c1e2f4783aa36527b414c74be911d568d2427562dbebb8d83b327c6128a3e5b", func := "pub-shipwright/laws.FnTransformInclude", spec := "fnTransformInclude", inPlace := ["internal/abi.NoEscape", "internal/bytealg.MakeNoZero"], recurses := true, apart := false, narrowed := true }
def FnTransformIncludeUptoSaid : Prop := fnTransformIncludeUptoRow.holds Try.pinned (OpenSpec.upto fnTransformIncludeSpec)

/-- 'laws.FnTransformSecrets', WHERE WHAT IT READS IS OF BULK AT MOST 1048576: true; the input reads as it did. -/
def fnTransformSecretsUptoRow : OpenClaim := { program := "ytadcdjiahekkgaa", sum := "3c1e2f4783aa36527b414c74be911d568d2427562dbebb8d83b327c6128a3e5b", func := "pub-shipwright/laws.FnTransformSecrets", spec := "fnTransformSecrets", inPlace := ["internal/abi.NoEscape", "internal/bytealg.MakeNoZero"], unfollowed := true, recurses := true, apart := false, narrowed := true }
def FnTransformSecretsUptoSaid : Prop := fnTransformSecretsUptoRow.holds Try.pinned (OpenSpec.upto fnTransformSecretsSpec)

/-- 'laws.FnTransformDependsOn', WHERE WHAT IT READS IS OF BULK AT MOST 1048576: true; the input reads as it did. -/
def fnTransformDependsOnUptoRow : OpenClaim := { program := "ytadcdjiahekkgaa", sum := "3c1e2f4783aa36527b414c74be911d568d2427562dbebb8d83b327c6128a3e5b", func := "pub-shipwright/laws.FnTransformDependsOn", spec := "fnTransformDependsOn", inPlace := ["internal/abi.NoEscape", "internal/bytealg.MakeNoZero"], unfollowed := true, recurses := true, loops := true, apart := false, narrowed := true }
def FnTransformDependsOnUptoSaid : Prop := fnTransformDependsOnUptoRow.holds Try.pinned (OpenSpec.upto fnTransformDependsOnSpec)

/-- 'laws.FnTransformDevice', WHERE WHAT IT READS IS OF BULK AT MOST 1048576: true; the input reads as it did. -/
def fnTransformDeviceUptoRow : OpenClaim := { program := "ytadcdjiahekkgaa", sum := "3c1e2f4783aa36527b414c74be911d568d2427562dbebb8d83b327c6128a3e5b", func := "pub-shipwright/laws.FnTransformDevice", spec := "fnTransformDevice", inPlace := ["internal/abi.NoEscape", "internal/bytealg.MakeNoZero"], unfollowed := true, recurses := true, apart := false, narrowed := true }
def FnTransformDeviceUptoSaid : Prop := fnTransformDeviceUptoRow.holds Try.pinned (OpenSpec.upto fnTransformDeviceSpec)

end Rows
end Go.Proofs.Ytadcdjiahekkgaa
