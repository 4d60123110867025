/-
  NARROWER THAN 'FOR EVERY INPUT', by the rows' own cells (each row's printed sentence says how): FnSubstBound: laid · FnSubstChain: laid · FnSubstEscaped: laid · FnSubstJoined: laid · FnSubstOpen: laid · FnSubstReads: laid · FnPartition: laid · FnVariablesEscaped: loops, laid.
  DERIVED. THE GIVEN ROWS OF THIS SEAT. 8 by the template 'for every input the law returns true; each argument reads behind the call as it read before'; 0 by the template 'total and deterministic' (their statements: YtlncdacoefoldaaGreatDoorTotals.lean).
  GIVEN WITH THE SEED: the statements are not yours to turn. If you find one false, say at which input.
  Laid BY PROGRAM, IN A SANDBOX (cutbox-rows.mjs): the forced cells as the released guide's own fill.sh prints them over the translation 5550226f015fd81f… (all of the seat's roots in one cut). By AI agents, Wed Nov 11 2026. No macro, syntax, notation, axiom, sorry.
-/
import Derived.Test.YtlncdacoefoldaaGreatDoorChecked
import GoSem.Claim
import GoSem.ClaimJoined
import GoSem.ClaimMapViews
import Derived.JoinedTies
import Derived.KernelRfl
namespace Go.Proofs.YtlncdacoefoldaaGreatDoor
/- THE CELL 'sum', in the pinned program and in every row, IS THE sha256 OF THE DUMP (.gsa) THAT YtlncdacoefoldaaGreatDoorProg.lean LOADS. Nothing in Lean hashes anything: it is a label: what it is worth is what the hold of that sum in a sandbox is worth. -/
noncomputable def Tryz.pinned : Pinned := { name := "ytlncdacoefoldaagreatdoor", sum := "5550226f015fd81f55ee4570b508fa6a8b83cdbc12a0a80b817d998d2ea26fab", checked := Tryz.checked }
namespace Rows
def none {H : Type} : Left H := { results := [], args := [] }

/- WHAT THE LISTED PACKAGE-LEVEL VARIABLES READ AS WHEN THE CALL BEGINS. Each datum BY PROGRAM (the guide's laid-datum.mjs) off the statement by which the dump's own 'gosem.cut.vars' lays the variable. In a bare row this is a premise. The card (YtlncdacoefoldaaGreatDoorCards.lean) ties it to the program's text. -/
def laid_errors_errorType {H : Type} : DataW H := .iface "internal/reflectlite.rtype" (.agg [.ptr (.lit (.string [101, 114, 114, 111, 114]))])
def laid_pub_shipwright_pub_composego_template_DefaultPattern {H : Type} : DataW H := .agg []

/-- 'laws.FnSubstBound': WHATEVER THE INPUT: true; the input reads as it did. -/
def fnSubstBoundSpec : ChangeSpec := { name := "fnSubstBound", fn := fun _ => fun
  | [d1, d2, d3, d4, d5] => { results := [.lit (.bool true)], args := [d1, d2, d3, d4, d5] }
  | _ => none }
def fnSubstBoundRow : OpenClaim := { program := "ytlncdacoefoldaagreatdoor", sum := "5550226f015fd81f55ee4570b508fa6a8b83cdbc12a0a80b817d998d2ea26fab", func := "pub-shipwright/laws.FnSubstBound", spec := "fnSubstBound", inPlace := ["internal/reflectlite.ValueOf", "internal/reflectlite.Swapper", "(internal/reflectlite.Value).Len", "(internal/reflectlite.Value).Type", "(internal/reflectlite.Value).IsNil", "internal/reflectlite.TypeOf", "(internal/reflectlite.Value).Elem", "(internal/reflectlite.Value).Set"], unfollowed := true, recurses := true, named := ["pub-shipwright/pub/composego/template.DefaultPattern", "errors.errorType"], apart := false, laid := [("errors.errorType", laid_errors_errorType), ("pub-shipwright/pub/composego/template.DefaultPattern", laid_pub_shipwright_pub_composego_template_DefaultPattern)] }
def FnSubstBoundSaid : Prop := fnSubstBoundRow.holds Tryz.pinned (OpenSpec.ofChange fnSubstBoundSpec)

/-- ITS FALSE NEIGHBOUR: 'it returns false'. Refute it at one input. -/
def fnSubstBoundWrong : ChangeSpec := { name := "fnSubstBound", fn := fun _ => fun
  | [d1, d2, d3, d4, d5] => { results := [.lit (.bool false)], args := [d1, d2, d3, d4, d5] }
  | _ => none }
def FnSubstBoundWrongFalsely : Prop := fnSubstBoundRow.holds Tryz.pinned (OpenSpec.ofChange fnSubstBoundWrong)

/-- 'laws.FnSubstChain': WHATEVER THE INPUT: true; the input reads as it did. -/
def fnSubstChainSpec : ChangeSpec := { name := "fnSubstChain", fn := fun _ => fun
  | [d1, d2, d3] => { results := [.lit (.bool true)], args := [d1, d2, d3] }
  | _ => none }
def fnSubstChainRow : OpenClaim := { program := "ytlncdacoefoldaagreatdoor", sum := "5550226f015fd81f55ee4570b508fa6a8b83cdbc12a0a80b817d998d2ea26fab", func := "pub-shipwright/laws.FnSubstChain", spec := "fnSubstChain", inPlace := ["internal/reflectlite.ValueOf", "internal/reflectlite.Swapper", "(internal/reflectlite.Value).Len", "(internal/reflectlite.Value).Type", "(internal/reflectlite.Value).IsNil", "internal/reflectlite.TypeOf", "(internal/reflectlite.Value).Elem", "(internal/reflectlite.Value).Set"], unfollowed := true, recurses := true, named := ["pub-shipwright/pub/composego/template.DefaultPattern", "errors.errorType"], apart := false, laid := [("errors.errorType", laid_errors_errorType), ("pub-shipwright/pub/composego/template.DefaultPattern", laid_pub_shipwright_pub_composego_template_DefaultPattern)] }
def FnSubstChainSaid : Prop := fnSubstChainRow.holds Tryz.pinned (OpenSpec.ofChange fnSubstChainSpec)

/-- ITS FALSE NEIGHBOUR: 'it returns false'. Refute it at one input. -/
def fnSubstChainWrong : ChangeSpec := { name := "fnSubstChain", fn := fun _ => fun
  | [d1, d2, d3] => { results := [.lit (.bool false)], args := [d1, d2, d3] }
  | _ => none }
def FnSubstChainWrongFalsely : Prop := fnSubstChainRow.holds Tryz.pinned (OpenSpec.ofChange fnSubstChainWrong)

/-- 'laws.FnSubstEscaped': WHATEVER THE INPUT: true; the input reads as it did. -/
def fnSubstEscapedSpec : ChangeSpec := { name := "fnSubstEscaped", fn := fun _ => fun
  | [d1, d2] => { results := [.lit (.bool true)], args := [d1, d2] }
  | _ => none }
def fnSubstEscapedRow : OpenClaim := { program := "ytlncdacoefoldaagreatdoor", sum := "5550226f015fd81f55ee4570b508fa6a8b83cdbc12a0a80b817d998d2ea26fab", func := "pub-shipwright/laws.FnSubstEscaped", spec := "fnSubstEscaped", inPlace := ["internal/reflectlite.ValueOf", "internal/reflectlite.Swapper", "(internal/reflectlite.Value).Len", "(internal/reflectlite.Value).Type", "(internal/reflectlite.Value).IsNil", "internal/reflectlite.TypeOf", "(internal/reflectlite.Value).Elem", "(internal/reflectlite.Value).Set"], unfollowed := true, recurses := true, named := ["pub-shipwright/pub/composego/template.DefaultPattern", "errors.errorType"], apart := false, laid := [("errors.errorType", laid_errors_errorType), ("pub-shipwright/pub/composego/template.DefaultPattern", laid_pub_shipwright_pub_composego_template_DefaultPattern)] }
def FnSubstEscapedSaid : Prop := fnSubstEscapedRow.holds Tryz.pinned (OpenSpec.ofChange fnSubstEscapedSpec)

/-- ITS FALSE NEIGHBOUR: 'it returns false'. Refute it at one input. -/
def fnSubstEscapedWrong : ChangeSpec := { name := "fnSubstEscaped", fn := fun _ => fun
  | [d1, d2] => { results := [.lit (.bool false)], args := [d1, d2] }
  | _ => none }
def FnSubstEscapedWrongFalsely : Prop := fnSubstEscapedRow.holds Tryz.pinned (OpenSpec.ofChange fnSubstEscapedWrong)

/-- 'laws.FnSubstJoined': WHATEVER THE INPUT: true; the input reads as it did. -/
def fnSubstJoinedSpec : ChangeSpec := { name := "fnSubstJoined", fn := fun _ => fun
  | [d1, d2, d3] => { results := [.lit (.bool true)], args := [d1, d2, d3] }
  | _ => none }
def fnSubstJoinedRow : OpenClaim := { program := "ytlncdacoefoldaagreatdoor", sum := "5550226f015fd81f55ee4570b508fa6a8b83cdbc12a0a80b817d998d2ea26fab", func := "pub-shipwright/laws.FnSubstJoined", spec := "fnSubstJoined", inPlace := ["internal/reflectlite.ValueOf", "internal/reflectlite.Swapper", "(internal/reflectlite.Value).Len", "(internal/reflectlite.Value).Type", "(internal/reflectlite.Value).IsNil", "internal/reflectlite.TypeOf", "(internal/reflectlite.Value).Elem", "(internal/reflectlite.Value).Set"], unfollowed := true, recurses := true, named := ["pub-shipwright/pub/composego/template.DefaultPattern", "errors.errorType"], apart := false, laid := [("errors.errorType", laid_errors_errorType), ("pub-shipwright/pub/composego/template.DefaultPattern", laid_pub_shipwright_pub_composego_template_DefaultPattern)] }
def FnSubstJoinedSaid : Prop := fnSubstJoinedRow.holds Tryz.pinned (OpenSpec.ofChange fnSubstJoinedSpec)

/-- ITS FALSE NEIGHBOUR: 'it returns false'. Refute it at one input. -/
def fnSubstJoinedWrong : ChangeSpec := { name := "fnSubstJoined", fn := fun _ => fun
  | [d1, d2, d3] => { results := [.lit (.bool false)], args := [d1, d2, d3] }
  | _ => none }
def FnSubstJoinedWrongFalsely : Prop := fnSubstJoinedRow.holds Tryz.pinned (OpenSpec.ofChange fnSubstJoinedWrong)

/-- 'laws.FnSubstOpen': WHATEVER THE INPUT: true; the input reads as it did. -/
def fnSubstOpenSpec : ChangeSpec := { name := "fnSubstOpen", fn := fun _ => fun
  | [d1, d2, d3, d4] => { results := [.lit (.bool true)], args := [d1, d2, d3, d4] }
  | _ => none }
def fnSubstOpenRow : OpenClaim := { program := "ytlncdacoefoldaagreatdoor", sum := "5550226f015fd81f55ee4570b508fa6a8b83cdbc12a0a80b817d998d2ea26fab", func := "pub-shipwright/laws.FnSubstOpen", spec := "fnSubstOpen", inPlace := ["internal/reflectlite.ValueOf", "internal/reflectlite.Swapper", "(internal/reflectlite.Value).Len", "(internal/reflectlite.Value).Type", "(internal/reflectlite.Value).IsNil", "internal/reflectlite.TypeOf", "(internal/reflectlite.Value).Elem", "(internal/reflectlite.Value).Set"], unfollowed := true, recurses := true, named := ["pub-shipwright/pub/composego/template.DefaultPattern", "errors.errorType"], apart := false, laid := [("errors.errorType", laid_errors_errorType), ("pub-shipwright/pub/composego/template.DefaultPattern", laid_pub_shipwright_pub_composego_template_DefaultPattern)] }
def FnSubstOpenSaid : Prop := fnSubstOpenRow.holds Tryz.pinned (OpenSpec.ofChange fnSubstOpenSpec)

/-- ITS FALSE NEIGHBOUR: 'it returns false'. Refute it at one input. -/
def fnSubstOpenWrong : ChangeSpec := { name := "fnSubstOpen", fn := fun _ => fun
  | [d1, d2, d3, d4] => { results := [.lit (.bool false)], args := [d1, d2, d3, d4] }
  | _ => none }
def FnSubstOpenWrongFalsely : Prop := fnSubstOpenRow.holds Tryz.pinned (OpenSpec.ofChange fnSubstOpenWrong)

/-- 'laws.FnSubstReads': WHATEVER THE INPUT: true; the input reads as it did. -/
def fnSubstReadsSpec : ChangeSpec := { name := "fnSubstReads", fn := fun _ => fun
  | [d1, d2] => { results := [.lit (.bool true)], args := [d1, d2] }
  | _ => none }
def fnSubstReadsRow : OpenClaim := { program := "ytlncdacoefoldaagreatdoor", sum := "5550226f015fd81f55ee4570b508fa6a8b83cdbc12a0a80b817d998d2ea26fab", func := "pub-shipwright/laws.FnSubstReads", spec := "fnSubstReads", inPlace := ["internal/reflectlite.ValueOf", "internal/reflectlite.Swapper", "(internal/reflectlite.Value).Len", "(internal/reflectlite.Value).Type", "(internal/reflectlite.Value).IsNil", "internal/reflectlite.TypeOf", "(internal/reflectlite.Value).Elem", "(internal/reflectlite.Value).Set"], unfollowed := true, recurses := true, named := ["pub-shipwright/pub/composego/template.DefaultPattern", "errors.errorType"], apart := false, laid := [("errors.errorType", laid_errors_errorType), ("pub-shipwright/pub/composego/template.DefaultPattern", laid_pub_shipwright_pub_composego_template_DefaultPattern)] }
def FnSubstReadsSaid : Prop := fnSubstReadsRow.holds Tryz.pinned (OpenSpec.ofChange fnSubstReadsSpec)

/-- ITS FALSE NEIGHBOUR: 'it returns false'. Refute it at one input. -/
def fnSubstReadsWrong : ChangeSpec := { name := "fnSubstReads", fn := fun _ => fun
  | [d1, d2] => { results := [.lit (.bool false)], args := [d1, d2] }
  | _ => none }
def FnSubstReadsWrongFalsely : Prop := fnSubstReadsRow.holds Tryz.pinned (OpenSpec.ofChange fnSubstReadsWrong)

/-- 'laws.FnPartition': WHATEVER THE INPUT: true; the input reads as it did. -/
def fnPartitionSpec : ChangeSpec := { name := "fnPartition", fn := fun _ => fun
  | [d1, d2] => { results := [.lit (.bool true)], args := [d1, d2] }
  | _ => none }
def fnPartitionRow : OpenClaim := { program := "ytlncdacoefoldaagreatdoor", sum := "5550226f015fd81f55ee4570b508fa6a8b83cdbc12a0a80b817d998d2ea26fab", func := "pub-shipwright/laws.FnPartition", spec := "fnPartition", inPlace := ["internal/reflectlite.ValueOf", "internal/reflectlite.Swapper", "(internal/reflectlite.Value).Len", "(internal/reflectlite.Value).Type", "(internal/reflectlite.Value).IsNil", "internal/reflectlite.TypeOf", "(internal/reflectlite.Value).Elem", "(internal/reflectlite.Value).Set"], unfollowed := true, recurses := true, named := ["pub-shipwright/pub/composego/template.DefaultPattern", "errors.errorType"], apart := false, laid := [("errors.errorType", laid_errors_errorType), ("pub-shipwright/pub/composego/template.DefaultPattern", laid_pub_shipwright_pub_composego_template_DefaultPattern)] }
def FnPartitionSaid : Prop := fnPartitionRow.holds Tryz.pinned (OpenSpec.ofChange fnPartitionSpec)

/-- ITS FALSE NEIGHBOUR: 'it returns false'. Refute it at one input. -/
def fnPartitionWrong : ChangeSpec := { name := "fnPartition", fn := fun _ => fun
  | [d1, d2] => { results := [.lit (.bool false)], args := [d1, d2] }
  | _ => none }
def FnPartitionWrongFalsely : Prop := fnPartitionRow.holds Tryz.pinned (OpenSpec.ofChange fnPartitionWrong)

/-- 'laws.FnVariablesEscaped': WHATEVER THE INPUT: true; the input reads as it did. -/
def fnVariablesEscapedSpec : ChangeSpec := { name := "fnVariablesEscaped", fn := fun _ => fun
  | [d] => { results := [.lit (.bool true)], args := [d] }
  | _ => none }
def fnVariablesEscapedRow : OpenClaim := { program := "ytlncdacoefoldaagreatdoor", sum := "5550226f015fd81f55ee4570b508fa6a8b83cdbc12a0a80b817d998d2ea26fab", func := "pub-shipwright/laws.FnVariablesEscaped", spec := "fnVariablesEscaped", inPlace := ["internal/reflectlite.ValueOf", "internal/reflectlite.Swapper", "(internal/reflectlite.Value).Len", "(internal/reflectlite.Value).Type", "(internal/reflectlite.Value).IsNil", "internal/reflectlite.TypeOf", "(internal/reflectlite.Value).Elem", "(internal/reflectlite.Value).Set"], unfollowed := true, recurses := true, named := ["pub-shipwright/pub/composego/template.DefaultPattern", "errors.errorType"], loops := true, apart := false, laid := [("errors.errorType", laid_errors_errorType), ("pub-shipwright/pub/composego/template.DefaultPattern", laid_pub_shipwright_pub_composego_template_DefaultPattern)] }
def FnVariablesEscapedSaid : Prop := fnVariablesEscapedRow.holds Tryz.pinned (OpenSpec.ofChange fnVariablesEscapedSpec)

/-- ITS FALSE NEIGHBOUR: 'it returns false'. Refute it at one input. -/
def fnVariablesEscapedWrong : ChangeSpec := { name := "fnVariablesEscaped", fn := fun _ => fun
  | [d] => { results := [.lit (.bool false)], args := [d] }
  | _ => none }
def FnVariablesEscapedWrongFalsely : Prop := fnVariablesEscapedRow.holds Tryz.pinned (OpenSpec.ofChange fnVariablesEscapedWrong)

/- THE SECOND FORM. 'bulk': how many values and letters a reading holds, each counted each time it is reached (what is shared counts as often as it is met; a slice's spare places count too). A statement '..UptoSaid' is the law's where the arguments, and the package variables that the reading takes, are together of bulk at most 1048576: NARROWER than '..Said'. Prove '..Said' where nothing that the law and all that it calls make is longer than what came in: it says more and counts as full. Else prove '..UptoSaid'. A law counts once. -/
mutual
def uptoBulk {H : Type} : DataW H → Nat
  | .lit (.string bytes) => bytes.length + 1
  | .lit _ => 1
  | .nil => 1
  | .ptr d => uptoBulk d + 1
  | .slice elems spare => uptoBulkAll elems + uptoBulkAll spare + 1
  | .agg parts => uptoBulkAll parts + 1
  | .iface _ d => uptoBulk d + 1
  | .map entries => uptoBulkEntries entries + 1
  | .held _ => 1
def uptoBulkAll {H : Type} : List (DataW H) → Nat
  | [] => 0
  | d :: r => uptoBulk d + uptoBulkAll r
def uptoBulkEntries {H : Type} : List (Lit × DataW H) → Nat
  | [] => 0
  | x :: r => uptoBulkEntry x + uptoBulkEntries r
def uptoBulkEntry {H : Type} : Lit × DataW H → Nat
  | (.string bytes, d) => bytes.length + uptoBulk d + 1
  | (_, d) => uptoBulk d + 1
 end
def uptoSmall : (H : Type) → List (DataW H) → Bool := fun _ ds => decide (uptoBulkAll ds ≤ 1048576)
def OpenSpec.upto (s : _root_.Go.ChangeSpec) : _root_.Go.OpenSpec := { _root_.Go.OpenSpec.ofChange s with cond := some uptoSmall }

/-- 'laws.FnSubstBound', WHERE WHAT IT READS IS OF BULK AT MOST 1048576: true; the input reads as it did. -/
def fnSubstBoundUptoRow : OpenClaim := { program := "ytlncdacoefoldaagreatdoor", sum := "5550226f015fd81f55ee4570b508fa6a8b83cdbc12a0a80b817d998d2ea26fab", func := "pub-shipwright/laws.FnSubstBound", spec := "fnSubstBound", inPlace := ["internal/reflectlite.ValueOf", "internal/reflectlite.Swapper", "(internal/reflectlite.Value).Len", "(internal/reflectlite.Value).Type", "(internal/reflectlite.Value).IsNil", "internal/reflectlite.TypeOf", "(internal/reflectlite.Value).Elem", "(internal/reflectlite.Value).Set"], unfollowed := true, recurses := true, named := ["pub-shipwright/pub/composego/template.DefaultPattern", "errors.errorType"], apart := false, laid := [("errors.errorType", laid_errors_errorType), ("pub-shipwright/pub/composego/template.DefaultPattern", laid_pub_shipwright_pub_composego_template_DefaultPattern)], narrowed := true }
def FnSubstBoundUptoSaid : Prop := fnSubstBoundUptoRow.holds Tryz.pinned (OpenSpec.upto fnSubstBoundSpec)

/-- 'laws.FnSubstChain', WHERE WHAT IT READS IS OF BULK AT MOST 1048576: true; the input reads as it did. -/
def fnSubstChainUptoRow : OpenClaim := { program := "ytlncdacoefoldaagreatdoor", sum := "5550226f015fd81f55ee4570b508fa6a8b83cdbc12a0a80b817d998d2ea26fab", func := "pub-shipwright/laws.FnSubstChain", spec := "fnSubstChain", inPlace := ["internal/reflectlite.ValueOf", "internal/reflectlite.Swapper", "(internal/reflectlite.Value).Len", "(internal/reflectlite.Value).Type", "(internal/reflectlite.Value).IsNil", "internal/reflectlite.TypeOf", "(internal/reflectlite.Value).Elem", "(internal/reflectlite.Value).Set"], unfollowed := true, recurses := true, named := ["pub-shipwright/pub/composego/template.DefaultPattern", "errors.errorType"], apart := false, laid := [("errors.errorType", laid_errors_errorType), ("pub-shipwright/pub/composego/template.DefaultPattern", laid_pub_shipwright_pub_composego_template_DefaultPattern)], narrowed := true }
def FnSubstChainUptoSaid : Prop := fnSubstChainUptoRow.holds Tryz.pinned (OpenSpec.upto fnSubstChainSpec)

/-- 'laws.FnSubstEscaped', WHERE WHAT IT READS IS OF BULK AT MOST 1048576: true; the input reads as it did. -/
def fnSubstEscapedUptoRow : OpenClaim := { program := "ytlncdacoefoldaagreatdoor", sum := "5550226f015fd81f55ee4570b508fa6a8b83cdbc12a0a80b817d998d2ea26fab", func := "pub-shipwright/laws.FnSubstEscaped", spec := "fnSubstEscaped", inPlace := ["internal/reflectlite.ValueOf", "internal/reflectlite.Swapper", "(internal/reflectlite.Value).Len", "(internal/reflectlite.Value).Type", "(internal/reflectlite.Value).IsNil", "internal/reflectlite.TypeOf", "(internal/reflectlite.Value).Elem", "(internal/reflectlite.Value).Set"], unfollowed := true, recurses := true, named := ["pub-shipwright/pub/composego/template.DefaultPattern", "errors.errorType"], apart := false, laid := [("errors.errorType", laid_errors_errorType), ("pub-shipwright/pub/composego/template.DefaultPattern", laid_pub_shipwright_pub_composego_template_DefaultPattern)], narrowed := true }
def FnSubstEscapedUptoSaid : Prop := fnSubstEscapedUptoRow.holds Tryz.pinned (OpenSpec.upto fnSubstEscapedSpec)

/-- 'laws.FnSubstJoined', WHERE WHAT IT READS IS OF BULK AT MOST 1048576: true; the input reads as it did. -/
def fnSubstJoinedUptoRow : OpenClaim := { program := "ytlncdacoefoldaagreatdoor", sum := "5550226f015fd81f55ee4570b508fa6a8b83cdbc12a0a80b817d998d2ea26fab", func := "pub-shipwright/laws.FnSubstJoined", spec := "fnSubstJoined", inPlace := ["internal/reflectlite.ValueOf", "internal/reflectlite.Swapper", "(internal/reflectlite.Value).Len", "(internal/reflectlite.Value).Type", "(internal/reflectlite.Value).IsNil", "internal/reflectlite.TypeOf", "(internal/reflectlite.Value).Elem", "(internal/reflectlite.Value).Set"], unfollowed := true, recurses := true, named := ["pub-shipwright/pub/composego/template.DefaultPattern", "errors.errorType"], apart := false, laid := [("errors.errorType", laid_errors_errorType), ("pub-shipwright/pub/composego/template.DefaultPattern", laid_pub_shipwright_pub_composego_template_DefaultPattern)], narrowed := true }
def FnSubstJoinedUptoSaid : Prop := fnSubstJoinedUptoRow.holds Tryz.pinned (OpenSpec.upto fnSubstJoinedSpec)

/-- 'laws.FnSubstOpen', WHERE WHAT IT READS IS OF BULK AT MOST 1048576: true; the input reads as it did. -/
def fnSubstOpenUptoRow : OpenClaim := { program := "ytlncdacoefoldaagreatdoor", sum := "5550226f015fd81f55ee4570b508fa6a8b83cdbc12a0a80b817d998d2ea26fab", func := "pub-shipwright/laws.FnSubstOpen", spec := "fnSubstOpen", inPlace := ["internal/reflectlite.ValueOf", "internal/reflectlite.Swapper", "(internal/reflectlite.Value).Len", "(internal/reflectlite.Value).Type", "(internal/reflectlite.Value).IsNil", "internal/reflectlite.TypeOf", "(internal/reflectlite.Value).Elem", "(internal/reflectlite.Value).Set"], unfollowed := true, recurses := true, named := ["pub-shipwright/pub/composego/template.DefaultPattern", "errors.errorType"], apart := false, laid := [("errors.errorType", laid_errors_errorType), ("pub-shipwright/pub/composego/template.DefaultPattern", laid_pub_shipwright_pub_composego_template_DefaultPattern)], narrowed := true }
def FnSubstOpenUptoSaid : Prop := fnSubstOpenUptoRow.holds Tryz.pinned (OpenSpec.upto fnSubstOpenSpec)

/-- 'laws.FnSubstReads', WHERE WHAT IT READS IS OF BULK AT MOST 1048576: true; the input reads as it did. -/
def fnSubstReadsUptoRow : OpenClaim := { program := "ytlncdacoefoldaagreatdoor", sum := "5550226f015fd81f55ee4570b508fa6a8b83cdbc12a0a80b817d998d2ea26fab", func := "pub-shipwright/laws.FnSubstReads", spec := "fnSubstReads", inPlace := ["internal/reflectlite.ValueOf", "internal/reflectlite.Swapper", "(internal/reflectlite.Value).Len", "(internal/reflectlite.Value).Type", "(internal/reflectlite.Value).IsNil", "internal/reflectlite.TypeOf", "(internal/reflectlite.Value).Elem", "(internal/reflectlite.Value).Set"], unfollowed := true, recurses := true, named := ["pub-shipwright/pub/composego/template.DefaultPattern", "errors.errorType"], apart := false, laid := [("errors.errorType", laid_errors_errorType), ("pub-shipwright/pub/composego/template.DefaultPattern", laid_pub_shipwright_pub_composego_template_DefaultPattern)], narrowed := true }
def FnSubstReadsUptoSaid : Prop := fnSubstReadsUptoRow.holds Tryz.pinned (OpenSpec.upto fnSubstReadsSpec)

/-- 'laws.FnPartition', WHERE WHAT IT READS IS OF BULK AT MOST 1048576: true; the input reads as it did. -/
def fnPartitionUptoRow : OpenClaim := { program := "ytlncdacoefoldaagreatdoor", sum := "5550226f015fd81f55ee4570b508fa6a8b83cdbc12a0a80b817d998d2ea26fab", func := "pub-shipwright/laws.FnPartition", spec := "fnPartition", inPlace := ["internal/reflectlite.ValueOf", "internal/reflectlite.Swapper", "(internal/reflectlite.Value).Len", "(internal/reflectlite.Value).Type", "(internal/reflectlite.Value).IsNil", "internal/reflectlite.TypeOf", "(internal/reflectlite.Value).Elem", "(internal/reflectlite.Value).Set"], unfollowed := true, recurses := true, named := ["pub-shipwright/pub/composego/template.DefaultPattern", "errors.errorType"], apart := false, laid := [("errors.errorType", laid_errors_errorType), ("pub-shipwright/pub/composego/template.DefaultPattern", laid_pub_shipwright_pub_composego_template_DefaultPattern)], narrowed := true }
def FnPartitionUptoSaid : Prop := fnPartitionUptoRow.holds Tryz.pinned (OpenSpec.upto fnPartitionSpec)

/-- 'laws.FnVariablesEscaped', WHERE WHAT IT READS IS OF BULK AT MOST 1048576: true; the input reads as it did. -/
def fnVariablesEscapedUptoRow : OpenClaim := { program := "ytlncdacoefoldaagreatdoor", sum := "5550226f015fd81f55ee4570b508fa6a8b83cdbc12a0a80b817d998d2ea26fab", func := "pub-shipwright/laws.FnVariablesEscaped", spec := "fnVariablesEscaped", inPlace := ["internal/reflectlite.ValueOf", "internal/reflectlite.Swapper", "(internal/reflectlite.Value).Len", "(internal/reflectlite.Value).Type", "(internal/reflectlite.Value).IsNil", "internal/reflectlite.TypeOf", "(internal/reflectlite.Value).Elem", "(internal/reflectlite.Value).Set"], unfollowed := true, recurses := true, named := ["pub-shipwright/pub/composego/template.DefaultPattern", "errors.errorType"], loops := true, apart := false, laid := [("errors.errorType", laid_errors_errorType), ("pub-shipwright/pub/composego/template.DefaultPattern", laid_pub_shipwright_pub_composego_template_DefaultPattern)], narrowed := true }
def FnVariablesEscapedUptoSaid : Prop := fnVariablesEscapedUptoRow.holds Tryz.pinned (OpenSpec.upto fnVariablesEscapedSpec)

end Rows
end Go.Proofs.YtlncdacoefoldaaGreatDoor
