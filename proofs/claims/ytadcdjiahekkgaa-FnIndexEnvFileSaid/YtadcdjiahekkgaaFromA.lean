/- The walk of impl.fromAny, of everything that the package may tell. -/
import Derived.Test.YtadcdjiahekkgaaFrom
namespace Go.Proofs.Ytadcdjiahekkgaa.A
set_option linter.unusedVariables false
set_option linter.unusedSimpArgs false
set_option linter.unusedSectionVars false
open Go.RowKit Go.Proofs.YtadcdjiahekkgaaW.PrintWords Go.Proofs.YtadcdjiahekkgaaW.PrintLast Go.Proofs.YtadcdjiahekkgaaW.PrintMore Go.Proofs.Ytadcdjiahekkgaa.PT Go.Proofs.Ytadcdjiahekkgaa.SM Go.Proofs.Ytadcdjiahekkgaa.L

/-! ### what an assertion with ok answers -/
section
variable (xT : TypeId) (w : World)
theorem as_string (s : ByteArray) : (Instr.typeAssert (.iface 9 (.string s)) xT 9 true).run Try.prog w = .ok (.tuple #[.string s, .bool true]) w := by simp [Instr.typeAssert, run_underlying Try.underlying9, go_sem, Result.andThen]
theorem as_map (v : Value) : (Instr.typeAssert (.iface 71 v) xT 71 true).run Try.prog w = .ok (.tuple #[v, .bool true]) w := by simp [Instr.typeAssert, run_underlying Try.underlying71, go_sem, Result.andThen]
theorem no_string (t : TypeId) (v : Value) (h : ¬ t = 9) : (Instr.typeAssert (.iface t v) xT 9 true).run Try.prog w = .ok (.tuple #[.string ⟨#[]⟩, .bool false]) w := by
  have hz : (zeroValue 9).run Try.prog w = .ok (.string ⟨#[]⟩) w := by kernel_rfl
  simp [Instr.typeAssert, run_underlying Try.underlying9, go_sem, Result.andThen, h, hz]
end
theorem Told.rows {y : IV} {w w' : World} (A3 : Option Addr) (c3 : Nat) (A4 : Option Addr) (c4 : Nat) (h3 : Kd.R Kd.string 9 w' w.heap.size (fun _ => True) (.slice A3 y.f3.length c3) y.f3) (h4 : Kd.R kI 28 w' w.heap.size (fun k => some k ≠ (Value.slice A3 y.f3.length c3).ownBlock) (.slice A4 y.f4.length c4) y.f4) (hb : Below w.heap.size w w') : Told y w (.returned (.tuple #[cellsI y A3 c3 A4 c4, .bool true])) w' := ⟨A3, c3, A4, c4, rfl, h3, h4, hb⟩
structure FromL (w : World) (wr : World) (A4 : Option Addr) (c4 : Nat) (vs : List IV) : Prop where
  box : wr.heap[w.heap.size + 1]? = some (.cells #[.int .i64 4, .int .i64 0, .string ⟨#[]⟩, .slice none 0 0, .slice A4 vs.length c4] 28 (0, 0))
  res : wr.heap[w.heap.size]? = some (.cells zV 28 (0, 0))
  vals : Kd.R kI 28 wr w.heap.size (fun k => k ≠ w.heap.size ∧ k ≠ w.heap.size + 1) (.slice A4 vs.length c4) vs
  bel : Below w.heap.size w wr
end Go.Proofs.Ytadcdjiahekkgaa.A
