/- The walk of impl.fromMap. -/
import Derived.Test.YtadcdjiahekkgaaFine
import Derived.Test.YtadcdjiahekkgaaToAny
import Derived.Sort.AtCall
import Derived.Laws.Rows
namespace Go.Proofs.Ytadcdjiahekkgaa.A
set_option linter.unusedVariables false
set_option linter.unusedSimpArgs false
set_option linter.unusedSectionVars false
open Go.RowKit Go.Proofs.YtadcdjiahekkgaaW.PrintWords Go.Proofs.YtadcdjiahekkgaaW.PrintLast Go.Proofs.YtadcdjiahekkgaaW.PrintMore Go.Proofs.Ytadcdjiahekkgaa.PT Go.Proofs.Ytadcdjiahekkgaa.SM Go.Proofs.Ytadcdjiahekkgaa.L

abbrev zV : Array Value := #[.int .i64 0, .int .i64 0, .string ⟨#[]⟩, .slice none 0 0, .slice none 0 0]
/-- a value told: its two rows are new, and apart -/
def Told (y : IV) (w : World) (e : Ending) (w' : World) : Prop := ∃ A3 c3 A4 c4, e = .returned (.tuple #[cellsI y A3 c3 A4 c4, .bool true]) ∧ Kd.R Kd.string 9 w' w.heap.size (fun _ => True) (.slice A3 y.f3.length c3) y.f3 ∧ Kd.R kI 28 w' w.heap.size (fun k => some k ≠ (Value.slice A3 y.f3.length c3).ownBlock) (.slice A4 y.f4.length c4) y.f4 ∧ Below w.heap.size w w'
def FromC (v : AV) (y : IV) (w : World) : Prop := Calls Try.prog 48 #[v.enc] w (Told y w)
structure From1 (w : World) (b r : Nat) (m : List (ByteArray × AV)) (wr : World) (A : Option Addr) (c : Nat) (dl : List ByteArray) (rm : List (ByteArray × AV)) : Prop where
  box : wr.heap[w.heap.size + 1]? = some (.cells #[.int .i64 5, .int .i64 0, .string ⟨#[]⟩, .slice A dl.length c, .slice none 0 0] 28 (0, 0))
  res : wr.heap[w.heap.size]? = some (.cells zV 28 (0, 0))
  row : Kd.R Kd.string 9 wr (w.heap.size + 3) (fun _ => True) (.slice A dl.length c) dl
  rng : TRng wr b r AV.enc m rm
  bel : Below w.heap.size w wr
  perm : (dl ++ keys rm).Perm (keys m)
structure From2 (w : World) (b : Nat) (ks : List ByteArray) (ys : List IV) (wr : World) (A : Option Addr) (c : Nat) (A4 : Option Addr) (c4 : Nat) (vs : List IV) : Prop where
  box : wr.heap[w.heap.size + 1]? = some (.cells #[.int .i64 5, .int .i64 0, .string ⟨#[]⟩, .slice A ks.length c, .slice A4 vs.length c4] 28 (0, 0))
  res : wr.heap[w.heap.size]? = some (.cells zV 28 (0, 0))
  row : Kd.R Kd.string 9 wr w.heap.size (fun k => k ≠ w.heap.size ∧ k ≠ w.heap.size + 1) (.slice A ks.length c) ks
  vals : Kd.R kI 28 wr w.heap.size (fun k => (k ≠ w.heap.size ∧ k ≠ w.heap.size + 1) ∧ some k ≠ (Value.slice A ks.length c).ownBlock) (.slice A4 vs.length c4) vs
  bel : Below w.heap.size w wr
/-- what sort.Strings does to a row of one's own -/
def SortC : Prop := ∀ (v : Value) (l : List ByteArray) (base : Nat) (W : World), Kd.R Kd.string 9 W base (fun _ => True) v l → l.length ≤ 1099511627776 →
  Calls Try.prog 65 #[v] W fun en w' => en = .returned (.tuple #[]) ∧ Kd.R Kd.string 9 w' base (fun _ => True) v (Ord.sortS l) ∧ W.grownBy w' v.ownBlock
theorem SortC.use (h : SortC) (v : Value) (l : List ByteArray) (base : Nat) (W : World) (hr : Kd.R Kd.string 9 W base (fun _ => True) v l) (hl : l.length ≤ 1099511627776) : Calls Try.prog 65 #[v] W fun en w' => en = .returned (.tuple #[]) ∧ Kd.R Kd.string 9 w' base (fun _ => True) v (Ord.sortS l) ∧ W.grownBy w' v.ownBlock := h v l base W hr hl
theorem FromC.use {v : AV} {y : IV} {w : World} (h : FromC v y w) : Calls Try.prog 48 #[v.enc] w (Told y w) := h
theorem zeroA (w : World) : (zeroValue 20).run Try.prog w = .ok .nilIface w := by kernel_rfl
end Go.Proofs.Ytadcdjiahekkgaa.A
