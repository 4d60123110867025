/- Joined texts. -/
import Derived.Test.YtgeamhmenmomhaaDoorResQ
import Derived.Test.YtgeamhmenmomhaaDoorFitM
/- The walk of spec.ResolveOne of what is no list and no map (printed by gen_res.py). -/
namespace Go.Proofs.YtgeamhmenmomhaaDoor.A
set_option linter.unusedVariables false
set_option linter.unusedSimpArgs false
set_option linter.unusedSectionVars false
open Go.RowKit Go.Proofs.YtgeamhmenmomhaaDoorW.PrintWords Go.Proofs.YtgeamhmenmomhaaDoorW.PrintLast Go.Proofs.YtgeamhmenmomhaaDoorW.PrintMore Go.Proofs.YtgeamhmenmomhaaDoor.PT Go.Proofs.YtgeamhmenmomhaaDoor.L Go.Proofs.YtgeamhmenmomhaaDoor.SM

def ResSays (l : List U.SP) (keep : Bool) (x : SV) (w : World) (e : Ending) (w' : World) : Prop := ∃ (r : RV) (left said : Bool), e = .returned (.tuple #[r.val, .bool left, .bool said]) ∧ Below w.heap.size w w' ∧
  (x.f0 = 3 → left = (resT (envE l) keep x.f2).isSome ∧ ∀ s, resT (envE l) keep x.f2 = some s → FlatT s r) ∧ said = (descr x).isSome ∧ ∀ rd, descr x = some rd → left = (rd.res (envE l) keep).isSome ∧ ∀ z, rd.res (envE l) keep = some z → MadeS z.S w' r.val
def ResC (l : List U.SP) (A0 : Option Addr) (c0 : Nat) (keep : Bool) (x : SV) (w : World) : Prop := ∀ v, MadeS x w v → Calls Tryd.prog 9 #[v, .slice A0 l.length c0, .bool keep] w (ResSays l keep x w)
theorem ResC.use {l : List U.SP} {A0 : Option Addr} {c0 : Nat} {keep : Bool} {x : SV} {w : World} (h : ResC l A0 c0 keep x w) (A3 : Option Addr) (c3 : Nat) (A4 : Option Addr) (c4 : Nat) (h3 : x.f3.length ≤ c3) (g3 : Kd.C Kd.string w A3 x.f3.length x.f3) (h4 : x.f4.length ≤ c4) (g4 : Kd.C kS w A4 x.f4.length x.f4) : Calls Tryd.prog 9 #[cellsS x A3 c3 A4 c4, .slice A0 l.length c0, .bool keep] w (ResSays l keep x w) := h _ ⟨A3, c3, A4, c4, rfl, h3, g3, h4, g4⟩
theorem setCell_grown (w : World) (a : Addr) (u : Value) : w.grownBy (w.setCell a u) (some a.block) := ⟨rfl, rfl, rfl, by rw [setCell_size]; exact Nat.le_refl _, fun k hk hn => Below.heap_setCell _ _ _ _ (fun e => hn (by rw [e]))⟩
end Go.Proofs.YtgeamhmenmomhaaDoor.A
/- The walk of spec.ResolveOne of a list (printed by gen_res.py). -/
namespace Go.Proofs.YtgeamhmenmomhaaDoor.A
set_option linter.unusedVariables false
set_option linter.unusedSimpArgs false
set_option linter.unusedSectionVars false
open Go.RowKit Go.Proofs.YtgeamhmenmomhaaDoorW.PrintWords Go.Proofs.YtgeamhmenmomhaaDoorW.PrintLast Go.Proofs.YtgeamhmenmomhaaDoorW.PrintMore Go.Proofs.YtgeamhmenmomhaaDoor.PT Go.Proofs.YtgeamhmenmomhaaDoor.L Go.Proofs.YtgeamhmenmomhaaDoor.SM

structure ResL (w W1 : World) (wr : World) (l : List U.SP) (keep : Bool) (X : List SV) (i : Nat) (A : Option Addr) (c : Nat) (rs : List RV) : Prop where
  box : wr.heap[w.heap.size + 2]? = some (.cells #[.int .i64 4, .int .i64 0, .string ⟨#[]⟩, .slice none 0 0, .slice A rs.length c] 25 (0, 0))
  row : Kd.R kR 25 wr (w.heap.size + 3) (fun _ => True) (.slice A rs.length c) rs
  flat : allT (X.take i) = true → All2 FlatT ((X.take i).filterMap (fun y => resT (envE l) keep y.f2)) rs
  bel : Below (w.heap.size + 2) W1 wr
  size : w.heap.size + 3 ≤ wr.heap.size
end Go.Proofs.YtgeamhmenmomhaaDoor.A
