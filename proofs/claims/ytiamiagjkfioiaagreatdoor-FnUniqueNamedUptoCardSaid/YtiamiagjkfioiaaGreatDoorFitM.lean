/- Joined texts. -/
import Derived.Test.YtiamiagjkfioiaaGreatDoorFitD
/- The walk of spec.Fit, of every value (printed by gen_fit.py). -/
namespace Go.Proofs.YtiamiagjkfioiaaGreatDoor.A
set_option linter.unusedVariables false
set_option linter.unusedSimpArgs false
set_option linter.unusedSectionVars false
open Go.RowKit Go.Proofs.YtiamiagjkfioiaaGreatDoorW.PrintWords Go.Proofs.YtiamiagjkfioiaaGreatDoorW.PrintLast Go.Proofs.YtiamiagjkfioiaaGreatDoorW.PrintMore Go.Proofs.YtiamiagjkfioiaaGreatDoor.PT Go.Proofs.YtiamiagjkfioiaaGreatDoor.L Go.Proofs.YtiamiagjkfioiaaGreatDoor.SM

def FitSays (x : SV) (w : World) (e : Ending) (w' : World) : Prop := ∃ (y : SV) (r : RV), e = .returned r.val ∧ FineS y ∧ wt y ≤ wt x ∧ DeepP (fun k => w.heap.size ≤ k) w' y r ∧ Below w.heap.size w w'
def FitC (x : SV) (w : World) : Prop := ∀ v, MadeS x w v → Calls Tryz.prog 18 #[v] w (FitSays x w)
theorem FitC.use {x : SV} {w : World} (h : FitC x w) (A3 : Option Addr) (c3 : Nat) (A4 : Option Addr) (c4 : Nat) (h3 : x.f3.length ≤ c3) (g3 : Kd.C Kd.string w A3 x.f3.length x.f3) (h4 : x.f4.length ≤ c4) (g4 : Kd.C kS w A4 x.f4.length x.f4) : Calls Tryz.prog 18 #[cellsS x A3 c3 A4 c4] w (FitSays x w) := h _ ⟨A3, c3, A4, c4, rfl, h3, g3, h4, g4⟩
theorem Bnd.here {x : SV} (h : Bnd x) : x.f3.length ≤ 1099511627776 ∧ x.f4.length ≤ 1099511627776 := by cases h with | mk a b c => exact ⟨a, b⟩
theorem Bnd.sub {x : SV} (h : Bnd x) (i : Nat) (q : i < x.f4.length) : Bnd (x.f4[i]'q) := by cases h with | mk a b c => exact c i q
end Go.Proofs.YtiamiagjkfioiaaGreatDoor.A
/- The walk of spec.Fit of a list (printed by gen_fit.py). -/
namespace Go.Proofs.YtiamiagjkfioiaaGreatDoor.A
set_option linter.unusedVariables false
set_option linter.unusedSimpArgs false
set_option linter.unusedSectionVars false
open Go.RowKit Go.Proofs.YtiamiagjkfioiaaGreatDoorW.PrintWords Go.Proofs.YtiamiagjkfioiaaGreatDoorW.PrintLast Go.Proofs.YtiamiagjkfioiaaGreatDoorW.PrintMore Go.Proofs.YtiamiagjkfioiaaGreatDoor.PT Go.Proofs.YtiamiagjkfioiaaGreatDoor.L Go.Proofs.YtiamiagjkfioiaaGreatDoor.SM

structure FitL (w W1 : World) (wr : World) (X : List SV) (i : Nat) (A : Option Addr) (c : Nat) (rs : List RV) (ys : List SV) : Prop where
  box : wr.heap[w.heap.size + 2]? = some (.cells #[.int .i64 4, .int .i64 0, .string ⟨#[]⟩, .slice none 0 0, .slice A rs.length c] 26 (0, 0))
  row : Kd.R kR 26 wr (w.heap.size + 3) (fun _ => True) (.slice A rs.length c) rs
  deep : All2 (DeepP (fun k => w.heap.size + 3 ≤ k ∧ some k ≠ (Value.slice A rs.length c).ownBlock) wr) ys rs
  fine : ∀ y ∈ ys, FineS y
  cnt : (ys.map wt).sum ≤ ((X.take i).map wt).sum
  bel : Below (w.heap.size + 2) W1 wr
  size : w.heap.size + 3 ≤ wr.heap.size
end Go.Proofs.YtiamiagjkfioiaaGreatDoor.A
/- The walk of spec.Fit of a map, and of every value (printed by gen_fit.py). -/
namespace Go.Proofs.YtiamiagjkfioiaaGreatDoor.A
set_option linter.unusedVariables false
set_option linter.unusedSimpArgs false
set_option linter.unusedSectionVars false
open Go.RowKit Go.Proofs.YtiamiagjkfioiaaGreatDoorW.PrintWords Go.Proofs.YtiamiagjkfioiaaGreatDoorW.PrintLast Go.Proofs.YtiamiagjkfioiaaGreatDoorW.PrintMore Go.Proofs.YtiamiagjkfioiaaGreatDoor.PT Go.Proofs.YtiamiagjkfioiaaGreatDoor.L Go.Proofs.YtiamiagjkfioiaaGreatDoor.SM

structure FitM (w W1 : World) (wr : World) (x : SV) (i : Nat) (A : Option Addr) (c : Nat) (A' : Option Addr) (c' : Nat) (ks : List ByteArray) (rs : List RV) (ys : List SV) : Prop where
  box : wr.heap[w.heap.size + 3]? = some (.cells #[.int .i64 5, .int .i64 0, .string ⟨#[]⟩, .slice A ks.length c, .slice A' rs.length c'] 26 (0, 0))
  len : rs.length = ks.length
  kc : ks.length ≤ c
  kC : Kd.C Kd.string wr A ks.length ks
  vc : rs.length ≤ c'
  vC : Kd.C kR wr A' rs.length rs
  kf : Fr (w.heap.size + 4) A
  vf : Fr (w.heap.size + 4) A'
  asc : Ord.Asc id ks
  deep : All2 (DeepP (fun k => w.heap.size + 4 ≤ k) wr) ys rs
  fine : ∀ y ∈ ys, FineS y
  cnt : ksum ks + (ys.map wt).sum ≤ ksum (x.f3.take i) + ((x.f4.take i).map wt).sum
  bel : Below (w.heap.size + 3) W1 wr
  size : w.heap.size + 4 ≤ wr.heap.size
theorem withL_mem {α : Type} {key : ByteArray} {ks : List ByteArray} {vs : List α} {x q : α} (h : q ∈ withL key ks vs x) : q = x ∨ q ∈ vs := by
  unfold A.withL at h
  split at h
  · rcases List.mem_or_eq_of_mem_set h with h | h
    · exact .inr h
    · exact .inl h
  · rcases List.mem_append.1 h with h | h
    · exact .inr (List.mem_of_mem_take h)
    · rcases List.mem_cons.1 h with h | h
      · exact .inl h
      · exact .inr (List.mem_of_mem_drop h)
end Go.Proofs.YtiamiagjkfioiaaGreatDoor.A
