/- Walks: joined paths (as in XTreeD, for seats without the laws on paths; never beside it). -/
import Derived.Test.YtgeamhmenmomhaaRows
import Derived.Test.YtgeamhmenmomhaaL
import Derived.Test.YtgeamhmenmomhaaShelf
namespace Go.Proofs.Ytgeamhmenmomhaa.L
set_option linter.unusedVariables false
set_option linter.unusedSimpArgs false
set_option linter.unusedSectionVars false
open Go.RowKit

def dotS : ByteArray := ⟨#[46]⟩
/-- the items, with dots between them -/
def joinD (l : List ByteArray) : ByteArray := ⟨(Lib.join (l.map (·.data.toList)) [46]).toArray⟩

set_option maxHeartbeats 1600000 in
set_option maxRecDepth 100000 in
theorem tree_NewPath (l : List ByteArray) (v : Value) (w : World) (hv : SS w v l) (hN : l.length ≤ 140737488355328) (hlen : (joinD l).size ≤ 140737488355328) :
    Calls Try.prog 35 #[v] w fun e w' => e = .returned (.string (joinD l)) ∧ Below w.heap.size w w' := by
  have hlen' : (Lib.join (l.map (·.data.toList)) dotS.data.toList).length ≤ 140737488355328 := by
    have : (joinD l).size = (Lib.join (l.map (·.data.toList)) [46]).length := mk_size _
    rw [this] at hlen
    exact hlen
  have H := Lib.hid hlen'
  clear hlen hlen'
  obtain ⟨A, c, rfl, h1, h2, h3⟩ := hv.get
  have HV := Lib.hid h3
  clear hv h3
  rcases Nat.eq_zero_or_pos l.length with h0 | h0
  · have hl : l = [] := List.length_eq_zero_iff.1 h0
    subst hl
    go_enter Try.func35, Try.ntmps35
    go_wp2_with fail
    refine (Try.strings_Join_none A c dotS _).mono ?_
    rintro e w' ⟨rfl, rfl⟩
    go_wp2
    go_ret
    exact ⟨rfl, Below.refl _ _⟩
  · obtain ⟨b, o, rfl, hb, hc⟩ := HV.out h0
    have HC := Lib.hid hc
    clear hc
    go_enter Try.func35, Try.ntmps35
    go_wp2_with fail
    refine (Try.strings_Join b o c l dotS _ (fun j x hx => ?_) hb hN h1 H.out).mono ?_
    · obtain ⟨hj, e⟩ := List.getElem?_eq_some_iff.1 hx
      rw [HC.out j hj, List.getD_eq_getElem?_getD, hx]
      rfl
    rintro e w' ⟨rfl, hb1⟩
    go_wp2
    go_ret
    exact ⟨rfl, hb1⟩

end Go.Proofs.Ytgeamhmenmomhaa.L
