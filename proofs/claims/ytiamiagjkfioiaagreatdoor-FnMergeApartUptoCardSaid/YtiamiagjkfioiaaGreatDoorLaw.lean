/- The frame of a law's proof: a call that returns true and only lays new blocks leaves what the row asks. No statement. -/
import Derived.Test.YtiamiagjkfioiaaGreatDoorL
import Derived.Carry
import Derived.WideKeyArgs
import Derived.SliceStrings
namespace Go.Proofs.YtiamiagjkfioiaaGreatDoor.L
set_option linter.unusedVariables false
set_option linter.unusedSimpArgs false
set_option linter.unusedSectionVars false
open Go.RowKit Go.ChangeShapes Go.WideShapes Go.ChangeAt

theorem trodAll_stays {H : Type} {enc : TypeId × Value → H} {P : Program} (hl : laidOutB P = true) {W W' : World} (hb : Below W.heap.size W W') :
    ∀ (ts : List TypeId) (vs : List Value) (ds : List (DataW H)) (ps : List MemPlace), (∀ t ∈ ts, P.readableRec t = true ∧ t < P.types.size) →
      DataW.TrodAll enc P W 0 (fun _ => true) true ts vs ds ps → (∀ x ∈ ps, x.block < W.heap.size) →
      DataW.TrodAll enc P W' 0 (fun b => decide (b < W.heap.size)) true ts vs ds ps
  | [], [], [], _, _, h, _ => h
  | t :: ts, v :: vs, d :: ds, ps, hr, h, hlt => by
    obtain ⟨p, q, h1, h2, rfl⟩ := h
    exact ⟨p, q, Below.trod hl (hr t List.mem_cons_self).1 (hr t List.mem_cons_self).2 h1 hb (fun x hx => hlt x (List.mem_append_left _ hx)),
      trodAll_stays hl hb ts vs ds q (fun t' ht => hr t' (List.mem_cons_of_mem _ ht)) h2 (fun x hx => hlt x (List.mem_append_right _ hx)), rfl⟩
  | [], _ :: _, _, _, _, h, _ => h.elim
  | [], [], _ :: _, _, _, h, _ => h.elim
  | _ :: _, [], _, _, _, h, _ => h.elim
  | _ :: _, _ :: _, [], _, _, h, _ => h.elim

theorem addr_add (a : Addr) (i : Nat) (h : a.spot = none) : a.add i = ⟨a.block, a.off + i, none⟩ := by
  unfold Addr.add
  by_cases h0 : i = 0
  · subst h0
    rw [if_pos rfl]
    cases a
    simp_all
  · rw [if_neg h0]
theorem cell_spot {w : World} {a : Addr} {v : Value} (h : w.cell? a = some v) : a.spot = none ∧ a.block < w.heap.size := by
  unfold World.cell? at h
  split at h
  · rename_i hh
    split at h
    · cases h
    · rename_i hs
      refine ⟨by simpa using hs, ?_⟩
      rcases Nat.lt_or_ge a.block w.heap.size with hlt | hge
      · exact hlt
      · rw [Array.getElem?_eq_none hge] at hh; cases hh
  · cases h

/-- What a row of a law asks behind the call: the result is true, the arguments read as they did, nothing old has turned. -/
theorem law_post {H : Type} {enc : TypeId × Value → H} {P : Program} {f : Func} {s : ChangeSpec} {W W' : World} {args : Array Value} {ds : List (DataW H)} {before : List MemPlace} {tb : TypeId}
    (hl : laidOutB P = true) (hr : ∀ t ∈ f.params.toList, P.readableRec t = true ∧ t < P.types.size) (hres : f.resultTypes = #[tb]) (htb : P.underlying tb = some .bool) (hv : s.vars = [])
    (hW : DataW.Whole enc P f.params.toList s.vars false W args.toList ds [] before)
    (hspec : s.fn H (ds ++ []) = { results := [.lit (.bool true)], args := ds }) (hb : Below W.heap.size W W') :
    s.post enc P f false true false false W args (.bool true) W' := by
  have hlt := hW.lt
  have hW0 := hW
  obtain ⟨p, q, hA, hVars, rfl, hfz, hnd⟩ := hW
  rw [hv] at hVars
  have hq : q = [] := hVars
  subst hq
  refine ⟨ds, [], _, [], p, [], hW0, ?_, ?_, ?_, hb.frame _, fun h => by cases h⟩
  · rw [hspec, hres]
    exact trodAll_cons_mk (shut_bool htb true) trodAll_mk0
  · rw [hspec]
    exact trodAll_stays hl hb _ _ _ _ hr hA (fun x hx => hlt x (List.mem_append_left _ hx))
  · rw [hspec, hv]
    rfl
#print axioms law_post
end Go.Proofs.YtiamiagjkfioiaaGreatDoor.L
