/- The walk of impl.opts: what a map to pointers holds, told in rising order. -/
import Derived.Test.YtcocmdbleicmcaaGreatDoorTold
namespace Go.Proofs.YtcocmdbleicmcaaGreatDoor.M
set_option linter.unusedVariables false
set_option linter.unusedSimpArgs false
set_option linter.unusedSectionVars false
open Go.RowKit Go.Proofs.YtcocmdbleicmcaaGreatDoorW.PrintWords Go.Proofs.YtcocmdbleicmcaaGreatDoorW.PrintLast Go.Proofs.YtcocmdbleicmcaaGreatDoor.PX Go.Proofs.YtcocmdbleicmcaaGreatDoor.SM

abbrev PO := Option (Addr × ByteArray)
def encO : PO → Value
  | none => .pointer none
  | some p => .pointer (some p.1)
/-- What an entry tells. -/
def opO : ByteArray × PO → S76
  | (k, none) => ⟨k, ⟨#[]⟩, false⟩
  | (k, some p) => ⟨k, p.2, true⟩
/-- The values that the entries point to. -/
def Held (w : World) (m : List (ByteArray × PO)) : Prop := ∀ k a s, (k, some (a, s)) ∈ m → w.cell? a = some (.string s)
/-- The loop's relation: bb the box, r the iterator. -/
structure OptsAt (w : World) (b bb r : Nat) (m : List (ByteArray × PO)) (wr : World) (v : Value) (dl : List S76) (rm : List (ByteArray × PO)) : Prop where
  box : wr.heap[bb]? = some (.cells #[v] 30 (0, 0))
  row : Kd.R k76 76 wr (w.heap.size + 2) (fun _ => True) v dl
  rng : TRng wr b r encO m rm
  bel : Below w.heap.size w wr
  held : Held w m
  perm : ∃ ql, dl = ql.map opO ∧ (ql ++ rm).Perm m
theorem perm_delG {β : Type} : ∀ {rm : List (ByteArray × β)} {q : ByteArray × β}, (keys rm).Nodup → q ∈ rm → rm.Perm (q :: del rm q.1)
  | [], q, _, hq => by simp at hq
  | a :: l, q, hn, hq => by
    unfold keys at hn
    rw [List.map_cons, List.nodup_cons] at hn
    unfold del
    rw [List.filter_cons]
    by_cases e : a = q
    · subst e
      have : l.filter (fun x => decide (x.1 ≠ a.1)) = l := List.filter_eq_self.2 (fun b hb => by
        simp
        exact fun e => hn.1 (by rw [← e]; exact List.mem_map_of_mem hb))
      simp only [ne_eq, not_true_eq_false, decide_false, Bool.false_eq_true, if_false]
      rw [show List.filter (fun x => decide ¬x.fst = a.fst) l = l from this]
    · have hq' : q ∈ l := (List.mem_cons.1 hq).resolve_left (fun h => e h.symm)
      have hne : a.1 ≠ q.1 := fun e => hn.1 (by rw [e]; exact List.mem_map_of_mem hq')
      simp only [ne_eq, hne, not_false_eq_true, decide_true, if_true]
      exact (List.Perm.cons a (perm_delG hn.2 hq')).trans (List.Perm.swap q a _)
theorem perm_stepG {β : Type} {m rm dl' : List (ByteArray × β)} {q : ByteArray × β} (hn : (keys rm).Nodup) (hq : q ∈ rm) (h : (dl' ++ rm).Perm m) : (dl' ++ [q] ++ del rm q.1).Perm m := by
  rw [List.append_assoc]
  exact (List.Perm.append_left dl' (perm_delG hn hq).symm).trans h
instance : Inhabited S76 := ⟨z76⟩
end Go.Proofs.YtcocmdbleicmcaaGreatDoor.M
