/- Rows of elements whose own rows are not this call's: the kind of elements as they stood in one world. Two rows and a block, kept apart. No statement. -/
import Derived.Test.YtiamiagjkfioiaaGreatDoorPTx0
import Derived.Test.YtiamiagjkfioiaaGreatDoorL
namespace Go.Proofs.YtiamiagjkfioiaaGreatDoor.A
set_option linter.unusedVariables false
set_option linter.unusedSimpArgs false
set_option linter.unusedSectionVars false
open Go.RowKit Go.Proofs.YtiamiagjkfioiaaGreatDoorW.PrintWords Go.Proofs.YtiamiagjkfioiaaGreatDoorW.PrintLast Go.Proofs.YtiamiagjkfioiaaGreatDoorW.PrintMore Go.Proofs.YtiamiagjkfioiaaGreatDoor.PT Go.Proofs.YtiamiagjkfioiaaGreatDoor.L

/-- two rows that have no block in common -/
def Sep (v v' : Value) : Prop := ∀ k, v.ownBlock = some k → v'.ownBlock ≠ some k
theorem Sep.symm {v v' : Value} (h : Sep v v') : Sep v' v := fun k hk e => h k e hk
theorem string_apart {w w1 : World} {B : Nat} {e : Nat} {v : Value} {xs : List ByteArray} {row : Option Nat} (h : Kd.string.R e w B (fun _ => True) v xs) (hg : w.grownBy w1 row) (hs : ∀ k, v.ownBlock = some k → some k ≠ row) : Kd.string.R e w1 B (fun _ => True) v xs := by
  have h' : Kd.string.R e w B (fun k => some k ≠ row) v xs := ⟨fun k hk => hs k hk, h.2⟩
  have h'' := Kd.R_grown h' hg (fun k hk => hk)
  exact ⟨fun k hk => trivial, h''.2⟩
/-- a row whose block is new lies apart from what was there -/
theorem sep_new {α : Type} {d : Kd α} {w : World} {B : Nat} {e : Nat} {ok : Nat → Prop} {v v1 : Value} {xs : List α} (h : d.R e w B ok v xs) (hn : ∃ b, v1.ownBlock = some b ∧ w.heap.size ≤ b) : Sep v1 v := fun k hk hv => by
  obtain ⟨b, hb, hle⟩ := hn
  obtain ⟨inner, hown⟩ := Kd.R_own h
  have := own_lt hown k hv
  rw [hk] at hb
  injection hb with hb
  omega
/-- and so does one that has stayed in its block, or moved to a new one -/
theorem sep_moved {α : Type} {d : Kd α} {w : World} {B : Nat} {e : Nat} {ok : Nat → Prop} {v u v1 : Value} {xs : List α} (h : d.R e w B ok v xs) (hs : Sep u v) (hn : v1.ownBlock = u.ownBlock ∨ ∃ b, v1.ownBlock = some b ∧ w.heap.size ≤ b) : Sep v1 v := by
  rcases hn with hn | hn
  · exact fun k hk => hs k (hn ▸ hk)
  · exact sep_new h hn
theorem blk_lt {w : World} {b : Nat} {o : Obj} (h : w.heap[b]? = some o) : b < w.heap.size := by
  rcases Nat.lt_or_ge b w.heap.size with q | q
  · exact q
  · rw [Array.getElem?_eq_none q] at h; cases h
theorem apart_new {w : World} {b9 : Nat} {o : Obj} {v1 : Value} (hn : ∃ b, v1.ownBlock = some b ∧ w.heap.size ≤ b) (h9 : w.heap[b9]? = some o) : v1.ownBlock ≠ some b9 := fun e => by
  obtain ⟨b, hb, hle⟩ := hn
  have := blk_lt h9
  rw [hb] at e
  injection e with e
  omega
theorem apart_moved {w : World} {b9 : Nat} {o : Obj} {u v1 : Value} (hn : v1.ownBlock = u.ownBlock ∨ ∃ b, v1.ownBlock = some b ∧ w.heap.size ≤ b) (hs : u.ownBlock ≠ some b9) (h9 : w.heap[b9]? = some o) : v1.ownBlock ≠ some b9 := by
  rcases hn with hn | hn
  · rw [hn]; exact hs
  · exact apart_new hn h9
theorem apart_alloc {α : Type} {d : Kd α} {w : World} {B : Nat} {e : Nat} {ok : Nat → Prop} {v : Value} {xs : List α} (h : d.R e w B ok v xs) : v.ownBlock ≠ some w.heap.size := fun hv => by
  obtain ⟨inner, hown⟩ := Kd.R_own h
  have := own_lt hown _ hv
  omega
theorem blk_kept {w w1 : World} {b9 : Nat} {o : Obj} {row : Option Nat} (h : w.heap[b9]? = some o) (hg : w.grownBy w1 row) (hs : some b9 ≠ row) : w1.heap[b9]? = some o := (hg.block b9 (blk_lt h) hs).trans h
/-- a whole block is written -/
theorem store_all {P : Program} {w : World} {g : Nat} {e : TypeId} {cur : Array Value} (t : TypeId) (u : Value) (seg : List Value) (hh : w.heap[g]? = some (.cells cur e (0, 0))) (hu : u.cells.toList = seg) (ht : (P.info? t).map (·.size) = some seg.length) (hsz : cur.size = seg.length) (h1 : ∀ q ∈ seg, q.oneCell' = true) :
    ∃ w4, (Instr.storeAt t (.pointer (some ⟨g, 0, none⟩)) u).run P w = .ok () w4 ∧ w4.heap[g]? = some (.cells seg.toArray e (0, 0)) ∧ w.grownBy w4 (some g) := by
  obtain ⟨cur', h3, h4, h5⟩ := setCells_row seg 0 w cur hh (by omega)
  obtain ⟨s1, s2, s3, s4⟩ := setCells_same g seg 0 w
  refine ⟨w.setCells g 0 seg, run_store_run t u seg hh hu ht (by omega) h1, ?_, ⟨s1, s2, s3, by rw [s4]; exact Nat.le_refl _, fun k hk hne => setCells_far seg 0 k (fun e => hne (by rw [e]))⟩⟩
  have : cur' = seg.toArray := by
    apply Array.toList_inj.1
    rw [h5, List.take_zero, List.nil_append, List.drop_of_length_le (by rw [Array.length_toList]; omega), List.append_nil]
  rw [h3, this]
theorem store_step {P : Program} {ops : Array Oper} {oi : Oper} {a : Act} {w : World} {K : Act → World → Prop} {Q : Exit → Act → World → Prop} {g : Nat} {e : TypeId} {cur : Array Value} (t : TypeId) (p x : Operand) (u : Value) (seg : List Value) (hw : Region.wanted oi (yielded ops a.tmps) = true) (hN : oi.dst = none) (ho : oi.op = .store t p x) (hp : a.eval p = .pointer (some ⟨g, 0, none⟩)) (hx : a.eval x = u)
    (hh : w.heap[g]? = some (.cells cur e (0, 0))) (hu : u.cells.toList = seg) (ht : (P.info? t).map (·.size) = some seg.length) (hsz : cur.size = seg.length) (h1 : ∀ q ∈ seg, q.oneCell' = true)
    (h : ∀ w4, w4.heap[g]? = some (.cells seg.toArray e (0, 0)) → w.grownBy w4 (some g) → K a w4) : if Region.wanted oi (yielded ops a.tmps) = true then Oper.wp P oi a w K Q else K (a.put none undef) w := by
  obtain ⟨w4, hrun, h4, h5⟩ := store_all (P := P) t u seg hh hu ht hsz h1
  rw [if_pos hw]
  unfold Oper.wp execOp
  simp only [ho, hp, hx, Sem.run_bind, Sem.run_pure, Result.andThen_ok, hrun]
  show K (a.put oi.dst undef) w4
  rw [hN]
  exact h w4 h4 h5
theorem store_list {P : Program} {rest : List Oper} {opsA : Array Oper} {oi : Oper} {a : Act} {w : World} {Q : Exit → Act → World → Prop} {g : Nat} {e : TypeId} {cur : Array Value} (t : TypeId) (p x : Operand) (u : Value) (seg : List Value) (hgd : oi.guard = none) (hN : oi.dst = none) (ho : oi.op = .store t p x) (hp : a.eval p = .pointer (some ⟨g, 0, none⟩)) (hx : a.eval x = u)
    (hh : w.heap[g]? = some (.cells cur e (0, 0))) (hu : u.cells.toList = seg) (ht : (P.info? t).map (·.size) = some seg.length) (hsz : cur.size = seg.length) (h1 : ∀ q ∈ seg, q.oneCell' = true)
    (h : ∀ w4, w4.heap[g]? = some (.cells seg.toArray e (0, 0)) → w.grownBy w4 (some g) → wpList P opsA Q rest a w4) : wpList P opsA Q (oi :: rest) a w := by
  obtain ⟨w4, hrun, h4, h5⟩ := store_all (P := P) t u seg hh hu ht hsz h1
  refine wpList_plain hgd fun K hK => ?_
  unfold Oper.wp execOp
  simp only [ho, hp, hx, Sem.run_bind, Sem.run_pure, Result.andThen_ok, hrun]
  show K (a.put oi.dst undef) w4
  rw [hN]
  exact hK a _ (h w4 h4 h5)
/-- one cell of a block is written -/
theorem store_fld {P : Program} {ops : Array Oper} {oi : Oper} {a : Act} {w : World} {K : Act → World → Prop} {Q : Exit → Act → World → Prop} {g o : Nat} {e : TypeId} {cur : Array Value} (t : TypeId) (p x : Operand) (u : Value) (hw : Region.wanted oi (yielded ops a.tmps) = true) (hN : oi.dst = none) (ho : oi.op = .store t p x) (hp : a.eval p = .pointer (some ⟨g, o, none⟩)) (hx : a.eval x = u)
    (hh : w.heap[g]? = some (.cells cur e (0, 0))) (hu : u.cells.toList = [u]) (ht : (P.info? t).map (·.size) = some 1) (hsz : o < cur.size) (h1 : u.oneCell' = true)
    (h : ∀ w4, w4.heap[g]? = some (.cells (cur.setIfInBounds o u) e (0, 0)) → w.grownBy w4 (some g) → K a w4) : if Region.wanted oi (yielded ops a.tmps) = true then Oper.wp P oi a w K Q else K (a.put none undef) w := by
  have hrun := run_store_run (P := P) (o := o) t u [u] hh hu ht hsz (fun q hq => by rw [List.mem_singleton.1 hq]; exact h1)
  rw [if_pos hw]
  unfold Oper.wp execOp
  simp only [ho, hp, hx, Sem.run_bind, Sem.run_pure, Result.andThen_ok, hrun]
  show K (a.put oi.dst undef) _
  rw [hN]
  refine h _ ?_ ?_
  · exact blk_set hh o u
  · obtain ⟨s1, s2, s3, s4⟩ := setCells_same g [u] o w
    exact ⟨s1, s2, s3, by rw [s4]; exact Nat.le_refl _, fun k hk hne => setCells_far [u] o k (fun e => hne (by rw [e]))⟩
end Go.Proofs.YtiamiagjkfioiaaGreatDoor.A
