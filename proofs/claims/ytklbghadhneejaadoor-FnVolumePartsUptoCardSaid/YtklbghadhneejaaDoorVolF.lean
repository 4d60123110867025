/- The walk of format.populateFieldFromBuffer where a field is set; runes of ASCII as a text. -/
import Derived.Test.YtklbghadhneejaaDoorVolT
import Derived.Laws.Cover4
namespace Go.Proofs.YtklbghadhneejaaDoor.V
set_option linter.unusedVariables false
set_option linter.unusedSimpArgs false
set_option linter.unusedSectionVars false
open Go.RowKit Go.Proofs.YtklbghadhneejaaDoorW.PrintWords Go.Proofs.YtklbghadhneejaaDoorW.PrintLast Go.Proofs.YtklbghadhneejaaDoor.PX

/-- A block that is no part of a volume: a row of texts, or no row at all. -/
def KeepO (o : Obj) : Prop := ∀ cs t k, o = Obj.cells cs t k → t = 9
/-- These blocks are as they were. -/
def StrKept (w w' : World) : Prop := ∀ (g : Nat) (o : Obj), w.heap[g]? = some o → KeepO o → w'.heap[g]? = some o
theorem StrKept.refl (w : World) : StrKept w w := fun _ _ h _ => h
theorem StrKept.trans {a b c : World} (h : StrKept a b) (k : StrKept b c) : StrKept a c := fun g o hg hk => k g o (h g o hg hk) hk
theorem StrKept.set {w : World} {b : Nat} {c : Array Value} {t : TypeId} (h : w.heap[b]? = some (.cells c t (0, 0))) (ht : t ≠ 9) (i : Nat) (u : Value) : StrKept w (w.setCell ⟨b, i, none⟩ u) := fun g o hg hk => other_set (by
  rintro rfl
  rw [h] at hg
  injection hg with hg
  exact ht (hk _ _ _ hg.symm)) hg
theorem StrKept.alloc (w : World) (o : Obj) : StrKept w (w.alloc o) := fun _ _ hg _ => alloc_keep hg
theorem StrKept.below {w w' : World} (h : Below w.heap.size w w') : StrKept w w' := fun g _ hg _ => (h.block g (Array.getElem?_eq_some_iff.1 hg).1).trans hg
theorem keepS (cs : Array Value) : KeepO (Obj.cells cs 9 (0, 0)) := fun _ _ _ h => by injection h with _ h; exact h.symm
theorem keepI (s : ByteArray) (p : Nat) : KeepO (Obj.stringIter s p) := fun _ _ _ h => by cases h
/-- The field that a part fills, if it is none of options. -/
def popF (v : Vol) (ch : Int) (p : ByteArray) : Vol := if v.src = ⟨#[]⟩ then (if ch = 0 then { v with tgt := p } else { v with src := p }) else { v with tgt := p }
theorem nonempty_list {s : ByteArray} (h : s ≠ ⟨#[]⟩) : ¬ s.toList = [] := fun e => h (Ord_toList_inj (by rw [e, ByteArray.toList_eq]))
theorem isEmpty_false {s : ByteArray} (h : s ≠ ⟨#[]⟩) : s.toList.isEmpty = false := by
  cases e : s.toList.isEmpty
  · rfl
  · exact absurd (List.isEmpty_iff.1 e) (nonempty_list h)
set_option maxHeartbeats 4000000 in
theorem format_populate_set (v : Vol) (bV base : Nat) (pb pv : Option Nat) (A : Option Addr) (n c : Nat) (ch : Int) (p : ByteArray) (w w0 : World) (hv : VolAt w base bV v pb pv) (hcv : (convert 61 9 (.slice A n c)).run Tryd.prog w = .ok (.string p) w) (hn : 0 < n) (hb0 : Below base w0 w) (hset : v.src = ⟨#[]⟩ ∨ v.tgt = ⟨#[]⟩) :
    Calls Tryd.prog 22 #[.int .i32 ch, .slice A n c, .pointer (some ⟨bV, 0, none⟩)] w fun e w' => e = .returned .nilIface ∧ VolAt w' base bV (popF v ch p) pb pv ∧ Below base w0 w' ∧ StrKept w w' := by
  have HV := Aside0.mk hv
  have HB := Aside0.mk hb0
  have hlo := hv.low
  have c1 : w.cell? ⟨bV, 1, none⟩ = some (.string v.src) := blk_cell hv.cells 1
  have c2 : w.cell? ⟨bV, 2, none⟩ = some (.string v.tgt) := blk_cell hv.cells 2
  have f1 : w.frozen? ⟨bV, 1, none⟩ = false := blk_frozen hv.cells 1
  have f2 : w.frozen? ⟨bV, 2, none⟩ = false := blk_frozen hv.cells 2
  have hn0 : ((n : Int) == 0) = false := beq_false_of_ne (by omega)
  have hz : (⟨#[]⟩ : ByteArray).toList = [] := by rw [ByteArray.toList_eq]
  clear hv hb0
  by_cases hs : v.src = ⟨#[]⟩
  · rw [hs] at c1
    by_cases h0 : ch = 0
    · have HF := Aside0.mk (HV.out.set (v' := { v with tgt := p }) 2 (.string p) rfl rfl rfl)
      have HE := Lib.hid (show popF v ch p = { v with tgt := p } by rw [popF, if_pos hs, if_pos h0])
      subst h0
      clear hs hset
      go_enter Tryd.func22, Tryd.ntmps22
      go_wp2
      go_ret
      exact ⟨rfl, by rw [HE.out]; exact HF.out, HB.out.setCell (p := ⟨bV, 2, none⟩) hlo _, StrKept.set HV.out.cells (by decide) 2 _⟩
    · have HF := Aside0.mk (HV.out.set (v' := { v with src := p }) 1 (.string p) rfl rfl rfl)
      have HE := Lib.hid (show popF v ch p = { v with src := p } by rw [popF, if_pos hs, if_neg h0])
      have h0b : (ch == 0) = false := beq_false_of_ne h0
      clear hs hset
      go_enter Tryd.func22, Tryd.ntmps22
      go_wp2
      go_ret
      exact ⟨rfl, by rw [HE.out]; exact HF.out, HB.out.setCell (p := ⟨bV, 1, none⟩) hlo _, StrKept.set HV.out.cells (by decide) 1 _⟩
  · have ht : v.tgt = ⟨#[]⟩ := hset.resolve_left hs
    rw [ht] at c2
    have HF := Aside0.mk (HV.out.set (v' := { v with tgt := p }) 2 (.string p) rfl rfl rfl)
    have HE := Lib.hid (show popF v ch p = { v with tgt := p } by rw [popF, if_neg hs])
    have e1 := isEmpty_false hs
    clear hs hset ht
    go_enter Tryd.func22, Tryd.ntmps22
    go_wp2
    go_ret
    exact ⟨rfl, by rw [HE.out]; exact HF.out, HB.out.setCell (p := ⟨bV, 2, none⟩) hlo _, StrKept.set HV.out.cells (by decide) 2 _⟩
end Go.Proofs.YtklbghadhneejaaDoor.V
