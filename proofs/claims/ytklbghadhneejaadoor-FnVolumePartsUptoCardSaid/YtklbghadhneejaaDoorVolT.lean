/- The walk of format.populateType. -/
import Derived.Test.YtklbghadhneejaaDoorIsPath
namespace Go.Proofs.YtklbghadhneejaaDoor.V
set_option linter.unusedVariables false
set_option linter.unusedSimpArgs false
set_option linter.unusedSectionVars false
open Go.RowKit Go.Proofs.YtklbghadhneejaaDoorW.PrintWords Go.Proofs.YtklbghadhneejaaDoorW.PrintLast Go.Proofs.YtklbghadhneejaaDoor.PX

structure Vol where
  ty : ByteArray
  src : ByteArray
  tgt : ByteArray
  ro : Bool
  bind : Option (ByteArray × ByteArray × Bool)
  own : Option Bool
def encP : Option Nat → Value
  | none => .pointer none
  | some b => .pointer (some ⟨b, 0, none⟩)
def volCells (v : Vol) (pb pv : Option Nat) : Array Value := #[.string v.ty, .string v.src, .string v.tgt, .bool v.ro, .string ⟨#[]⟩, encP pb, encP pv, .pointer none]
def BindAt (w : World) (base bV : Nat) (x : Option (ByteArray × ByteArray × Bool)) (pb : Option Nat) : Prop := match x with
  | none => pb = none
  | some (sel, prop, cr) => ∃ bb, pb = some bb ∧ base ≤ bb ∧ bb ≠ bV ∧ w.heap[bb]? = some (.cells #[.string sel, .string prop, .bool cr, .string ⟨#[]⟩] 53 (0, 0))
def OwnAt (w : World) (base bV : Nat) (x : Option Bool) (pv : Option Nat) : Prop := match x with
  | none => pv = none
  | some nc => ∃ bv, pv = some bv ∧ base ≤ bv ∧ bv ≠ bV ∧ w.heap[bv]? = some (.cells #[.map none, .bool nc, .string ⟨#[]⟩] 57 (0, 0))
/-- The volume that lies in block bV. -/
structure VolAt (w : World) (base bV : Nat) (v : Vol) (pb pv : Option Nat) : Prop where
  low : base ≤ bV
  cells : w.heap[bV]? = some (.cells (volCells v pb pv) 46 (0, 0))
  bind : BindAt w base bV v.bind pb
  own : OwnAt w base bV v.own pv
theorem VolAt.below {w w' : World} {base bV : Nat} {v : Vol} {pb pv : Option Nat} (h : VolAt w base bV v pb pv) (hb : Below w.heap.size w w') : VolAt w' base bV v pb pv := by
  obtain ⟨h1, h2, h3, h4⟩ := h
  have mv : ∀ {g : Nat} {o : Obj}, w.heap[g]? = some o → w'.heap[g]? = some o := fun {g o} hg => (hb.block g (Array.getElem?_eq_some_iff.1 hg).1).trans hg
  refine ⟨h1, mv h2, ?_, ?_⟩
  · unfold BindAt at *
    split at h3
    · exact h3
    · obtain ⟨bb, e, hb1, hb2, hb3⟩ := h3; exact ⟨bb, e, hb1, hb2, mv hb3⟩
  · unfold OwnAt at *
    split at h4
    · exact h4
    · obtain ⟨bb, e, hb1, hb2, hb3⟩ := h4; exact ⟨bb, e, hb1, hb2, mv hb3⟩
abbrev sBind : ByteArray := ⟨#[98, 105, 110, 100]⟩
abbrev sVolume : ByteArray := ⟨#[118, 111, 108, 117, 109, 101]⟩
def popT (v : Vol) : Bool → Vol
  | true => { v with ty := sBind, bind := some ((v.bind.map (·.1)).getD ⟨#[]⟩, (v.bind.map (·.2.1)).getD ⟨#[]⟩, true) }
  | false => { v with ty := sVolume, own := some (v.own.getD false) }
theorem other_set {w : World} {b g : Nat} {i : Nat} {u : Value} {o : Obj} (hn : g ≠ b) (h : w.heap[g]? = some o) : (w.setCell ⟨b, i, none⟩ u).heap[g]? = some o := by
  unfold World.setCell
  simp [Array.getElem?_modify, Ne.symm hn, h]
theorem BindAt.move {w w' : World} {base bV : Nat} {x : Option (ByteArray × ByteArray × Bool)} {pb : Option Nat} (h : BindAt w base bV x pb) (mv : ∀ g o, g ≠ bV → w.heap[g]? = some o → w'.heap[g]? = some o) : BindAt w' base bV x pb := by
  unfold BindAt at *
  split at h
  · exact h
  · obtain ⟨bb, e, h1, h2, h3⟩ := h; exact ⟨bb, e, h1, h2, mv _ _ h2 h3⟩
theorem OwnAt.move {w w' : World} {base bV : Nat} {x : Option Bool} {pv : Option Nat} (h : OwnAt w base bV x pv) (mv : ∀ g o, g ≠ bV → w.heap[g]? = some o → w'.heap[g]? = some o) : OwnAt w' base bV x pv := by
  unfold OwnAt at *
  split at h
  · exact h
  · obtain ⟨bb, e, h1, h2, h3⟩ := h; exact ⟨bb, e, h1, h2, mv _ _ h2 h3⟩
theorem alloc_keep {w : World} {o' : Obj} {g : Nat} {o : Obj} (h : w.heap[g]? = some o) : (w.alloc o').heap[g]? = some o := by
  have := (Array.getElem?_eq_some_iff.1 h).1
  exact (((Below.refl w.heap.size w).alloc (Nat.le_refl _) o').block g this).trans h
/-- Stores into the volume's own block. -/
theorem VolAt.set {w : World} {base bV : Nat} {v v' : Vol} {pb pv : Option Nat} (h : VolAt w base bV v pb pv) (i : Nat) (u : Value) (e : (volCells v pb pv).setIfInBounds i u = volCells v' pb pv) (hb : v'.bind = v.bind) (ho : v'.own = v.own) : VolAt (w.setCell ⟨bV, i, none⟩ u) base bV v' pb pv :=
  ⟨h.low, blk_put h.cells i u e, by rw [hb]; exact h.bind.move (fun g o hn hg => other_set hn hg), by rw [ho]; exact h.own.move (fun g o hn hg => other_set hn hg)⟩
/-- A volume's own part is made. -/
theorem VolAt.newOwn {w : World} {base bV : Nat} {v : Vol} {pb pv : Option Nat} (h : VolAt w base bV v pb pv) (hbase : base ≤ w.heap.size) (nc : Bool) : VolAt ((w.setCell ⟨bV, 6, none⟩ (.pointer (some ⟨w.heap.size, 0, none⟩))).alloc (.cells #[.map none, .bool nc, .string ⟨#[]⟩] 57)) base bV { v with own := some nc } pb (some w.heap.size) := by
  have hlt : bV < w.heap.size := (Array.getElem?_eq_some_iff.1 h.cells).1
  have hsz : (w.setCell ⟨bV, 6, none⟩ (.pointer (some ⟨w.heap.size, 0, none⟩))).heap.size = w.heap.size := by simp
  have hnew := heap_alloc_new (w.setCell ⟨bV, 6, none⟩ (.pointer (some ⟨w.heap.size, 0, none⟩))) (.cells #[.map none, .bool nc, .string ⟨#[]⟩] 57)
  rw [hsz] at hnew
  refine ⟨h.low, alloc_keep (blk_put h.cells 6 _ rfl), h.bind.move (fun g o hn hg => alloc_keep (other_set hn hg)), ?_⟩
  exact ⟨w.heap.size, rfl, hbase, by omega, hnew⟩
theorem VolAt.newBind {w : World} {base bV : Nat} {v : Vol} {pb pv : Option Nat} (h : VolAt w base bV v pb pv) (hbase : base ≤ w.heap.size) (sel prop : ByteArray) (cr : Bool) : VolAt ((w.setCell ⟨bV, 5, none⟩ (.pointer (some ⟨w.heap.size, 0, none⟩))).alloc (.cells #[.string sel, .string prop, .bool cr, .string ⟨#[]⟩] 53)) base bV { v with bind := some (sel, prop, cr) } (some w.heap.size) pv := by
  have hlt : bV < w.heap.size := (Array.getElem?_eq_some_iff.1 h.cells).1
  have hsz : (w.setCell ⟨bV, 5, none⟩ (.pointer (some ⟨w.heap.size, 0, none⟩))).heap.size = w.heap.size := by simp
  have hnew := heap_alloc_new (w.setCell ⟨bV, 5, none⟩ (.pointer (some ⟨w.heap.size, 0, none⟩))) (.cells #[.string sel, .string prop, .bool cr, .string ⟨#[]⟩] 53)
  rw [hsz] at hnew
  refine ⟨h.low, alloc_keep (blk_put h.cells 5 _ rfl), ?_, h.own.move (fun g o hn hg => alloc_keep (other_set hn hg))⟩
  exact ⟨w.heap.size, rfl, hbase, by omega, hnew⟩
/-- A store into the bind's part. -/
theorem VolAt.setBind {w : World} {base bV bb : Nat} {v : Vol} {pv : Option Nat} {sel prop sel' prop' : ByteArray} {cr cr' : Bool} (h : VolAt w base bV v (some bb) pv) (hb : v.bind = some (sel, prop, cr)) (i : Nat) (u : Value) (e : (#[.string sel, .string prop, .bool cr, .string ⟨#[]⟩] : Array Value).setIfInBounds i u = #[.string sel', .string prop', .bool cr', .string ⟨#[]⟩]) : VolAt (w.setCell ⟨bb, i, none⟩ u) base bV { v with bind := some (sel', prop', cr') } (some bb) pv := by
  have h3 := h.bind
  rw [hb] at h3
  obtain ⟨bb', e1, h1, h2, hc⟩ := h3
  injection e1 with e1
  subst e1
  refine ⟨h.low, other_set (Ne.symm h2) h.cells, ⟨bb, rfl, h1, h2, blk_put hc i u e⟩, ?_⟩
  have h4 := h.own
  unfold OwnAt at *
  show match v.own with | none => pv = none | some nc => _
  split at h4
  · exact h4
  · obtain ⟨bv, e2, k1, k2, k3⟩ := h4
    refine ⟨bv, e2, k1, k2, other_set (fun e3 => ?_) k3⟩
    rw [e3, hc] at k3
    injection k3 with k3
    injection k3 with _ k3
    exact absurd k3 (by decide)
theorem VolAt.lt {w : World} {base bV : Nat} {v : Vol} {pb pv : Option Nat} (h : VolAt w base bV v pb pv) : bV < w.heap.size := (Array.getElem?_eq_some_iff.1 h.cells).1
def IsPath (s : ByteArray) (p : Bool) : Prop := PathSaid s p ∨ (s = ⟨#[]⟩ ∧ p = false)
theorem format_isFilePath' (s : ByteArray) (p : Bool) (w : World) (h : IsPath s p) (hs : s.size ≤ 4294967296) :
    Calls Tryd.prog 24 #[.string s] w fun e w' => e = .returned (.bool p) ∧ Below w.heap.size w w' := by
  rcases h with h | ⟨rfl, rfl⟩
  · exact format_isFilePath s p w h hs
  · go_enter Tryd.func24, Tryd.ntmps24
    go_wp2
    go_ret
    exact ⟨rfl, Below.refl _ _⟩
set_option maxHeartbeats 4000000 in
theorem format_populateType (v : Vol) (p : Bool) (bV base : Nat) (pb pv : Option Nat) (w w0 : World) (hv : VolAt w base bV v pb pv) (hp : IsPath v.src p) (hs : v.src.size ≤ 4294967296) (hb0 : Below base w0 w) (hbase : base ≤ w.heap.size) :
    Calls Tryd.prog 23 #[.pointer (some ⟨bV, 0, none⟩)] w fun e w' => e = .returned (.tuple #[]) ∧ (∃ pb' pv', VolAt w' base bV (popT v p) pb' pv') ∧ Below base w0 w' := by
  have HV := Aside0.mk hv
  have HB := Aside0.mk hb0
  have HP := Lib.hid (fun W => format_isFilePath' v.src p W hp hs)
  have c1 : w.cell? ⟨bV, 1, none⟩ = some (.string v.src) := blk_cell hv.cells 1
  clear hv hb0 hp hs
  go_enter Tryd.func23, Tryd.ntmps23
  cases p with
  | false =>
    go_upto_region 5 with (go_at_call 24; refine (HP.out _).mono ?_; rintro e w1 ⟨rfl, hb⟩; have HV1 := Aside0.mk (HV.out.below hb); have HB1 := Aside0.mk (below_then HB.out hbase hb); have hb1 := hb.size; clear hb)
    have hc := HV1.out.cells
    have hlo := HV1.out.low
    have hlt := HV1.out.lt
    have c0 : w1.cell? ⟨bV, 0, none⟩ = some (.string v.ty) := blk_cell hc 0
    have f0 : w1.frozen? ⟨bV, 0, none⟩ = false := blk_frozen hc 0
    have HW := Aside0.mk (HV1.out.set (v' := { v with ty := sVolume }) 0 (.string sVolume) rfl rfl rfl)
    have hcW := HW.out.cells
    have hown := HV1.out.own
    cases ho : v.own with
    | some nc =>
      rw [ho] at hown
      obtain ⟨bv, rfl, hv1, hv2, hv3⟩ := hown
      have c6 : (w1.setCell ⟨bV, 0, none⟩ (.string sVolume)).cell? ⟨bV, 6, none⟩ = some (.pointer (some ⟨bv, 0, none⟩)) := blk_cell hcW 6
      have HO := Lib.hid ho
      clear hcW hv3 hc ho hv1 hv2
      go_wp2
      go_end0
      refine ⟨rfl, ⟨pb, some bv, ?_⟩, HB1.out.setCell hlo _⟩
      have e : popT v false = { v with ty := sVolume } := by simp only [popT, HO.out, Option.getD_some]
      rw [e]; exact HW.out
    | none =>
      rw [ho] at hown
      have hpv : pv = none := hown
      subst hpv
      have hsz : (w1.setCell ⟨bV, 0, none⟩ (.string sVolume)).heap.size = w1.heap.size := by simp
      have HN := Aside0.mk (HW.out.newOwn (by rw [hsz]; omega) false)
      rw [hsz] at HN
      have c6 : (w1.setCell ⟨bV, 0, none⟩ (.string sVolume)).cell? ⟨bV, 6, none⟩ = some (.pointer none) := blk_cell hcW 6
      have hcA := alloc_keep (o' := .cells #[.map none, .bool false, .string ⟨#[]⟩] 57) hcW
      have c6' := (blk_cell hcA 6).trans (show _ = some (Value.pointer none) from rfl)
      have f6' := blk_frozen hcA 6
      have HO := Lib.hid ho
      clear hcW hc ho hcA
      go_wp2
      go_end0
      refine ⟨rfl, ⟨pb, some w1.heap.size, ?_⟩, ((HB1.out.setCell (p := ⟨bV, 0, none⟩) hlo _).setCell (p := ⟨bV, 6, none⟩) hlo _).alloc ?_ _⟩
      · have e : popT v false = { v with ty := sVolume, own := some false } := by simp only [popT, HO.out, Option.getD_none]
        rw [e]; exact HN.out
      · simp; omega
  | true =>
    go_upto_region 1 with (go_at_call 24; refine (HP.out _).mono ?_; rintro e w1 ⟨rfl, hb⟩; have HV1 := Aside0.mk (HV.out.below hb); have HB1 := Aside0.mk (below_then HB.out hbase hb); have hb1 := hb.size; clear hb)
    have hc := HV1.out.cells
    have hlo := HV1.out.low
    have hlt := HV1.out.lt
    have c0 : w1.cell? ⟨bV, 0, none⟩ = some (.string v.ty) := blk_cell hc 0
    have f0 : w1.frozen? ⟨bV, 0, none⟩ = false := blk_frozen hc 0
    have HW := Aside0.mk (HV1.out.set (v' := { v with ty := sBind }) 0 (.string sBind) rfl rfl rfl)
    have hcW := HW.out.cells
    have hbd := HW.out.bind
    cases ho : v.bind with
    | some x =>
      obtain ⟨sel, prop, cr⟩ := x
      rw [show ({ v with ty := sBind } : Vol).bind = some (sel, prop, cr) from ho] at hbd
      obtain ⟨bb, rfl, hv1, hv2, hv3⟩ := hbd
      have c5 : (w1.setCell ⟨bV, 0, none⟩ (.string sBind)).cell? ⟨bV, 5, none⟩ = some (.pointer (some ⟨bb, 0, none⟩)) := blk_cell hcW 5
      have c2 : (w1.setCell ⟨bV, 0, none⟩ (.string sBind)).cell? ⟨bb, 2, none⟩ = some (.bool cr) := blk_cell hv3 2
      have f2 : (w1.setCell ⟨bV, 0, none⟩ (.string sBind)).frozen? ⟨bb, 2, none⟩ = false := blk_frozen hv3 2
      have HO := Lib.hid ho
      have HF := Aside0.mk (HW.out.setBind (sel' := sel) (prop' := prop) (cr' := true) ho 2 (.bool true) rfl)
      clear hcW hv3 hc ho hv2
      go_wp2
      go_end0
      refine ⟨rfl, ⟨some bb, pv, ?_⟩, (HB1.out.setCell (p := ⟨bV, 0, none⟩) hlo _).setCell (p := ⟨bb, 2, none⟩) hv1 _⟩
      have e : popT v true = { v with ty := sBind, bind := some (sel, prop, true) } := by simp only [popT, HO.out, Option.map_some, Option.getD_some]
      rw [e]; exact HF.out
    | none =>
      rw [show ({ v with ty := sBind } : Vol).bind = none from ho] at hbd
      have hpb : pb = none := hbd
      subst hpb
      have hsz : (w1.setCell ⟨bV, 0, none⟩ (.string sBind)).heap.size = w1.heap.size := by simp
      have HN := HW.out.newBind (by rw [hsz]; omega) ⟨#[]⟩ ⟨#[]⟩ false
      rw [hsz] at HN
      have c5 : (w1.setCell ⟨bV, 0, none⟩ (.string sBind)).cell? ⟨bV, 5, none⟩ = some (.pointer none) := blk_cell hcW 5
      have hcA := alloc_keep (o' := .cells #[.string ⟨#[]⟩, .string ⟨#[]⟩, .bool false, .string ⟨#[]⟩] 53) hcW
      have c5' := (blk_cell hcA 5).trans (show _ = some (Value.pointer none) from rfl)
      have f5' := blk_frozen hcA 5
      have hN := HN.cells
      have n5 := (blk_cell hN 5).trans (show _ = some (Value.pointer (some ⟨w1.heap.size, 0, none⟩)) from rfl)
      have hNb := HN.bind
      obtain ⟨bb, e1, k1, k2, k3⟩ := hNb
      injection e1 with e1
      subst e1
      have n2 := (blk_cell k3 2).trans (show _ = some (Value.bool false) from rfl)
      have nf2 := blk_frozen k3 2
      have HF := HW.out.newBind (by rw [hsz]; omega) ⟨#[]⟩ ⟨#[]⟩ true
      rw [hsz] at HF
      have HF := Aside0.mk HF
      have HO := Lib.hid ho
      have HN := Aside0.mk HN
      clear hcW hc ho hcA hN k3
      go_wp2
      go_end0
      refine ⟨rfl, ⟨some w1.heap.size, pv, ?_⟩, ?_⟩
      · have e : popT v true = { v with ty := sBind, bind := some (⟨#[]⟩, ⟨#[]⟩, true) } := by simp only [popT, HO.out, Option.map_none, Option.getD_none]
        rw [e]; exact HF.out
      · exact ((HB1.out.setCell (p := ⟨bV, 0, none⟩) hlo _).setCell (p := ⟨bV, 5, none⟩) hlo _).alloc (by simp; omega) _
end Go.Proofs.YtklbghadhneejaaDoor.V
