/- The walks of format.setBindOption and of the loop over options in format.populateFieldFromBuffer. -/
import Derived.Test.YtklbghadhneejaaDoorVolO
namespace Go.Proofs.YtklbghadhneejaaDoor.V
set_option linter.unusedVariables false
set_option linter.unusedSimpArgs false
set_option linter.unusedSectionVars false
open Go.RowKit Go.Proofs.YtklbghadhneejaaDoorW.PrintWords Go.Proofs.YtklbghadhneejaaDoorW.PrintLast Go.Proofs.YtklbghadhneejaaDoor.PX

def isZ (o : ByteArray) : Bool := decide (o.toList = [122]) || decide (o.toList = [90])
def setB (o : ByteArray) (x : ByteArray × ByteArray × Bool) : ByteArray × ByteArray × Bool := if isZ o = true then (o, x.2.1, x.2.2) else (x.1, o, x.2.2)
theorem VolAt.newBind2 {w : World} {base bV : Nat} {v : Vol} {pb pv : Option Nat} (h : VolAt w base bV v pb pv) (hbase : base ≤ w.heap.size) (sel prop : ByteArray) (cr : Bool) : VolAt ((w.alloc (.cells #[.string sel, .string prop, .bool cr, .string ⟨#[]⟩] 53)).setCell ⟨bV, 5, none⟩ (.pointer (some ⟨w.heap.size, 0, none⟩))) base bV { v with bind := some (sel, prop, cr) } (some w.heap.size) pv := by
  have hlt := h.lt
  refine ⟨h.low, blk_put (alloc_keep h.cells) 5 _ rfl, ?_, h.own.move (fun g o hn hg => other_set hn (alloc_keep hg))⟩
  exact ⟨w.heap.size, rfl, hbase, by omega, other_set (by omega) (heap_alloc_new w _)⟩
theorem VolAt.newOwn2 {w : World} {base bV : Nat} {v : Vol} {pb pv : Option Nat} (h : VolAt w base bV v pb pv) (hbase : base ≤ w.heap.size) (nc : Bool) : VolAt ((w.alloc (.cells #[.map none, .bool nc, .string ⟨#[]⟩] 57)).setCell ⟨bV, 6, none⟩ (.pointer (some ⟨w.heap.size, 0, none⟩))) base bV { v with own := some nc } pb (some w.heap.size) := by
  have hlt := h.lt
  refine ⟨h.low, blk_put (alloc_keep h.cells) 6 _ rfl, h.bind.move (fun g o hn hg => other_set hn (alloc_keep hg)), ?_⟩
  exact ⟨w.heap.size, rfl, hbase, by omega, other_set (by omega) (heap_alloc_new w _)⟩
theorem BindAt.some_ {w : World} {base bV : Nat} {sel prop : ByteArray} {cr : Bool} {pb : Option Nat} (h : BindAt w base bV (some (sel, prop, cr)) pb) : ∃ bb, pb = some bb ∧ base ≤ bb ∧ bb ≠ bV ∧ w.heap[bb]? = some (.cells #[.string sel, .string prop, .bool cr, .string ⟨#[]⟩] 53 (0, 0)) := h
set_option maxHeartbeats 2000000 in
theorem format_setBindSELinux (v : Vol) (bV base bb : Nat) (pv : Option Nat) (sel prop o : ByteArray) (cr : Bool) (w w0 : World) (hv : VolAt w base bV v (some bb) pv) (hb : v.bind = some (sel, prop, cr)) (hb0 : Below base w0 w) :
    Calls Tryd.prog 33 #[.pointer (some ⟨bb, 0, none⟩), .string o] w fun e w' => e = .returned (.tuple #[]) ∧ VolAt w' base bV { v with bind := some (o, prop, cr) } (some bb) pv ∧ Below base w0 w' ∧ StrKept w w' := by
  have h3 := hv.bind
  rw [hb] at h3
  obtain ⟨bb', e1, h1, h2, hc⟩ := h3
  injection e1 with e1
  subst e1
  have c0 : w.cell? ⟨bb, 0, none⟩ = some (.string sel) := blk_cell hc 0
  have f0 : w.frozen? ⟨bb, 0, none⟩ = false := blk_frozen hc 0
  have HF := Aside0.mk (hv.setBind (sel' := o) (prop' := prop) (cr' := cr) hb 0 (.string o) rfl)
  have HB := Aside0.mk hb0
  have HC := Aside0.mk hc
  clear hv hb hb0 hc h2
  go_enter Tryd.func33, Tryd.ntmps33
  go_wp2
  go_end0
  exact ⟨rfl, HF.out, HB.out.setCell (p := ⟨bb, 0, none⟩) h1 _, StrKept.set HC.out (by decide) _ _⟩
set_option maxHeartbeats 2000000 in
theorem format_setBindPropagation (v : Vol) (bV base bb : Nat) (pv : Option Nat) (sel prop o : ByteArray) (cr : Bool) (w w0 : World) (hv : VolAt w base bV v (some bb) pv) (hb : v.bind = some (sel, prop, cr)) (hb0 : Below base w0 w) :
    Calls Tryd.prog 34 #[.pointer (some ⟨bb, 0, none⟩), .string o] w fun e w' => e = .returned (.tuple #[]) ∧ VolAt w' base bV { v with bind := some (sel, o, cr) } (some bb) pv ∧ Below base w0 w' ∧ StrKept w w' := by
  have h3 := hv.bind
  rw [hb] at h3
  obtain ⟨bb', e1, h1, h2, hc⟩ := h3
  injection e1 with e1
  subst e1
  have c1 : w.cell? ⟨bb, 1, none⟩ = some (.string prop) := blk_cell hc 1
  have f1 : w.frozen? ⟨bb, 1, none⟩ = false := blk_frozen hc 1
  have HF := Aside0.mk (hv.setBind (sel' := sel) (prop' := o) (cr' := cr) hb 1 (.string o) rfl)
  have HB := Aside0.mk hb0
  have HC := Aside0.mk hc
  clear hv hb hb0 hc h2
  go_enter Tryd.func34, Tryd.ntmps34
  go_wp2
  go_end0
  exact ⟨rfl, HF.out, HB.out.setCell (p := ⟨bb, 1, none⟩) h1 _, StrKept.set HC.out (by decide) _ _⟩
set_option maxHeartbeats 4000000 in
theorem setBind_some (v : Vol) (bV base bb : Nat) (pv : Option Nat) (sel prop o : ByteArray) (cr : Bool) (w w0 : World) (hv : VolAt w base bV v (some bb) pv) (hb : v.bind = some (sel, prop, cr)) (hb0 : Below base w0 w) :
    Calls Tryd.prog 28 #[.pointer (some ⟨bV, 0, none⟩), .string o] w fun e w' => e = .returned (.tuple #[]) ∧ VolAt w' base bV { v with bind := some (setB o (sel, prop, cr)) } (some bb) pv ∧ Below base w0 w' ∧ StrKept w w' := by
  have c5 : w.cell? ⟨bV, 5, none⟩ = some (.pointer (some ⟨bb, 0, none⟩)) := blk_cell hv.cells 5
  have HV := Aside0.mk hv
  have HB := Aside0.mk hb0
  have HO := Lib.hid hb
  clear hv hb hb0
  by_cases hz : isZ o = true
  · have HE := Lib.hid (show setB o (sel, prop, cr) = (o, prop, cr) by rw [setB, if_pos hz])
    have hz2 : o.toList = [122] ∨ (¬ o.toList = [122] ∧ o.toList = [90]) := by
      unfold isZ at hz
      rw [Bool.or_eq_true] at hz
      by_cases h : o.toList = [122]
      · exact .inl h
      · exact .inr ⟨h, hz.elim (fun h1 => absurd (of_decide_eq_true h1) h) of_decide_eq_true⟩
    clear hz
    rcases hz2 with h1 | ⟨h1, h2⟩
    rotate_left
    replace h1 : (o.toList == [122]) = false := beq_false_of_ne h1
    rotate_left
    · go_enter Tryd.func28, Tryd.ntmps28
      go_wp2_with (go_at_call 33; refine (format_setBindSELinux v bV base bb pv sel prop o cr _ w0 HV.out HO.out HB.out).mono ?_; rintro e w1 ⟨rfl, hv, hb, hk⟩; have HV1 := Aside0.mk hv; have HB1 := Aside0.mk hb; have HK1 := Aside0.mk hk; clear hv hb hk)
      go_end0
      exact ⟨rfl, by rw [HE.out]; exact HV1.out, HB1.out, HK1.out⟩
    · go_enter Tryd.func28, Tryd.ntmps28
      go_wp2_with (go_at_call 33; refine (format_setBindSELinux v bV base bb pv sel prop o cr _ w0 HV.out HO.out HB.out).mono ?_; rintro e w1 ⟨rfl, hv, hb, hk⟩; have HV1 := Aside0.mk hv; have HB1 := Aside0.mk hb; have HK1 := Aside0.mk hk; clear hv hb hk)
      go_end0
      exact ⟨rfl, by rw [HE.out]; exact HV1.out, HB1.out, HK1.out⟩
  · have HE := Lib.hid (show setB o (sel, prop, cr) = (sel, o, cr) by rw [setB, if_neg hz])
    have h1 : (o.toList == [122]) = false := beq_false_of_ne (fun h => hz (by simp [isZ, h]))
    have h2 : (o.toList == [90]) = false := beq_false_of_ne (fun h => hz (by simp [isZ, h]))
    clear hz
    go_enter Tryd.func28, Tryd.ntmps28
    go_wp2_with (go_at_call 34; refine (format_setBindPropagation v bV base bb pv sel prop o cr _ w0 HV.out HO.out HB.out).mono ?_; rintro e w1 ⟨rfl, hv, hb, hk⟩; have HV1 := Aside0.mk hv; have HB1 := Aside0.mk hb; have HK1 := Aside0.mk hk; clear hv hb hk)
    go_end0
    exact ⟨rfl, by rw [HE.out]; exact HV1.out, HB1.out, HK1.out⟩
set_option maxHeartbeats 4000000 in
theorem setBind_none (v : Vol) (bV base : Nat) (pv : Option Nat) (o : ByteArray) (w w0 : World) (hv : VolAt w base bV v none pv) (hb : v.bind = none) (hb0 : Below base w0 w) (hbase : base ≤ w.heap.size) :
    Calls Tryd.prog 28 #[.pointer (some ⟨bV, 0, none⟩), .string o] w fun e w' => e = .returned (.tuple #[]) ∧ VolAt w' base bV { v with bind := some (setB o (⟨#[]⟩, ⟨#[]⟩, false)) } (some w.heap.size) pv ∧ Below base w0 w' ∧ StrKept w w' := by
  have c5 : w.cell? ⟨bV, 5, none⟩ = some (.pointer none) := blk_cell hv.cells 5
  have hcA := alloc_keep (o' := .cells #[.string ⟨#[]⟩, .string ⟨#[]⟩, .bool false, .string ⟨#[]⟩] 53) hv.cells
  have c5' := (blk_cell hcA 5).trans (show _ = some (Value.pointer none) from rfl)
  have f5' := blk_frozen hcA 5
  have HN := hv.newBind2 hbase ⟨#[]⟩ ⟨#[]⟩ false
  have n5 := (blk_cell HN.cells 5).trans (show _ = some (Value.pointer (some ⟨w.heap.size, 0, none⟩)) from rfl)
  have HBN := Aside0.mk ((hb0.alloc hbase (.cells #[.string ⟨#[]⟩, .string ⟨#[]⟩, .bool false, .string ⟨#[]⟩] 53)).setCell (p := ⟨bV, 5, none⟩) hv.low (.pointer (some ⟨w.heap.size, 0, none⟩)))
  have HN := Aside0.mk HN
  have HCC := Aside0.mk hv.cells
  clear hv hb hb0 hcA
  by_cases hz : isZ o = true
  · have HE := Lib.hid (show setB o (⟨#[]⟩, ⟨#[]⟩, false) = (o, ⟨#[]⟩, false) by rw [setB, if_pos hz])
    have hz2 : o.toList = [122] ∨ (¬ o.toList = [122] ∧ o.toList = [90]) := by
      unfold isZ at hz
      rw [Bool.or_eq_true] at hz
      by_cases h : o.toList = [122]
      · exact .inl h
      · exact .inr ⟨h, hz.elim (fun h1 => absurd (of_decide_eq_true h1) h) of_decide_eq_true⟩
    clear hz
    rcases hz2 with h1 | ⟨h1, h2⟩
    rotate_left
    replace h1 : (o.toList == [122]) = false := beq_false_of_ne h1
    rotate_left
    · go_enter Tryd.func28, Tryd.ntmps28
      go_wp2_with (go_at_call 33; refine (format_setBindSELinux _ bV base w.heap.size pv ⟨#[]⟩ ⟨#[]⟩ o false _ w0 HN.out rfl HBN.out).mono ?_; rintro e w1 ⟨rfl, hv, hb, hk⟩; have HV1 := Aside0.mk hv; have HB1 := Aside0.mk hb; have HK1 := Aside0.mk hk; clear hv hb hk)
      go_end0
      exact ⟨rfl, by rw [HE.out]; exact HV1.out, HB1.out, (StrKept.alloc w _).trans ((StrKept.set (alloc_keep HCC.out) (by decide) 5 _).trans HK1.out)⟩
    · go_enter Tryd.func28, Tryd.ntmps28
      go_wp2_with (go_at_call 33; refine (format_setBindSELinux _ bV base w.heap.size pv ⟨#[]⟩ ⟨#[]⟩ o false _ w0 HN.out rfl HBN.out).mono ?_; rintro e w1 ⟨rfl, hv, hb, hk⟩; have HV1 := Aside0.mk hv; have HB1 := Aside0.mk hb; have HK1 := Aside0.mk hk; clear hv hb hk)
      go_end0
      exact ⟨rfl, by rw [HE.out]; exact HV1.out, HB1.out, (StrKept.alloc w _).trans ((StrKept.set (alloc_keep HCC.out) (by decide) 5 _).trans HK1.out)⟩
  · have HE := Lib.hid (show setB o (⟨#[]⟩, ⟨#[]⟩, false) = (⟨#[]⟩, o, false) by rw [setB, if_neg hz])
    have h1 : (o.toList == [122]) = false := beq_false_of_ne (fun h => hz (by simp [isZ, h]))
    have h2 : (o.toList == [90]) = false := beq_false_of_ne (fun h => hz (by simp [isZ, h]))
    clear hz
    go_enter Tryd.func28, Tryd.ntmps28
    go_wp2_with (go_at_call 34; refine (format_setBindPropagation _ bV base w.heap.size pv ⟨#[]⟩ ⟨#[]⟩ o false _ w0 HN.out rfl HBN.out).mono ?_; rintro e w1 ⟨rfl, hv, hb, hk⟩; have HV1 := Aside0.mk hv; have HB1 := Aside0.mk hb; have HK1 := Aside0.mk hk; clear hv hb hk)
    go_end0
    exact ⟨rfl, by rw [HE.out]; exact HV1.out, HB1.out, (StrKept.alloc w _).trans ((StrKept.set (alloc_keep HCC.out) (by decide) 5 _).trans HK1.out)⟩
theorem format_setBindOption (v : Vol) (bV base : Nat) (pb pv : Option Nat) (o : ByteArray) (w w0 : World) (hv : VolAt w base bV v pb pv) (hb0 : Below base w0 w) (hbase : base ≤ w.heap.size) :
    Calls Tryd.prog 28 #[.pointer (some ⟨bV, 0, none⟩), .string o] w fun e w' => e = .returned (.tuple #[]) ∧ (∃ pb', VolAt w' base bV { v with bind := some (setB o (v.bind.getD (⟨#[]⟩, ⟨#[]⟩, false))) } pb' pv) ∧ Below base w0 w' ∧ StrKept w w' := by
  have hbd := hv.bind
  cases hx : v.bind with
  | none =>
    rw [hx] at hbd
    have hpb : pb = none := hbd
    subst hpb
    exact (setBind_none v bV base pv o w w0 hv hx hb0 hbase).mono (fun e w' ⟨h1, h2, h3, h4⟩ => ⟨h1, ⟨_, h2⟩, h3, h4⟩)
  | some x =>
    obtain ⟨sel, prop, cr⟩ := x
    rw [hx] at hbd
    obtain ⟨bb, rfl, _⟩ := hbd.some_
    exact (setBind_some v bV base bb pv sel prop o cr w w0 hv hx hb0).mono (fun e w' ⟨h1, h2, h3, h4⟩ => ⟨h1, ⟨_, h2⟩, h3, h4⟩)
def isB (o : ByteArray) : Bool := (format_isBindOption.f o).getD false
theorem isB_f (o : ByteArray) : format_isBindOption.f o = some (isB o) := by
  unfold isB
  have : ∃ r, format_isBindOption.f o = some r := by
    unfold format_isBindOption.f
    repeat' split
    all_goals exact ⟨_, rfl⟩
  obtain ⟨r, hr⟩ := this
  rw [hr]; rfl
/-- What an option does. -/
def optStep (v : Vol) (o : ByteArray) : Vol :=
  if o.toList = [114, 111] then { v with ro := true } else if o.toList = [114, 119] then { v with ro := false } else if o.toList = [110, 111, 99, 111, 112, 121] then { v with own := some true }
  else if isB o = true then { v with bind := some (setB o (v.bind.getD (⟨#[]⟩, ⟨#[]⟩, false))) } else v
theorem add_block (a : Addr) (n : Nat) : (a.add n).block = a.block := by unfold Addr.add; split <;> rfl
theorem at_kept {w w' : World} {a : Addr} {cs : Array Value} {u : Value} (hg : w.heap[a.block]? = some (.cells cs 9 (0, 0))) (hk : w'.heap[a.block]? = some (.cells cs 9 (0, 0))) (h : w.cell? a = some u) : w'.cell? a = some u := by
  rw [← h]; exact World.cell?_of_block (hk.trans hg.symm)
set_option maxHeartbeats 8000000 in
set_option maxRecDepth 100000 in
theorem format_populate_opts (v : Vol) (bV base : Nat) (pb pv : Option Nat) (A : Option Addr) (n c : Nat) (p : ByteArray) (w w0 : World) (hv : VolAt w base bV v pb pv) (hcv : (convert 61 9 (.slice A n c)).run Tryd.prog w = .ok (.string p) w) (hn : 0 < n) (hb0 : Below base w0 w) (hbase : base ≤ w.heap.size) (hbw : base ≤ w0.heap.size) (hsrc : v.src ≠ ⟨#[]⟩) (htgt : v.tgt ≠ ⟨#[]⟩) (hp : p.size ≤ 4294967296) :
    Calls Tryd.prog 22 #[.int .i32 0, .slice A n c, .pointer (some ⟨bV, 0, none⟩)] w fun e w' => e = .returned .nilIface ∧ (∃ pb' pv', VolAt w' base bV ((splitC p.size p).foldl optStep v) pb' pv') ∧ Below base w0 w' ∧ StrKept w w' := by
  have HV := Aside0.mk hv
  have HB := Aside0.mk hb0
  have c1 : w.cell? ⟨bV, 1, none⟩ = some (.string v.src) := blk_cell hv.cells 1
  have c2 : w.cell? ⟨bV, 2, none⟩ = some (.string v.tgt) := blk_cell hv.cells 2
  have hn0 : ((n : Int) == 0) = false := beq_false_of_ne (by omega)
  have hz : (⟨#[]⟩ : ByteArray).toList = [] := by rw [ByteArray.toList_eq]
  have e1 := isEmpty_false hsrc
  have e2 := isEmpty_false htgt
  clear hv hb0 hsrc htgt
  obtain ⟨os, hos⟩ : ∃ os, os = splitC p.size p := ⟨_, rfl⟩
  have hosl : os.length ≤ 4294967297 := by rw [hos]; exact Nat.le_trans (splitC_len _ _) (by omega)
  rw [← hos]
  have HOS := Lib.hid hos
  clear hos
  go_enter Tryd.func22, Tryd.ntmps22
  go_wp2_with (go_at_call 26; refine (format_zzSplit p _ hp).mono ?_; rintro e w1 ⟨v1, rfl, ho, hb⟩; rw [← HOS.out] at ho; have HV1 := Aside0.mk (HV.out.below hb); have HB1 := Aside0.mk (below_then HB.out hbase hb); have HKW := Aside0.mk (StrKept.below hb); have hb1 := hb.size; obtain ⟨A1, k1, rfl, hl1, hC1⟩ := Kd.R_reads ho; have HC1 := Aside0.mk hC1; have HTY := Aside0.mk (Kd.R_typed ho); clear hb ho hC1)
  go_loopw [58] (fun v58 wr => ∃ i : Nat, i ≤ os.length ∧ v58 = .int .i64 i ∧ Aside0 (∃ pb' pv', VolAt wr base bV ((os.take i).foldl optStep v) pb' pv') ∧ Aside0 (Below base w0 wr) ∧ Aside0 (StrKept w1 wr) ∧ base ≤ wr.heap.size) (fun v58 _ => os.length - (intOf v58).toNat)
  case atStart => exact ⟨0, Nat.zero_le _, rfl, ⟨pb, pv, HV1.out⟩, HB1, ⟨StrKept.refl _⟩, Nat.le_trans hbase hb1⟩
  case round =>
    obtain ⟨i, hi, rfl, HVV, HB, HK, hws⟩ := hrel
    by_cases hlt : i < os.length
    · obtain ⟨ad0, rfl, hx0⟩ := Kd.at_string HC1.out (i : Int) (by omega) (by omega)
      obtain ⟨cs, hcs0⟩ := HTY.out ad0.block rfl
      have hcs : w1.heap[(ad0.add (Int.toNat (i : Int))).block]? = some (Obj.cells cs 9 (0, 0)) := by rw [add_block]; exact hcs0
      replace hx0 := at_kept (a := ad0.add (Int.toNat (i : Int))) hcs (HK.out _ _ hcs (keepS _)) hx0
      clear hcs hcs0
      simp only [Int.toNat_natCast] at hx0
      obtain ⟨o, hs⟩ : ∃ o, o = os[i] := ⟨_, rfl⟩
      have hs' : rdOf ByteArray.empty os (i : Int) = o := by rw [hs]; simp [rdOf, List.getD_eq_getElem?_getD, List.getElem?_eq_getElem hlt]
      rw [hs'] at hx0
      obtain ⟨pb', pv', hvv⟩ := HVV.out
      obtain ⟨u, hu⟩ : ∃ u, u = (os.take i).foldl optStep v := ⟨_, rfl⟩
      have HN := Lib.hid (show (os.take (i + 1)).foldl optStep v = optStep u o by rw [List.take_succ_eq_append_getElem hlt, List.foldl_append, hu, hs]; rfl)
      rw [← hu] at hvv
      have c3 : wr.cell? ⟨bV, 3, none⟩ = some (.bool u.ro) := blk_cell hvv.cells 3
      have f3 : wr.frozen? ⟨bV, 3, none⟩ = false := blk_frozen hvv.cells 3
      have hlo := hvv.low
      have HU := Aside0.mk hvv
      clear hs hs' hu HVV
      by_cases q1 : o.toList = [114, 111]
      · have HE := Lib.hid (show optStep u o = { u with ro := true } by rw [optStep, if_pos q1])
        have HF := Aside0.mk (HU.out.set (v' := { u with ro := true }) 3 (.bool true) rfl rfl rfl)
        have HS := Aside0.mk (StrKept.set hvv.cells (by decide) 3 (.bool true))
        clear hvv
        go_wp2
        exact ⟨⟨i + 1, by omega, by first | rfl | simp, ⟨pb', pv', by rw [HN.out, HE.out]; exact HF.out⟩, ⟨HB.out.setCell (p := ⟨bV, 3, none⟩) hlo _⟩, ⟨HK.out.trans HS.out⟩, by simp; exact hws⟩, by simp [intOf]; omega⟩
      · have n1 : (o.toList == [114, 111]) = false := beq_false_of_ne q1
        by_cases q2 : o.toList = [114, 119]
        · have HE := Lib.hid (show optStep u o = { u with ro := false } by rw [optStep, if_neg q1, if_pos q2])
          have HF := Aside0.mk (HU.out.set (v' := { u with ro := false }) 3 (.bool false) rfl rfl rfl)
          have HS := Aside0.mk (StrKept.set hvv.cells (by decide) 3 (.bool false))
          clear hvv q1
          go_wp2
          exact ⟨⟨i + 1, by omega, by first | rfl | simp, ⟨pb', pv', by rw [HN.out, HE.out]; exact HF.out⟩, ⟨HB.out.setCell (p := ⟨bV, 3, none⟩) hlo _⟩, ⟨HK.out.trans HS.out⟩, by simp; exact hws⟩, by simp [intOf]; omega⟩
        · have n2 : (o.toList == [114, 119]) = false := beq_false_of_ne q2
          by_cases q3 : o.toList = [110, 111, 99, 111, 112, 121]
          · have HE := Lib.hid (show optStep u o = { u with own := some true } by rw [optStep, if_neg q1, if_neg q2, if_pos q3])
            have hlow : base ≤ wr.heap.size := hws
            have HF := Aside0.mk (HU.out.newOwn2 hlow true)
            have hcA := alloc_keep (o' := .cells #[.map none, .bool true, .string ⟨#[]⟩] 57) hvv.cells
            have hcB := alloc_keep (o' := .cells #[.map none, .bool false, .string ⟨#[]⟩] 57) hvv.cells
            have c6 := (blk_cell hcA 6).trans (show _ = some (encP pv') from rfl)
            have f6 := blk_frozen hcA 6
            have HS := Aside0.mk ((StrKept.alloc wr (.cells #[.map none, .bool true, .string ⟨#[]⟩] 57)).trans (StrKept.set hcA (by decide) 6 (.pointer (some ⟨wr.heap.size, 0, none⟩))))
            clear hvv q1 q2 hcA hcB
            go_wp2
            exact ⟨⟨i + 1, by omega, by first | rfl | simp, ⟨pb', some wr.heap.size, by rw [HN.out, HE.out]; exact HF.out⟩, ⟨(HB.out.alloc hlow _).setCell (p := ⟨bV, 6, none⟩) hlo _⟩, ⟨HK.out.trans HS.out⟩, by simp; omega⟩, by simp [intOf]; omega⟩
          · have n3 : (o.toList == [110, 111, 99, 111, 112, 121]) = false := beq_false_of_ne q3
            have hlow : base ≤ wr.heap.size := hws
            have hif := isB_f o
            have hst : optStep u o = if isB o = true then { u with bind := some (setB o (u.bind.getD (⟨#[]⟩, ⟨#[]⟩, false))) } else u := by rw [optStep, if_neg q1, if_neg q2, if_neg q3]
            clear q1 q2 q3 hvv
            cases hb' : isB o with
            | true =>
              rw [hb'] at hif hst
              rw [if_pos rfl] at hst
              have HE := Lib.hid hst
              have HIF := Aside0.mk hif
              clear hb' hif hst
              go_wp2_with (first
                | (go_at_call 27; refine (format_isBindOption.calls o true _ HIF.out).mono ?_; rintro e w2 ⟨rfl, hd⟩; have hb := hd.below; have HU2 := Aside0.mk (HU.out.below hb); have HB2 := Aside0.mk (below_then HB.out hlow hb); have HK2 := Aside0.mk (HK.out.trans (StrKept.below hb)); have hs2 := hb.size; clear hd hb)
                | (go_at_call 28; refine (format_setBindOption u bV base pb' pv' o _ w0 HU2.out HB2.out (Nat.le_trans hlow hs2)).mono ?_; rintro e w3 ⟨rfl, hv3, hb3, hk3⟩; have HV3 := Aside0.mk hv3; have HB3 := Aside0.mk hb3; have HK3 := Aside0.mk (HK2.out.trans hk3); clear hv3 hb3 hk3))
              obtain ⟨pb3, hv3⟩ := HV3.out
              exact ⟨⟨i + 1, by omega, by first | rfl | simp, ⟨pb3, pv', by rw [HN.out, HE.out]; exact hv3⟩, HB3, HK3, Nat.le_trans hbw HB3.out.size⟩, by simp [intOf]; omega⟩
            | false =>
              rw [hb'] at hif hst
              rw [if_neg (by decide)] at hst
              have HE := Lib.hid hst
              have HIF := Aside0.mk hif
              clear hb' hif hst
              go_wp2_with (go_at_call 27; refine (format_isBindOption.calls o false _ HIF.out).mono ?_; rintro e w2 ⟨rfl, hd⟩; have hb := hd.below; have HF := Aside0.mk (HU.out.below hb); have HB2 := Aside0.mk (below_then HB.out hlow hb); have HK2 := Aside0.mk (HK.out.trans (StrKept.below hb)); have hs2 := hb.size; clear hd hb)
              exact ⟨⟨i + 1, by omega, by first | rfl | simp, ⟨pb', pv', by rw [HN.out, HE.out]; exact HF.out⟩, HB2, HK2, Nat.le_trans hbw HB2.out.size⟩, by simp [intOf]; omega⟩
    · go_wp2
      go_ret
      obtain rfl : i = os.length := by omega
      rw [List.take_length] at HVV
      exact ⟨rfl, HVV.out, HB.out, HKW.out.trans HK.out⟩
end Go.Proofs.YtklbghadhneejaaDoor.V
