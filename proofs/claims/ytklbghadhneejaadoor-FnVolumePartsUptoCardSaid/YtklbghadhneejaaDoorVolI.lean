/- The walk of impl.ParseVolume where the volume has its own part alone, and of laws.shortAwake. -/
import Derived.Test.YtklbghadhneejaaDoorVolM
import Derived.Laws.CopyOwn
namespace Go.Proofs.YtklbghadhneejaaDoor.V
set_option linter.unusedVariables false
set_option linter.unusedSimpArgs false
set_option linter.unusedSectionVars false
open Go.RowKit Go.Proofs.YtklbghadhneejaaDoorW.PrintWords Go.Proofs.YtklbghadhneejaaDoorW.PrintLast Go.Proofs.YtklbghadhneejaaDoor.PX

def implCells (v : Vol) : Array Value := #[.string v.ty, .string v.src, .string v.tgt, .string ⟨#[]⟩, .string ((v.bind.map (·.2.1)).getD ⟨#[]⟩), .string ((v.bind.map (·.1)).getD ⟨#[]⟩), .bool v.ro, .bool ((v.bind.map (·.2.2)).getD false), .bool (v.own.getD false), .bool v.bind.isSome, .bool v.own.isSome, .bool false]
theorem load_impl (w : World) (bR : Nat) (a0 a1 a2 a3 a4 a5 : ByteArray) (b6 b7 b8 b9 b10 b11 : Bool) (hc : w.heap[bR]? = some (.cells #[.string a0, .string a1, .string a2, .string a3, .string a4, .string a5, .bool b6, .bool b7, .bool b8, .bool b9, .bool b10, .bool b11] 30 (0, 0))) :
    (loadVar 30 ⟨bR, 0, none⟩).run Tryd.prog w = .ok (.agg #[.string a0, .string a1, .string a2, .string a3, .string a4, .string a5, .bool b6, .bool b7, .bool b8, .bool b9, .bool b10, .bool b11]) w := by
  have x0 := (blk_cell hc 0).trans (show _ = some (Value.string a0) from rfl)
  have x1 := (blk_cell hc 1).trans (show _ = some (Value.string a1) from rfl)
  have x2 := (blk_cell hc 2).trans (show _ = some (Value.string a2) from rfl)
  have x3 := (blk_cell hc 3).trans (show _ = some (Value.string a3) from rfl)
  have x4 := (blk_cell hc 4).trans (show _ = some (Value.string a4) from rfl)
  have x5 := (blk_cell hc 5).trans (show _ = some (Value.string a5) from rfl)
  have x6 := (blk_cell hc 6).trans (show _ = some (Value.bool b6) from rfl)
  have x7 := (blk_cell hc 7).trans (show _ = some (Value.bool b7) from rfl)
  have x8 := (blk_cell hc 8).trans (show _ = some (Value.bool b8) from rfl)
  have x9 := (blk_cell hc 9).trans (show _ = some (Value.bool b9) from rfl)
  have x10 := (blk_cell hc 10).trans (show _ = some (Value.bool b10) from rfl)
  have x11 := (blk_cell hc 11).trans (show _ = some (Value.bool b11) from rfl)
  clear hc
  go_simp
theorem results_impl (tmps : Array Value) (w : World) (bR : Nat) {a0 a1 a2 a3 a4 a5 : ByteArray} {b6 b7 b8 b9 b10 b11 : Bool} (h2 : tmps.getD 2 undef = .pointer (some ⟨bR, 0, none⟩)) (h3 : tmps.getD 3 undef = .bool true) (hc : w.heap[bR]? = some (.cells #[.string a0, .string a1, .string a2, .string a3, .string a4, .string a5, .bool b6, .bool b7, .bool b8, .bool b9, .bool b10, .bool b11] 30 (0, 0))) :
    (results Tryd.f8 tmps).run Tryd.prog w = .ok (.tuple #[.agg #[.string a0, .string a1, .string a2, .string a3, .string a4, .string a5, .bool b6, .bool b7, .bool b8, .bool b9, .bool b10, .bool b11], .bool true]) w := by
  have hl := load_impl w bR a0 a1 a2 a3 a4 a5 b6 b7 b8 b9 b10 b11 hc
  rw [results_cell_tmp rfl, h2, h3]
  have ha : (asAddr (.pointer (some ⟨bR, 0, none⟩))).run Tryd.prog w = .ok ⟨bR, 0, none⟩ w := rfl
  rw [ha]
  simp only [Result.andThen, hl]
set_option maxHeartbeats 8000000 in
set_option maxRecDepth 100000 in
theorem impl_ParseVolume_own (s : ByteArray) (vF : Vol) (p : Bool) (nc : Bool) (w : World) (h3 : 3 ≤ s.size) (hs : s.size ≤ 4294967294) (hrun : run vol0 [] ((s ++ (⟨#[0]⟩ : ByteArray)).data.toList) = some vF) (hp : IsPath vF.src p) (hps : vF.src.size ≤ 4294967296) (hb : (popT vF p).bind = none) (ho : (popT vF p).own = some nc) :
    Calls Tryd.prog 8 #[.string s] w fun e w' => e = .returned (.tuple #[.agg (implCells (popT vF p)), .bool true]) ∧ Below w.heap.size w w' := by
  have HP := Lib.hid (fun W => format_ParseVolume s vF p W h3 hs hrun hp hps)
  obtain ⟨v, hv⟩ : ∃ v, v = popT vF p := ⟨_, rfl⟩
  rw [← hv] at HP hb ho ⊢
  have HBN := Lib.hid hb
  have HON := Lib.hid ho
  have HIC := Lib.hid (show implCells v = #[.string v.ty, .string v.src, .string v.tgt, .string ⟨#[]⟩, .string ⟨#[]⟩, .string ⟨#[]⟩, .bool v.ro, .bool false, .bool nc, .bool false, .bool true, .bool false] by rw [implCells, hb, ho]; rfl)
  clear h3 hs hrun hp hps hb ho hv
  go_enter Tryd.func8, Tryd.ntmps8
  go_upto_region 9 with (go_at_call 16; refine (HP.out _).mono ?_; rintro e w1 ⟨pb, pv, rfl, ⟨bV, hbi, how⟩, hb1⟩; rw [HBN.out] at hbi; rw [HON.out] at how; have hpb : pb = none := hbi; subst hpb; obtain ⟨bv, rfl, ho1, ho2, ho3⟩ := how; have HB1 := Aside0.mk hb1; have hcv : volCells v none (some bv) = #[.string v.ty, .string v.src, .string v.tgt, .bool v.ro, .string ⟨#[]⟩, .pointer none, .pointer (some ⟨bv, 0, none⟩), .pointer none] := rfl; have x1 := (blk_cell (alloc_keep (o' := .cells #[.string v.ty, .string v.src, .string v.tgt, .string ⟨#[]⟩, .string ⟨#[]⟩, .string ⟨#[]⟩, .bool v.ro, .bool false, .bool false, .bool false, .bool true, .bool false] 30) (alloc_keep (o' := .cells #[.string v.ty, .string v.src, .string v.tgt, .bool v.ro, .string ⟨#[]⟩, .pointer none, .pointer (some ⟨bv, 0, none⟩), .pointer none] 46) ho3)) 1).trans (show _ = some (Value.bool nc) from rfl); have hR : w1.heap[w.heap.size]? = some (.cells #[.string ⟨#[]⟩, .string ⟨#[]⟩, .string ⟨#[]⟩, .string ⟨#[]⟩, .string ⟨#[]⟩, .string ⟨#[]⟩, .bool false, .bool false, .bool false, .bool false, .bool false, .bool false] 30 (0, 0)) := (hb1.block _ (by simp)).trans (heap_alloc_new w _); have hRR := alloc_keep (o' := .cells #[.string v.ty, .string v.src, .string v.tgt, .string ⟨#[]⟩, .string ⟨#[]⟩, .string ⟨#[]⟩, .bool v.ro, .bool false, .bool nc, .bool false, .bool true, .bool false] 30) (alloc_keep (o' := .cells #[.string v.ty, .string v.src, .string v.tgt, .bool v.ro, .string ⟨#[]⟩, .pointer none, .pointer (some ⟨bv, 0, none⟩), .pointer none] 46) hR); have HR := Aside0.mk hRR; rw [hcv]; clear hbi hb1 hcv hR hRR)
  clear x1 ho1 ho2 ho3
  have hL := heap_alloc_new (w1.alloc (.cells #[.string v.ty, .string v.src, .string v.tgt, .bool v.ro, .string ⟨#[]⟩, .pointer none, .pointer (some ⟨bv, 0, none⟩), .pointer none] 46)) (.cells #[.string v.ty, .string v.src, .string v.tgt, .string ⟨#[]⟩, .string ⟨#[]⟩, .string ⟨#[]⟩, .bool v.ro, .bool false, .bool nc, .bool false, .bool true, .bool false] 30)
  rw [show (w1.alloc (.cells #[.string v.ty, .string v.src, .string v.tgt, .bool v.ro, .string ⟨#[]⟩, .pointer none, .pointer (some ⟨bv, 0, none⟩), .pointer none] 46)).heap.size = w1.heap.size + 1 by simp] at hL
  have hR := HR.out
  have hB : Below w.heap.size w ((w1.alloc (.cells #[.string v.ty, .string v.src, .string v.tgt, .bool v.ro, .string ⟨#[]⟩, .pointer none, .pointer (some ⟨bv, 0, none⟩), .pointer none] 46)).alloc (.cells #[.string v.ty, .string v.src, .string v.tgt, .string ⟨#[]⟩, .string ⟨#[]⟩, .string ⟨#[]⟩, .bool v.ro, .bool false, .bool nc, .bool false, .bool true, .bool false] 30)) := by
    have h0 : Below w.heap.size w w1 := ((Below.refl _ _).alloc (Nat.le_refl _) _).trans (HB1.out.mono (by simp))
    exact (h0.alloc h0.size (.cells #[.string v.ty, .string v.src, .string v.tgt, .bool v.ro, .string ⟨#[]⟩, .pointer none, .pointer (some ⟨bv, 0, none⟩), .pointer none] 46)).alloc (by simp; have := h0.size; omega) (.cells #[.string v.ty, .string v.src, .string v.tgt, .string ⟨#[]⟩, .string ⟨#[]⟩, .string ⟨#[]⟩, .bool v.ro, .bool false, .bool nc, .bool false, .bool true, .bool false] 30)
  clear HR HB1 HP
  generalize (w1.alloc (.cells #[.string v.ty, .string v.src, .string v.tgt, .bool v.ro, .string ⟨#[]⟩, .pointer none, .pointer (some ⟨bv, 0, none⟩), .pointer none] 46)).alloc (.cells #[.string v.ty, .string v.src, .string v.tgt, .string ⟨#[]⟩, .string ⟨#[]⟩, .string ⟨#[]⟩, .bool v.ro, .bool false, .bool nc, .bool false, .bool true, .bool false] 30) = W at hL hR hB ⊢
  have HR := Aside0.mk hR
  have HB := Aside0.mk hB
  clear hB
  have hcs : ∃ cs, cs = (#[.string v.ty, .string v.src, .string v.tgt, .string ⟨#[]⟩, .string ⟨#[]⟩, .string ⟨#[]⟩, .bool v.ro, .bool false, .bool nc, .bool false, .bool true, .bool false] : Array Value) := ⟨_, rfl⟩
  obtain ⟨cs, hcs⟩ := hcs
  rw [← hcs] at hL
  have hcz : cs.size = 12 := by rw [hcs]; rfl
  have hc1 : cs.all (·.oneCell') = true := by rw [hcs]; simp [Value.oneCell']
  have hi : (Tryd.prog.info? 30).map (·.size) = some cs.size := by rw [hcz]; kernel_rfl
  have HCS := Lib.hid hcs
  have HL := Aside0.mk hL
  have HI := Aside0.mk hi
  have HCZ := Lib.hid hcz
  have HC1 := Lib.hid hc1
  clear hL hR hcs hi hcz hc1
  go_wp2_with (first
    | (refine wpList_load_row rfl 30 _ rfl (w1.heap.size + 1) rfl 30 cs (0, 0) _ HL.out Tryd.underlying30 rfl HI.out ?_)
    | (refine wpList_store_row rfl 30 _ _ rfl w.heap.size cs rfl rfl 30 _ HR.out HI.out HCZ.out.symm HC1.out ?_))
  have g : (W.setRow w.heap.size cs).heap[w.heap.size]? = some (.cells #[.string v.ty, .string v.src, .string v.tgt, .string ⟨#[]⟩, .string ⟨#[]⟩, .string ⟨#[]⟩, .bool v.ro, .bool false, .bool nc, .bool false, .bool true, .bool false] 30 (0, 0)) := by rw [setRow_heap W w.heap.size _ cs 30 (0, 0) HR.out, HCS.out]
  refine bodyPost_ret (results_impl _ _ _ rfl rfl g) rfl ⟨by rw [HIC.out], ?_⟩
  exact below_setRow HB.out (Nat.le_refl _) _
end Go.Proofs.YtklbghadhneejaaDoor.V
