/- The walk of impl.ParseVolume where the volume has a bind's part alone. -/
import Derived.Test.YtklbghadhneejaaDoorVolI
namespace Go.Proofs.YtklbghadhneejaaDoor.V
set_option linter.unusedVariables false
set_option linter.unusedSimpArgs false
set_option linter.unusedSectionVars false
open Go.RowKit Go.Proofs.YtklbghadhneejaaDoorW.PrintWords Go.Proofs.YtklbghadhneejaaDoorW.PrintLast Go.Proofs.YtklbghadhneejaaDoor.PX

theorem cell_set_blk {w : World} {b g : Nat} (h : g ≠ b) (i j : Nat) (u : Value) : (w.setCell ⟨b, i, none⟩ u).cell? ⟨g, j, none⟩ = w.cell? ⟨g, j, none⟩ := by
  refine World.cell?_of_block ?_
  unfold World.setCell
  simp [Array.getElem?_modify, Ne.symm h]
set_option maxHeartbeats 8000000 in
set_option maxRecDepth 100000 in
theorem impl_ParseVolume_bind (s : ByteArray) (vF : Vol) (p : Bool) (sel prop : ByteArray) (cr : Bool) (w : World) (h3 : 3 ≤ s.size) (hs : s.size ≤ 4294967294) (hrun : run vol0 [] ((s ++ (⟨#[0]⟩ : ByteArray)).data.toList) = some vF) (hp : IsPath vF.src p) (hps : vF.src.size ≤ 4294967296) (hb : (popT vF p).bind = some (sel, prop, cr)) (ho : (popT vF p).own = none) :
    Calls Tryd.prog 8 #[.string s] w fun e w' => e = .returned (.tuple #[.agg (implCells (popT vF p)), .bool true]) ∧ Below w.heap.size w w' := by
  have HP := Lib.hid (fun W => format_ParseVolume s vF p W h3 hs hrun hp hps)
  obtain ⟨v, hv⟩ : ∃ v, v = popT vF p := ⟨_, rfl⟩
  rw [← hv] at HP hb ho ⊢
  have HBN := Lib.hid hb
  have HON := Lib.hid ho
  have HIC := Lib.hid (show implCells v = #[.string v.ty, .string v.src, .string v.tgt, .string ⟨#[]⟩, .string prop, .string sel, .bool v.ro, .bool cr, .bool false, .bool true, .bool false, .bool false] by rw [implCells, hb, ho]; rfl)
  clear h3 hs hrun hp hps hb ho hv
  go_enter Tryd.func8, Tryd.ntmps8
  go_upto_region 6 with (go_at_call 16; refine (HP.out _).mono ?_; rintro e w1 ⟨pb, pv, rfl, ⟨bV, hbi, how⟩, hb1⟩; rw [HBN.out] at hbi; rw [HON.out] at how; have hpv : pv = none := how; subst hpv; obtain ⟨bb, rfl, ho1, ho2, ho3⟩ := hbi; have HB1 := Aside0.mk hb1; have hcv : volCells v (some bb) none = #[.string v.ty, .string v.src, .string v.tgt, .bool v.ro, .string ⟨#[]⟩, .pointer (some ⟨bb, 0, none⟩), .pointer none, .pointer none] := rfl; have hR : w1.heap[w.heap.size]? = some (.cells #[.string ⟨#[]⟩, .string ⟨#[]⟩, .string ⟨#[]⟩, .string ⟨#[]⟩, .string ⟨#[]⟩, .string ⟨#[]⟩, .bool false, .bool false, .bool false, .bool false, .bool false, .bool false] 30 (0, 0)) := (hb1.block _ (by simp)).trans (heap_alloc_new w _); have hRR := alloc_keep (o' := .cells #[.string v.ty, .string v.src, .string v.tgt, .string ⟨#[]⟩, .string ⟨#[]⟩, .string ⟨#[]⟩, .bool v.ro, .bool false, .bool false, .bool true, .bool false, .bool false] 30) (alloc_keep (o' := .cells #[.string v.ty, .string v.src, .string v.tgt, .bool v.ro, .string ⟨#[]⟩, .pointer (some ⟨bb, 0, none⟩), .pointer none, .pointer none] 46) hR); have HR := Aside0.mk hRR; have hlt : bb < w1.heap.size := (Array.getElem?_eq_some_iff.1 ho3).1; have hQQ := Aside0.mk (alloc_keep (o' := .cells #[.string v.ty, .string v.src, .string v.tgt, .string ⟨#[]⟩, .string ⟨#[]⟩, .string ⟨#[]⟩, .bool v.ro, .bool false, .bool false, .bool true, .bool false, .bool false] 30) (alloc_keep (o' := .cells #[.string v.ty, .string v.src, .string v.tgt, .bool v.ro, .string ⟨#[]⟩, .pointer (some ⟨bb, 0, none⟩), .pointer none, .pointer none] 46) ho3)); rw [hcv]; clear hb1 hcv hR hRR how)
  clear ho1 ho2 ho3
  have hL := heap_alloc_new (w1.alloc (.cells #[.string v.ty, .string v.src, .string v.tgt, .bool v.ro, .string ⟨#[]⟩, .pointer (some ⟨bb, 0, none⟩), .pointer none, .pointer none] 46)) (.cells #[.string v.ty, .string v.src, .string v.tgt, .string ⟨#[]⟩, .string ⟨#[]⟩, .string ⟨#[]⟩, .bool v.ro, .bool false, .bool false, .bool true, .bool false, .bool false] 30)
  rw [show (w1.alloc (.cells #[.string v.ty, .string v.src, .string v.tgt, .bool v.ro, .string ⟨#[]⟩, .pointer (some ⟨bb, 0, none⟩), .pointer none, .pointer none] 46)).heap.size = w1.heap.size + 1 by simp] at hL
  have hA := alloc_keep (o' := .cells #[.string v.ty, .string v.src, .string v.tgt, .string ⟨#[]⟩, .string ⟨#[]⟩, .string ⟨#[]⟩, .bool v.ro, .bool false, .bool false, .bool true, .bool false, .bool false] 30) (heap_alloc_new w1 (.cells #[.string v.ty, .string v.src, .string v.tgt, .bool v.ro, .string ⟨#[]⟩, .pointer (some ⟨bb, 0, none⟩), .pointer none, .pointer none] 46))
  have hR := HR.out
  have hQ := hQQ.out
  have hB : Below w.heap.size w ((w1.alloc (.cells #[.string v.ty, .string v.src, .string v.tgt, .bool v.ro, .string ⟨#[]⟩, .pointer (some ⟨bb, 0, none⟩), .pointer none, .pointer none] 46)).alloc (.cells #[.string v.ty, .string v.src, .string v.tgt, .string ⟨#[]⟩, .string ⟨#[]⟩, .string ⟨#[]⟩, .bool v.ro, .bool false, .bool false, .bool true, .bool false, .bool false] 30)) := by
    have h0 : Below w.heap.size w w1 := ((Below.refl _ _).alloc (Nat.le_refl _) _).trans (HB1.out.mono (by simp))
    exact (h0.alloc h0.size (.cells #[.string v.ty, .string v.src, .string v.tgt, .bool v.ro, .string ⟨#[]⟩, .pointer (some ⟨bb, 0, none⟩), .pointer none, .pointer none] 46)).alloc (by simp; have := h0.size; omega) (.cells #[.string v.ty, .string v.src, .string v.tgt, .string ⟨#[]⟩, .string ⟨#[]⟩, .string ⟨#[]⟩, .bool v.ro, .bool false, .bool false, .bool true, .bool false, .bool false] 30)
  have hsz : w.heap.size < w1.heap.size := by have := HB1.out.size; simp at this; omega
  clear HR HB1 HP hQQ
  generalize (w1.alloc (.cells #[.string v.ty, .string v.src, .string v.tgt, .bool v.ro, .string ⟨#[]⟩, .pointer (some ⟨bb, 0, none⟩), .pointer none, .pointer none] 46)).alloc (.cells #[.string v.ty, .string v.src, .string v.tgt, .string ⟨#[]⟩, .string ⟨#[]⟩, .string ⟨#[]⟩, .bool v.ro, .bool false, .bool false, .bool true, .bool false, .bool false] 30) = W at hL hA hR hQ hB ⊢
  generalize w1.heap.size = z at hL hA hlt hsz ⊢
  have HR := Aside0.mk hR
  have HB := Aside0.mk hB
  have HL := Aside0.mk hL
  have HA := Aside0.mk hA
  have a5 := (blk_cell hA 5).trans (show _ = some (Value.pointer (some ⟨bb, 0, none⟩)) from rfl)
  have a6 := (blk_cell hA 6).trans (show _ = some (Value.pointer none) from rfl)
  have k0 := (blk_cell hQ 0).trans (show _ = some (Value.string sel) from rfl)
  have k1 := (blk_cell hQ 1).trans (show _ = some (Value.string prop) from rfl)
  have k2 := (blk_cell hQ 2).trans (show _ = some (Value.bool cr) from rfl)
  have l4 := (blk_cell hL 4).trans (show _ = some (Value.string ⟨#[]⟩) from rfl)
  have l5 := (blk_cell hL 5).trans (show _ = some (Value.string ⟨#[]⟩) from rfl)
  have l7 := (blk_cell hL 7).trans (show _ = some (Value.bool false) from rfl)
  have f4 := blk_frozen hL 4
  have f5 := blk_frozen hL 5
  have f7 := blk_frozen hL 7
  have nz : z ≠ z + 1 := by omega
  have nb : bb ≠ z + 1 := by omega
  clear hL hA hR hB hQ
  refine start_ (n := 21) (S := fun w' => w'.cell? ⟨z, 5, none⟩ = some (.pointer (some ⟨bb, 0, none⟩)) ∧ w'.cell? ⟨bb, 1, none⟩ = some (.string prop) ∧ w'.cell? ⟨bb, 0, none⟩ = some (.string sel) ∧ w'.cell? ⟨bb, 2, none⟩ = some (.bool cr)) (ds := [20]) #[false, false, false, false, false, false, false, false, false, false, false, false, false, false, false, false, false, false, false, false, false] (by kernel_rfl) rfl rfl ⟨a5, k1, k0, k2⟩ (fun hHeld => ?_)
  refine pure_ (i := 0) (N := some 38) (v := ?_) (a' := ?_) #[true, false, false, false, false, false, false, false, false, false, false, false, false, false, false, false, false, false, false, false, false] rfl rfl (by kernel_rfl) (fun _ _ _ h => h) (Or.inl ⟨by rfl, ?_⟩) ?_ ?_
  rotate_left
  · intro w'
    go_simp
    with_reducible rfl
  rotate_left
  · simp only [Act.put, List.setIfInBounds_toArray, List.set_cons_zero, List.set_cons_succ, i64_w, i32_w]
    rfl
  refine pure_ (i := 5) (N := some 43) (v := ?_) (a' := ?_) #[true, false, false, false, false, true, false, false, false, false, false, false, false, false, false, false, false, false, false, false, false] rfl rfl (by kernel_rfl) (fun _ _ _ h => h) (Or.inl ⟨by rfl, ?_⟩) ?_ ?_
  rotate_left
  · intro w'
    go_simp
    with_reducible rfl
  rotate_left
  · simp only [Act.put, List.setIfInBounds_toArray, List.set_cons_zero, List.set_cons_succ, i64_w, i32_w]
    rfl
  refine pure_ (i := 10) (N := some 48) (v := ?_) (a' := ?_) #[true, false, false, false, false, true, false, false, false, false, true, false, false, false, false, false, false, false, false, false, false] rfl rfl (by kernel_rfl) (fun _ _ _ h => h) (Or.inl ⟨by rfl, ?_⟩) ?_ ?_
  rotate_left
  · intro w'
    go_simp
    with_reducible rfl
  rotate_left
  · simp only [Act.put, List.setIfInBounds_toArray, List.set_cons_zero, List.set_cons_succ, i64_w, i32_w]
    rfl
  refine take_ (i := 1) (N := some 39) (v := ?_) (a' := ?_) #[true, true, false, false, false, true, false, false, false, false, true, false, false, false, false, false, false, false, false, false, false] rfl rfl (by kernel_rfl) (fun _ _ _ h => h) (Or.inl ⟨by rfl, ?_⟩) hHeld ?_ ?_
  rotate_left
  · rintro w' ⟨s0, s1, s2, s3⟩
    go_simp
    with_reducible rfl
  rotate_left
  · simp only [Act.put, List.setIfInBounds_toArray, List.set_cons_zero, List.set_cons_succ, i64_w, i32_w]
    rfl
  refine pure_ (i := 2) (N := some 40) (v := ?_) (a' := ?_) #[true, true, true, false, false, true, false, false, false, false, true, false, false, false, false, false, false, false, false, false, false] rfl rfl (by kernel_rfl) (fun _ _ _ h => h) (Or.inl ⟨by rfl, ?_⟩) ?_ ?_
  rotate_left
  · intro w'
    go_simp
    with_reducible rfl
  rotate_left
  · simp only [Act.put, List.setIfInBounds_toArray, List.set_cons_zero, List.set_cons_succ, i64_w, i32_w]
    rfl
  refine pure_ (i := 3) (N := some 41) (v := ?_) (a' := ?_) #[true, true, true, true, false, true, false, false, false, false, true, false, false, false, false, false, false, false, false, false, false] rfl rfl (by kernel_rfl) (fun _ _ _ h => h) (Or.inl ⟨by rfl, ?_⟩) ?_ ?_
  rotate_left
  · intro w'
    go_simp
    with_reducible rfl
  rotate_left
  · simp only [Act.put, List.setIfInBounds_toArray, List.set_cons_zero, List.set_cons_succ, i64_w, i32_w]
    rfl
  refine take_ (i := 4) (N := some 42) (v := ?_) (a' := ?_) #[true, true, true, true, true, true, false, false, false, false, true, false, false, false, false, false, false, false, false, false, false] rfl rfl (by kernel_rfl) (fun _ _ _ h => h) (Or.inl ⟨by rfl, ?_⟩) hHeld ?_ ?_
  rotate_left
  · rintro w' ⟨s0, s1, s2, s3⟩
    go_simp
    with_reducible rfl
  rotate_left
  · simp only [Act.put, List.setIfInBounds_toArray, List.set_cons_zero, List.set_cons_succ, i64_w, i32_w]
    rfl
  refine pure_ (i := 15) (N := some 53) (v := ?_) (a' := ?_) #[true, true, true, true, true, true, false, false, false, false, true, false, false, false, false, true, false, false, false, false, false] rfl rfl (by kernel_rfl) (fun _ _ _ h => h) (Or.inl ⟨by rfl, ?_⟩) ?_ ?_
  rotate_left
  · intro w'
    go_simp
    with_reducible rfl
  rotate_left
  · simp only [Act.put, List.setIfInBounds_toArray, List.set_cons_zero, List.set_cons_succ, i64_w, i32_w]
    rfl
  refine take_ (i := 6) (N := some 44) (v := ?_) (a' := ?_) #[true, true, true, true, true, true, true, false, false, false, true, false, false, false, false, true, false, false, false, false, false] rfl rfl (by kernel_rfl) (fun _ _ _ h => h) (Or.inl ⟨by rfl, ?_⟩) hHeld ?_ ?_
  rotate_left
  · rintro w' ⟨s0, s1, s2, s3⟩
    go_simp
    with_reducible rfl
  rotate_left
  · simp only [Act.put, List.setIfInBounds_toArray, List.set_cons_zero, List.set_cons_succ, i64_w, i32_w]
    rfl
  refine pure_ (i := 7) (N := some 45) (v := ?_) (a' := ?_) #[true, true, true, true, true, true, true, true, false, false, true, false, false, false, false, true, false, false, false, false, false] rfl rfl (by kernel_rfl) (fun _ _ _ h => h) (Or.inl ⟨by rfl, ?_⟩) ?_ ?_
  rotate_left
  · intro w'
    go_simp
    with_reducible rfl
  rotate_left
  · simp only [Act.put, List.setIfInBounds_toArray, List.set_cons_zero, List.set_cons_succ, i64_w, i32_w]
    rfl
  refine pure_ (i := 8) (N := some 46) (v := ?_) (a' := ?_) #[true, true, true, true, true, true, true, true, true, false, true, false, false, false, false, true, false, false, false, false, false] rfl rfl (by kernel_rfl) (fun _ _ _ h => h) (Or.inl ⟨by rfl, ?_⟩) ?_ ?_
  rotate_left
  · intro w'
    go_simp
    with_reducible rfl
  rotate_left
  · simp only [Act.put, List.setIfInBounds_toArray, List.set_cons_zero, List.set_cons_succ, i64_w, i32_w]
    rfl
  refine take_ (i := 9) (N := some 47) (v := ?_) (a' := ?_) #[true, true, true, true, true, true, true, true, true, true, true, false, false, false, false, true, false, false, false, false, false] rfl rfl (by kernel_rfl) (fun _ _ _ h => h) (Or.inl ⟨by rfl, ?_⟩) hHeld ?_ ?_
  rotate_left
  · rintro w' ⟨s0, s1, s2, s3⟩
    go_simp
    with_reducible rfl
  rotate_left
  · simp only [Act.put, List.setIfInBounds_toArray, List.set_cons_zero, List.set_cons_succ, i64_w, i32_w]
    rfl
  refine take_ (i := 11) (N := some 49) (v := ?_) (a' := ?_) #[true, true, true, true, true, true, true, true, true, true, true, true, false, false, false, true, false, false, false, false, false] rfl rfl (by kernel_rfl) (fun _ _ _ h => h) (Or.inl ⟨by rfl, ?_⟩) hHeld ?_ ?_
  rotate_left
  · rintro w' ⟨s0, s1, s2, s3⟩
    go_simp
    with_reducible rfl
  rotate_left
  · simp only [Act.put, List.setIfInBounds_toArray, List.set_cons_zero, List.set_cons_succ, i64_w, i32_w]
    rfl
  refine pure_ (i := 12) (N := some 50) (v := ?_) (a' := ?_) #[true, true, true, true, true, true, true, true, true, true, true, true, true, false, false, true, false, false, false, false, false] rfl rfl (by kernel_rfl) (fun _ _ _ h => h) (Or.inl ⟨by rfl, ?_⟩) ?_ ?_
  rotate_left
  · intro w'
    go_simp
    with_reducible rfl
  rotate_left
  · simp only [Act.put, List.setIfInBounds_toArray, List.set_cons_zero, List.set_cons_succ, i64_w, i32_w]
    rfl
  refine pure_ (i := 13) (N := some 51) (v := ?_) (a' := ?_) #[true, true, true, true, true, true, true, true, true, true, true, true, true, true, false, true, false, false, false, false, false] rfl rfl (by kernel_rfl) (fun _ _ _ h => h) (Or.inl ⟨by rfl, ?_⟩) ?_ ?_
  rotate_left
  · intro w'
    go_simp
    with_reducible rfl
  rotate_left
  · simp only [Act.put, List.setIfInBounds_toArray, List.set_cons_zero, List.set_cons_succ, i64_w, i32_w]
    rfl
  refine take_ (i := 14) (N := some 52) (v := ?_) (a' := ?_) #[true, true, true, true, true, true, true, true, true, true, true, true, true, true, true, true, false, false, false, false, false] rfl rfl (by kernel_rfl) (fun _ _ _ h => h) (Or.inl ⟨by rfl, ?_⟩) hHeld ?_ ?_
  rotate_left
  · rintro w' ⟨s0, s1, s2, s3⟩
    go_simp
    with_reducible rfl
  rotate_left
  · simp only [Act.put, List.setIfInBounds_toArray, List.set_cons_zero, List.set_cons_succ, i64_w, i32_w]
    rfl
  refine one_ (i := 16) (N := none) #[true, true, true, true, true, true, true, true, true, true, true, true, true, true, true, true, true, false, false, false, false] rfl rfl (by kernel_rfl) (by decide) (fun K hK => ?_)
  refine skip_ (w1 := ?_) (by rfl) rfl ?_ ?_
  rotate_left
  · go_simp
    rfl
  refine hK.out _ _ ⟨(cell_set_blk nz 4 _ _).trans hHeld.1, (cell_set_blk nb 4 _ _).trans hHeld.2.1, (cell_set_blk nb 4 _ _).trans hHeld.2.2.1, (cell_set_blk nb 4 _ _).trans hHeld.2.2.2⟩ (fun hHeld => ?_)
  clear hK K
  refine pure_ (i := 17) (N := some 54) (v := ?_) (a' := ?_) #[true, true, true, true, true, true, true, true, true, true, true, true, true, true, true, true, true, true, false, false, false] rfl rfl (by kernel_rfl) (fun _ _ _ h => h) (Or.inl ⟨by rfl, ?_⟩) ?_ ?_
  rotate_left
  · intro w'
    go_simp
    with_reducible rfl
  rotate_left
  · simp only [Act.put, List.setIfInBounds_toArray, List.set_cons_zero, List.set_cons_succ, i64_w, i32_w]
    rfl
  refine one_ (i := 18) (N := none) #[true, true, true, true, true, true, true, true, true, true, true, true, true, true, true, true, true, true, true, false, false] rfl rfl (by kernel_rfl) (by decide) (fun K hK => ?_)
  refine skip_ (w1 := ?_) (by rfl) rfl ?_ ?_
  rotate_left
  · go_simp
    rfl
  refine hK.out _ _ ⟨(cell_set_blk nz 5 _ _).trans hHeld.1, (cell_set_blk nb 5 _ _).trans hHeld.2.1, (cell_set_blk nb 5 _ _).trans hHeld.2.2.1, (cell_set_blk nb 5 _ _).trans hHeld.2.2.2⟩ (fun hHeld => ?_)
  clear hK K
  refine pure_ (i := 19) (N := some 55) (v := ?_) (a' := ?_) #[true, true, true, true, true, true, true, true, true, true, true, true, true, true, true, true, true, true, true, true, false] rfl rfl (by kernel_rfl) (fun _ _ _ h => h) (Or.inl ⟨by rfl, ?_⟩) ?_ ?_
  rotate_left
  · intro w'
    go_simp
    with_reducible rfl
  rotate_left
  · simp only [Act.put, List.setIfInBounds_toArray, List.set_cons_zero, List.set_cons_succ, i64_w, i32_w]
    rfl
  refine last_ (i := 20) (N := none) #[true, true, true, true, true, true, true, true, true, true, true, true, true, true, true, true, true, true, true, true, true] rfl rfl (by kernel_rfl) (by decide) (fun K hK => ?_)
  refine skip_ (w1 := ?_) (by rfl) rfl ?_ ?_
  rotate_left
  · go_simp
    rfl
  refine hK.out _ _ ?_
  clear hK K
  refine done_ (by kernel_rfl) ?_
  
  have hL : ((((W.setCell ⟨z + 1, 4, none⟩ (.string prop)).setCell ⟨z + 1, 5, none⟩ (.string sel)).setCell ⟨z + 1, 7, none⟩ (.bool cr)).drew).heap[z + 1]? = some (.cells #[.string v.ty, .string v.src, .string v.tgt, .string ⟨#[]⟩, .string prop, .string sel, .bool v.ro, .bool cr, .bool false, .bool true, .bool false, .bool false] 30 (0, 0)) := blk_put (blk_put (blk_put HL.out 4 (.string prop) rfl) 5 (.string sel) rfl) 7 (.bool cr) rfl
  have hA : ((((W.setCell ⟨z + 1, 4, none⟩ (.string prop)).setCell ⟨z + 1, 5, none⟩ (.string sel)).setCell ⟨z + 1, 7, none⟩ (.bool cr)).drew).heap[z]? = some (.cells #[.string v.ty, .string v.src, .string v.tgt, .bool v.ro, .string ⟨#[]⟩, .pointer (some ⟨bb, 0, none⟩), .pointer none, .pointer none] 46) := other_set nz (other_set nz (other_set nz HA.out))
  have nr : w.heap.size ≠ z + 1 := by omega
  have hR : ((((W.setCell ⟨z + 1, 4, none⟩ (.string prop)).setCell ⟨z + 1, 5, none⟩ (.string sel)).setCell ⟨z + 1, 7, none⟩ (.bool cr)).drew).heap[w.heap.size]? = some (.cells #[.string ⟨#[]⟩, .string ⟨#[]⟩, .string ⟨#[]⟩, .string ⟨#[]⟩, .string ⟨#[]⟩, .string ⟨#[]⟩, .bool false, .bool false, .bool false, .bool false, .bool false, .bool false] 30 (0, 0)) := other_set nr (other_set nr (other_set nr HR.out))
  have hB : Below w.heap.size w ((((W.setCell ⟨z + 1, 4, none⟩ (.string prop)).setCell ⟨z + 1, 5, none⟩ (.string sel)).setCell ⟨z + 1, 7, none⟩ (.bool cr)).drew) := ((((HB.out.setCell (p := ⟨z + 1, 4, none⟩) (by show w.heap.size ≤ z + 1; omega) _).setCell (p := ⟨z + 1, 5, none⟩) (by show w.heap.size ≤ z + 1; omega) _).setCell (p := ⟨z + 1, 7, none⟩) (by show w.heap.size ≤ z + 1; omega) _).drew)
  clear HL HA HR HB a5 a6 k0 k1 k2 l4 l5 l7 f4 f5 f7
  generalize (((W.setCell ⟨z + 1, 4, none⟩ (.string prop)).setCell ⟨z + 1, 5, none⟩ (.string sel)).setCell ⟨z + 1, 7, none⟩ (.bool cr)).drew = V at hL hA hR hB ⊢
  have a6 := (blk_cell hA 6).trans (show _ = some (Value.pointer none) from rfl)
  have hcs : ∃ cs, cs = (#[.string v.ty, .string v.src, .string v.tgt, .string ⟨#[]⟩, .string prop, .string sel, .bool v.ro, .bool cr, .bool false, .bool true, .bool false, .bool false] : Array Value) := ⟨_, rfl⟩
  obtain ⟨cs, hcs⟩ := hcs
  rw [← hcs] at hL
  have hcz : cs.size = 12 := by rw [hcs]; rfl
  have hc1 : cs.all (·.oneCell') = true := by rw [hcs]; simp [Value.oneCell']
  have hi : (Tryd.prog.info? 30).map (·.size) = some cs.size := by rw [hcz]; kernel_rfl
  have HCS := Lib.hid hcs
  have HL := Aside0.mk hL
  have HI := Aside0.mk hi
  have HCZ := Lib.hid hcz
  have HC1 := Lib.hid hc1
  have HR := Aside0.mk hR
  have HB := Aside0.mk hB
  clear hL hR hcs hi hcz hc1 hA hB
  go_wp2_with (first
    | (refine wpList_load_row rfl 30 _ rfl (z + 1) rfl 30 cs (0, 0) _ HL.out Tryd.underlying30 rfl HI.out ?_)
    | (refine wpList_store_row rfl 30 _ _ rfl w.heap.size cs rfl rfl 30 _ HR.out HI.out HCZ.out.symm HC1.out ?_))
  have g : (V.setRow w.heap.size cs).heap[w.heap.size]? = some (.cells #[.string v.ty, .string v.src, .string v.tgt, .string ⟨#[]⟩, .string prop, .string sel, .bool v.ro, .bool cr, .bool false, .bool true, .bool false, .bool false] 30 (0, 0)) := by rw [setRow_heap V w.heap.size _ cs 30 (0, 0) HR.out, HCS.out]
  refine bodyPost_ret (results_impl _ _ _ rfl rfl g) rfl ⟨by rw [HIC.out], ?_⟩
  exact below_setRow HB.out (Nat.le_refl _) _
end Go.Proofs.YtklbghadhneejaaDoor.V
