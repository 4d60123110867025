/- The walks of types.NewMappingWithEquals and impl.NewEquals. -/
import Derived.Test.YtcocmdbleicmcaaGreatDoorCut
import Derived.Test.YtcocmdbleicmcaaGreatDoorEquals
import Derived.Test.YtcocmdbleicmcaaGreatDoorAwake
namespace Go.Proofs.YtcocmdbleicmcaaGreatDoor.M
set_option linter.unusedVariables false
set_option linter.unusedSimpArgs false
set_option linter.unusedSectionVars false
open Go.RowKit Go.Proofs.YtcocmdbleicmcaaGreatDoorW.PrintWords Go.Proofs.YtcocmdbleicmcaaGreatDoorW.PrintLast Go.Proofs.YtcocmdbleicmcaaGreatDoor.PX Go.Proofs.YtcocmdbleicmcaaGreatDoor.SM

theorem wp_put_step {β : Type} {cenc : β → Value} {m : List (ByteArray × β)} {P : Program} {ops : Array Oper} {o : Oper} {a : Act} {Q : Exit → Act → World → Prop} {Kc : Act → World → Prop} {w : World} {b : Nat} {t k e : TypeId} (hw : Region.wanted o (yielded ops a.tmps) = true) (mo xo vo : Operand) (hop : o.op = Op.mapUpdate t mo xo vo) (ht : P.underlying t = some (.map k e)) (hk : P.underlying k = some .string)
    (hm : a.eval mo = .map (some b)) (h : TMap w b cenc m) (s : ByteArray) (v : β) (hx : a.eval xo = .string s) (hv : a.eval vo = cenc v) {w0 : World} {B : Nat} (HB : Below B w0 w) (hB : B ≤ b)
    (hK : ∀ w', TMap w' b cenc (put m s v) → Below B w0 w' → w.grownBy w' (some b) → Kc (a.put o.dst undef) w') : if Region.wanted o (yielded ops a.tmps) = true then Oper.wp P o a w Kc Q else Kc (a.put o.dst undef) w := by
  rw [if_pos hw]
  obtain ⟨ob, hrun, hs⟩ := run_put (P := P) ht hk h s (cenc v)
  rw [put_mapE] at hs
  unfold Oper.wp
  simp [execOp, hop, hm, hx, hv, hrun, Result.andThen]
  exact hK _ hs (HB.grown (setBlock_grown w b ob) (Nat.le_trans hB (Nat.le_of_lt h.lt)) (fun j hj => by cases hj; exact hB)) (setBlock_grown w b ob)
def putsN (l : List ByteArray) : List (ByteArray × Option ByteArray) := l.foldl (fun m s => put m (spE s).1 (spE s).2) []
theorem putsN_snoc (l : List ByteArray) (s : ByteArray) : putsN (l ++ [s]) = put (putsN l) (spE s).1 (spE s).2 := by simp [putsN]
theorem spE_none {s sa : ByteArray} (h : spE s = (sa, none)) : sa = s := by
  unfold spE at h
  split at h
  · injection h with h; exact h.symm
  · injection h with _ h; cases h
set_option maxRecDepth 100000 in
set_option maxHeartbeats 4000000 in
theorem types_NewMappingWithEquals (A0 : Option Addr) (c0 : Nat) (l0 : List ByteArray) (w : World) (hr0 : Kd.C Kd.string w A0 l0.length l0) (hc0 : l0.length ≤ c0) (hl : l0.length ≤ 1099511627776) (hsz : ∀ s ∈ l0, s.size < 4611686018427387903) :
    Calls Tryz.prog 61 #[.slice A0 l0.length c0] w fun e w' => ∃ b m, e = .returned (.map (some b)) ∧ TMap w' b encO m ∧ Held w' m ∧ img m = putsN l0 ∧ w.heap.size ≤ b ∧ Below w.heap.size w w' := by
  have HR0 := Aside0.mk hr0
  have HSZ := Lib.hid hsz
  clear hr0 hc0 hsz
  have hmm := @run_makeMap Tryz.prog
  have hmu := Tryz.underlying79
  go_enter Tryz.func61, Tryz.ntmps61
  go_wp2
  go_loopw [10] (fun v10 wr => ∃ i : Nat, i ≤ l0.length ∧ v10 = .int .i64 i ∧ Aside0 (∃ m, TMap wr w.heap.size encO m ∧ Held wr m ∧ img m = putsN (l0.take i)) ∧ Aside0 (Below w.heap.size w wr)) (fun v10 _ => l0.length - (intOf v10).toNat)
  case atStart => exact ⟨0, Nat.zero_le _, rfl, ⟨[], TMap.made _ _, held_nil _, rfl⟩, ⟨(Below.refl _ _).alloc (Nat.le_refl _) _⟩⟩
  case round =>
    obtain ⟨i, hi, rfl, HMM, HB⟩ := hrel
    by_cases hlt : i < l0.length
    · obtain ⟨ad0, rfl, hx0⟩ := Kd.at_string HR0.out (i : Int) (by omega) (by omega)
      replace hx0 := (HB.out.cell (World.block_lt_of_cell? w _ hx0)).trans hx0
      simp only [Int.toNat_natCast] at hx0
      obtain ⟨s, hs⟩ : ∃ s, s = l0[i] := ⟨_, rfl⟩
      have hs' : rdOf ByteArray.empty l0 (i : Int) = s := by rw [hs]; simp [rdOf, List.getD_eq_getElem?_getD, List.getElem?_eq_getElem hlt]
      rw [hs'] at hx0
      have HK := Aside0.mk (splitTwo_f s (HSZ.out s (by rw [hs]; exact List.getElem_mem hlt)))
      have HN := Lib.hid (show putsN (l0.take (i + 1)) = put (putsN (l0.take i)) (spE s).1 (spE s).2 by rw [List.take_succ_eq_append_getElem hlt, putsN_snoc, hs])
      clear hs hs'
      obtain ⟨m, hm, hh, hi0⟩ := HMM.out
      have HM := Aside0.mk hm
      have HH := Aside0.mk hh
      have HI := Lib.hid hi0
      clear hm hh hi0 HMM
      obtain ⟨sa, sb, hsab⟩ : ∃ sa sb, spE s = (sa, sb) := ⟨_, _, rfl⟩
      rw [hsab] at HK HN
      have hsn : sb = none → sa = s := fun e => by subst e; exact spE_none hsab
      have HSN := Lib.hid hsn
      clear hsab hsn
      cases sb with
      | none =>
        have hse := HSN.out rfl
        subst hse
        go_wp2_with (first | (go_at_call 92; refine (types_zzSplitTwo.calls _ sa ⟨#[61]⟩ [sa] _ HK.out).mono ?_; rintro e w1 ⟨v0, rfl, ho, hb⟩; obtain ⟨A1, c1, rfl, hl1, hC1⟩ := Kd.R_reads ho; have HB1 := Aside0.mk (below_then HB.out HB.out.size hb); have HM1 := Aside0.mk (HM.out.below hb); have HH1 := Aside0.mk (HH.out.below hb); clear ho hb hC1) | (at_mapUpdate; refine wp_put rfl _ _ _ rfl Tryz.underlying79 Tryz.underlying9 rfl HM1.out sa (none : PO) rfl rfl HB1.out (Nat.le_refl _) ?_; intro w2 hm2 hb2 hg2 hs2; have HM2 := Aside0.mk hm2; have HB2 := Aside0.mk hb2; have HH2 := Aside0.mk (Held.put_ (k := sa) (v := none) HH1.out HM1.out hg2 (fun a s e => by cases e)); clear hm2 hb2 hg2 hs2))
        go_roundw
        case rel =>
          refine ⟨i + 1, by omega, by go_num, ⟨_, HM2.out, HH2.out, ?_⟩, HB2⟩
          rw [HN.out, img_put, HI.out]; rfl
        case measure => simp [intOf]; omega
      | some sb =>
        go_upto_region 7 with (go_at_call 92; refine (types_zzSplitTwo.calls _ s ⟨#[61]⟩ [sa, sb] _ HK.out).mono ?_; rintro e w1 ⟨v0, rfl, ho, hb⟩; obtain ⟨A1, c1, rfl, hl1, hC1⟩ := Kd.R_reads ho; obtain ⟨ad1, rfl, hy0⟩ := Kd.at_string hC1 0 (Int.le_refl 0) (by simp); obtain ⟨ad2, e2, hy1⟩ := Kd.at_string hC1 1 (by decide) (by simp); injection e2 with e2; subst e2; replace hy0 : w1.cell? ad1 = some (.string sa) := add_zero_cell hy0; replace hy1 : w1.cell? ⟨ad1.block, ad1.off + 1, none⟩ = some (.string sb) := add_one_cell hy1; have HB1 := Aside0.mk (below_then HB.out HB.out.size hb); have HM1 := Aside0.mk (HM.out.below hb); have HH1 := Aside0.mk (HH.out.below hb); clear ho hb hC1)
        refine start_ (n := 7) (S := fun w' => w'.cell? ad1 = some (.string sa)) (ds := [6]) #[false, false, false, false, false, false, false] (by kernel_rfl) rfl rfl (hy0) (fun hHeld => ?_)
        refine pure_ (i := 0) (N := some 19) (v := ?_) (a' := ?_) #[true, false, false, false, false, false, false] rfl rfl (by kernel_rfl) (fun _ _ _ h => h) (Or.inl ⟨by rfl, ?_⟩) ?_ ?_
        rotate_left
        · intro w'
          go_simp
          with_reducible rfl
        rotate_left
        · simp only [Act.put, List.setIfInBounds_toArray, List.set_cons_zero, List.set_cons_succ, i64_w, i32_w]
          rfl
        refine pure_ (i := 1) (N := some 20) (v := ?_) (a' := ?_) #[true, true, false, false, false, false, false] rfl rfl (by kernel_rfl) (fun _ _ _ h => h) (Or.inl ⟨by rfl, ?_⟩) ?_ ?_
        rotate_left
        · intro w'
          go_simp
          with_reducible rfl
        rotate_left
        · simp only [Act.put, List.setIfInBounds_toArray, List.set_cons_zero, List.set_cons_succ, i64_w, i32_w]
          rfl
        refine pure_ (i := 2) (N := some 21) (v := ?_) (a' := ?_) #[true, true, true, false, false, false, false] rfl rfl (by kernel_rfl) (fun _ _ _ h => h) (Or.inl ⟨by rfl, ?_⟩) ?_ ?_
        rotate_left
        · intro w'
          go_simp
          with_reducible rfl
        rotate_left
        · simp only [Act.put, List.setIfInBounds_toArray, List.set_cons_zero, List.set_cons_succ, i64_w, i32_w]
          rfl
        refine pure_ (i := 4) (N := some 23) (v := ?_) (a' := ?_) #[true, true, true, false, true, false, false] rfl rfl (by kernel_rfl) (fun _ _ _ h => h) (Or.inl ⟨by rfl, ?_⟩) ?_ ?_
        rotate_left
        · intro w'
          go_simp
          with_reducible rfl
        rotate_left
        · simp only [Act.put, List.setIfInBounds_toArray, List.set_cons_zero, List.set_cons_succ, i64_w, i32_w]
          rfl
        refine pure_ (i := 5) (N := some 24) (v := ?_) (a' := ?_) #[true, true, true, false, true, true, false] rfl rfl (by kernel_rfl) (fun _ _ _ h => h) (Or.inl ⟨by rfl, ?_⟩) ?_ ?_
        rotate_left
        · intro w'
          go_simp
          with_reducible rfl
        rotate_left
        · simp only [Act.put, List.setIfInBounds_toArray, List.set_cons_zero, List.set_cons_succ, i64_w, i32_w]
          rfl
        refine take_ (i := 3) (N := some 22) (v := ?_) (a' := ?_) #[true, true, true, true, true, true, false] rfl rfl (by kernel_rfl) (fun _ _ _ h => h) (Or.inl ⟨by rfl, ?_⟩) hHeld ?_ ?_
        rotate_left
        · intro w' s0
          go_simp
          with_reducible rfl
        rotate_left
        · simp only [Act.put, List.setIfInBounds_toArray, List.set_cons_zero, List.set_cons_succ, i64_w, i32_w]
          rfl
        refine last_ (i := 6) (N := none) #[true, true, true, true, true, true, true] rfl rfl (by kernel_rfl) (by decide) (fun K hK => ?_)
        refine wp_put_step (cenc := encO) (m := m) (b := w.heap.size) (by rfl) _ _ _ rfl Tryz.underlying79 Tryz.underlying9 rfl ?hT sa (some ((⟨ad1.block, ad1.off + 1, none⟩ : Addr), sb) : PO) rfl rfl (w0 := w) (B := w.heap.size) ?hB (Nat.le_refl _) ?_; (case hT => exact HM1.out); (case hB => repeat (first | (with_reducible first | exact HB1.out | apply below_alloc | apply pw_below_drewN | apply below_drew1) | exact HB1.out))
        intro w2 hm2 hb2 hg2
        have HM2 := Aside0.mk hm2
        have HB2 := Aside0.mk hb2
        have HH2 := Aside0.mk (Held.put_ (k := sa) (v := some (⟨ad1.block, ad1.off + 1, none⟩, sb)) (show Held w1.drew m from HH1.out) (show TMap w1.drew w.heap.size encO m from HM1.out) hg2 (fun a s e => by injection e with e; injection e with e1 e2; subst e1; subst e2; exact hy1))
        clear hm2 hb2 hg2
        refine hK.out _ _ ?_
        clear hK K
        refine done_ (by kernel_rfl) ?_
        
        go_wp2
        go_roundw
        case rel =>
          refine ⟨i + 1, by omega, by go_num, ⟨_, HM2.out, HH2.out, ?_⟩, HB2⟩
          rw [HN.out, img_put, HI.out]; rfl
        case measure => simp [intOf]; omega
    · go_wp2
      go_ret
      obtain rfl : i = l0.length := by omega
      rw [List.take_length] at HMM
      obtain ⟨m, hm, hh, hi0⟩ := HMM.out
      exact ⟨_, m, rfl, hm, hh, hi0, Nat.le_refl _, HB.out⟩
end Go.Proofs.YtcocmdbleicmcaaGreatDoor.M
