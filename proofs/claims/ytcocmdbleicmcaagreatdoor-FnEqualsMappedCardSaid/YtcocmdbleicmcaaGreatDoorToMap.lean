/- The walks of ToMapping, NewLabelsFromMappingWithEquals and Labels.ToMappingWithEquals. -/
import Derived.Test.YtcocmdbleicmcaaGreatDoorOverr
import Derived.Test.YtcocmdbleicmcaaGreatDoorMapd
namespace Go.Proofs.YtcocmdbleicmcaaGreatDoor.M
set_option linter.unusedVariables false
set_option linter.unusedSimpArgs false
set_option linter.unusedSectionVars false
open Go.RowKit Go.Proofs.YtcocmdbleicmcaaGreatDoorW.PrintWords Go.Proofs.YtcocmdbleicmcaaGreatDoorW.PrintLast Go.Proofs.YtcocmdbleicmcaaGreatDoor.PX Go.Proofs.YtcocmdbleicmcaaGreatDoor.SM
theorem Held.grownMg {β : Type} {enc : β → Value} {W w1 : World} {b : Nat} {m : List (ByteArray × PO)} {m' : List (ByteArray × β)} (h : Held W m) (hT : TMap W b enc m') (hg : W.grownBy w1 (some b)) : Held w1 m := fun k a s hm => cell_grownM hT hg (h k a s hm)
set_option maxHeartbeats 4000000 in
set_option maxRecDepth 100000 in
theorem types_ToMapping (b1 : Nat) (m1 : List (ByteArray × PO)) (w : World) (h1 : TMap w b1 encO m1) (hh1 : Held w m1) :
    Calls Tryz.prog 71 #[.map (some b1)] w fun e w' => ∃ b m3, e = .returned (.map (some b)) ∧ TMap w' b Value.string m3 ∧ m3.Perm (m1.filterMap fpO) ∧ Below w.heap.size w w' := by
  have H1 := Aside0.mk h1
  have HH1 := Aside0.mk hh1
  have hl1 := h1.lt
  have hn1 := Lib.hid h1.nodup
  clear h1 hh1
  have hmm := @run_makeMap Tryz.prog
  have hmu := Tryz.underlying86
  go_enter Tryz.func71, Tryz.ntmps71
  go_wp2_with (at_range; refine wp_range rfl _ rfl Tryz.underlying79 rfl (H1.out.below ?b1) (w0 := w) (B := w.heap.size) ?b2 ?b3 ?_; (case b1 => repeat (first | exact Below.refl _ _ | apply below_alloc)); (case b2 => repeat (first | exact Below.refl _ _ | apply below_alloc)); (case b3 => simp); intro w1 r hr ht hb hg _; have HT := Aside0.mk ht; have HB1 := Aside0.mk hb; have HM1 := Aside0.mk ((TMap.made w Value.string).grown hg (by simp)); have HH11 := Aside0.mk (Held.grownN (HH1.out.below (by repeat (first | exact Below.refl _ _ | apply below_alloc))) hg); have hr1 : r = w.heap.size + 1 := hr.trans (by first | rfl | simp); have HR := Lib.hid hr1; clear ht hb hg hr hr1)
  go_frame
  go_loopw [] (fun wr => ∃ (ql rm : List (ByteArray × PO)), Aside0 (TRng wr b1 r encO m1 rm) ∧ Aside0 (TMap wr w.heap.size Value.string (ql.filterMap fpO)) ∧ Aside0 (Held wr m1) ∧ Aside0 (Below w.heap.size w wr) ∧ Aside0 ((ql ++ rm).Perm m1)) (fun wr => wr.rangeLeft b1 r)
  case atStart => exact ⟨[], m1, HT, HM1, HH11, HB1, ⟨List.Perm.refl _⟩⟩
  case round =>
    obtain ⟨ql, rm, HT, HM, HH, HB, HP⟩ := hrel
    go_wp2_with (at_next; (refine wp_next rfl _ rfl rfl ?n1 HT.out HB.out ?n2 ?_ ?_; (case n1 => have := HR.out; omega); (case n2 => have := HR.out; omega)))
    · intro hrm
      have HE := Lib.hid hrm
      clear hrm
      go_wp2
      go_ret
      rw [HE.out, List.append_nil] at HP
      exact ⟨_, _, rfl, HM.out, HP.out.filterMap fpO, HB.out⟩
    · intro qk qv w2 hq ht2 hb2 hg2 hs2 hen
      have HT2 := Aside0.mk ht2
      have HB2 := Aside0.mk hb2
      have HL := Lib.hid (show (del rm qk).length < rm.length from Nat.lt_of_lt_of_eq (Nat.lt_succ_self _) (length_del (p := (qk, qv)) HT.out.nodup hq))
      have HM2 := Aside0.mk (HM.out.grown hg2 (by have h1 := HR.out; intro e; injection e with e; rw [h1] at e; omega))
      have HH2 := Aside0.mk (HH.out.grownR HT.out hg2)
      have HPN := Aside0.mk (perm_stepG HT.out.nodup hq HP.out)
      have HF := Lib.hid (fresh_fp hn1.out HP.out hq)
      have hqm : (qk, qv) ∈ m1 := HP.out.mem_iff.1 (List.mem_append_right _ hq)
      clear hq ht2 hb2 hg2 hs2
      cases qv with
      | none =>
        have he : encO none = Value.pointer none := rfl
        have HN := Aside0.mk (show (ql ++ [(qk, (none : PO))]).filterMap fpO = ql.filterMap fpO by rw [List.filterMap_append]; simp [fpO])
        clear hqm
        go_wp2
        go_roundw
        case rel => exact ⟨ql ++ [(qk, none)], del rm qk, HT2, ⟨by rw [HN.out]; exact HM2.out⟩, HH2, HB2, HPN⟩
        case measure => rw [HT2.out.left_eq, HT.out.left_eq]; exact HL.out
      | some p =>
        obtain ⟨a, s⟩ := p
        have he : encO (some (a, s)) = Value.pointer (some a) := rfl
        have hcell := HH2.out qk a s hqm
        have HN := Aside0.mk (show (ql ++ [(qk, (some (a, s) : PO))]).filterMap fpO = put (ql.filterMap fpO) qk s by rw [List.filterMap_append, put_new _ HF.out]; simp [fpO])
        clear hqm
        go_wp2_with (at_mapUpdate; refine wp_put rfl _ _ _ rfl Tryz.underlying86 Tryz.underlying9 rfl HM2.out qk s rfl rfl HB2.out (Nat.le_refl _) ?_; intro w3 hm3 hb3 hg3 _; have HM3 := Aside0.mk hm3; have HB3 := Aside0.mk hb3; have HH3 := Aside0.mk (Held.grownMg HH2.out HM2.out hg3); have HT3 := Aside0.mk (HT2.out.grown hg3 (by simp; omega) (by have := HR.out; simp; omega)); clear hm3 hb3 hg3 hcell)
        exact ⟨⟨ql ++ [(qk, some (a, s))], del rm qk, HT3, ⟨by rw [HN.out]; exact HM3.out⟩, HPN⟩, by rw [HT3.out.left_eq, HT.out.left_eq]; exact HL.out⟩
set_option maxHeartbeats 4000000 in
set_option maxRecDepth 100000 in
theorem types_NewLabels (b1 : Nat) (m1 : List (ByteArray × PO)) (w : World) (h1 : TMap w b1 encO m1) (hh1 : Held w m1) :
    Calls Tryz.prog 72 #[.map (some b1)] w fun e w' => ∃ b m3, e = .returned (.map (some b)) ∧ TMap w' b Value.string m3 ∧ m3.Perm (m1.filterMap fpO) ∧ Below w.heap.size w w' := by
  have H1 := Aside0.mk h1
  have HH1 := Aside0.mk hh1
  have hl1 := h1.lt
  have hn1 := Lib.hid h1.nodup
  clear h1 hh1
  have hmm := @run_makeMap Tryz.prog
  have hmu := Tryz.underlying94
  go_enter Tryz.func72, Tryz.ntmps72
  go_wp2_with (at_range; refine wp_range rfl _ rfl Tryz.underlying79 rfl (H1.out.below ?b1) (w0 := w) (B := w.heap.size) ?b2 ?b3 ?_; (case b1 => repeat (first | exact Below.refl _ _ | apply below_alloc)); (case b2 => repeat (first | exact Below.refl _ _ | apply below_alloc)); (case b3 => simp); intro w1 r hr ht hb hg _; have HT := Aside0.mk ht; have HB1 := Aside0.mk hb; have HM1 := Aside0.mk ((TMap.made w Value.string).grown hg (by simp)); have HH11 := Aside0.mk (Held.grownN (HH1.out.below (by repeat (first | exact Below.refl _ _ | apply below_alloc))) hg); have hr1 : r = w.heap.size + 1 := hr.trans (by first | rfl | simp); have HR := Lib.hid hr1; clear ht hb hg hr hr1)
  go_frame
  go_loopw [] (fun wr => ∃ (ql rm : List (ByteArray × PO)), Aside0 (TRng wr b1 r encO m1 rm) ∧ Aside0 (TMap wr w.heap.size Value.string (ql.filterMap fpO)) ∧ Aside0 (Held wr m1) ∧ Aside0 (Below w.heap.size w wr) ∧ Aside0 ((ql ++ rm).Perm m1)) (fun wr => wr.rangeLeft b1 r)
  case atStart => exact ⟨[], m1, HT, HM1, HH11, HB1, ⟨List.Perm.refl _⟩⟩
  case round =>
    obtain ⟨ql, rm, HT, HM, HH, HB, HP⟩ := hrel
    go_wp2_with (at_next; (refine wp_next rfl _ rfl rfl ?n1 HT.out HB.out ?n2 ?_ ?_; (case n1 => have := HR.out; omega); (case n2 => have := HR.out; omega)))
    · intro hrm
      have HE := Lib.hid hrm
      clear hrm
      go_wp2
      go_ret
      rw [HE.out, List.append_nil] at HP
      exact ⟨_, _, rfl, HM.out, HP.out.filterMap fpO, HB.out⟩
    · intro qk qv w2 hq ht2 hb2 hg2 hs2 hen
      have HT2 := Aside0.mk ht2
      have HB2 := Aside0.mk hb2
      have HL := Lib.hid (show (del rm qk).length < rm.length from Nat.lt_of_lt_of_eq (Nat.lt_succ_self _) (length_del (p := (qk, qv)) HT.out.nodup hq))
      have HM2 := Aside0.mk (HM.out.grown hg2 (by have h1 := HR.out; intro e; injection e with e; rw [h1] at e; omega))
      have HH2 := Aside0.mk (HH.out.grownR HT.out hg2)
      have HPN := Aside0.mk (perm_stepG HT.out.nodup hq HP.out)
      have HF := Lib.hid (fresh_fp hn1.out HP.out hq)
      have hqm : (qk, qv) ∈ m1 := HP.out.mem_iff.1 (List.mem_append_right _ hq)
      clear hq ht2 hb2 hg2 hs2
      cases qv with
      | none =>
        have he : encO none = Value.pointer none := rfl
        have HN := Aside0.mk (show (ql ++ [(qk, (none : PO))]).filterMap fpO = ql.filterMap fpO by rw [List.filterMap_append]; simp [fpO])
        clear hqm
        go_wp2
        go_roundw
        case rel => exact ⟨ql ++ [(qk, none)], del rm qk, HT2, ⟨by rw [HN.out]; exact HM2.out⟩, HH2, HB2, HPN⟩
        case measure => rw [HT2.out.left_eq, HT.out.left_eq]; exact HL.out
      | some p =>
        obtain ⟨a, s⟩ := p
        have he : encO (some (a, s)) = Value.pointer (some a) := rfl
        have hcell := HH2.out qk a s hqm
        have HN := Aside0.mk (show (ql ++ [(qk, (some (a, s) : PO))]).filterMap fpO = put (ql.filterMap fpO) qk s by rw [List.filterMap_append, put_new _ HF.out]; simp [fpO])
        clear hqm
        go_wp2_with (at_mapUpdate; refine wp_put rfl _ _ _ rfl Tryz.underlying94 Tryz.underlying9 rfl HM2.out qk s rfl rfl HB2.out (Nat.le_refl _) ?_; intro w3 hm3 hb3 hg3 _; have HM3 := Aside0.mk hm3; have HB3 := Aside0.mk hb3; have HH3 := Aside0.mk (Held.grownMg HH2.out HM2.out hg3); have HT3 := Aside0.mk (HT2.out.grown hg3 (by simp; omega) (by have := HR.out; simp; omega)); clear hm3 hb3 hg3 hcell)
        exact ⟨⟨ql ++ [(qk, some (a, s))], del rm qk, HT3, ⟨by rw [HN.out]; exact HM3.out⟩, HPN⟩, by rw [HT3.out.left_eq, HT.out.left_eq]; exact HL.out⟩
set_option maxHeartbeats 4000000 in
set_option maxRecDepth 100000 in
theorem types_ToEquals (b1 : Nat) (m1 : List (ByteArray × ByteArray)) (w : World) (h1 : TMap w b1 Value.string m1) :
    Calls Tryz.prog 73 #[.map (some b1)] w fun e w' => ∃ b m3, e = .returned (.map (some b)) ∧ TMap w' b encO m3 ∧ Held w' m3 ∧ (img m3).Perm (m1.map upI) ∧ Below w.heap.size w w' := by
  have H1 := Aside0.mk h1
  have hl1 := h1.lt
  have hn1 := Lib.hid h1.nodup
  clear h1
  have hmm := @run_makeMap Tryz.prog
  have hmu := Tryz.underlying79
  go_enter Tryz.func73, Tryz.ntmps73
  go_wp2_with (at_range; refine wp_range rfl _ rfl Tryz.underlying94 rfl (H1.out.below ?b1) (w0 := w) (B := w.heap.size) ?b2 ?b3 ?_; (case b1 => repeat (first | exact Below.refl _ _ | apply below_alloc)); (case b2 => repeat (first | exact Below.refl _ _ | apply below_alloc)); (case b3 => simp); intro w1 r hr ht hb hg _; have HT := Aside0.mk ht; have HB1 := Aside0.mk hb; have HM1 := Aside0.mk ((TMap.made w encO).grown hg (by simp)); have hr1 : r = w.heap.size + 1 := hr.trans (by first | rfl | simp); have HR := Lib.hid hr1; clear ht hb hg hr hr1)
  go_frame
  go_loopw [] (fun wr => ∃ (ql rm : List (ByteArray × ByteArray)) (m3 : List (ByteArray × PO)), Aside0 (TRng wr b1 r Value.string m1 rm) ∧ Aside0 (TMap wr w.heap.size encO m3) ∧ Aside0 (Held wr m3) ∧ Aside0 (Below w.heap.size w wr) ∧ Aside0 ((ql ++ rm).Perm m1) ∧ Aside0 (img m3 = ql.map upI)) (fun wr => wr.rangeLeft b1 r)
  case atStart => exact ⟨[], m1, [], HT, HM1, ⟨held_nil _⟩, HB1, ⟨List.Perm.refl _⟩, ⟨rfl⟩⟩
  case round =>
    obtain ⟨ql, rm, m3, HT, HM, HH, HB, HP, HI⟩ := hrel
    go_wp2_with (at_next; (refine wp_next rfl _ rfl rfl ?n1 HT.out HB.out ?n2 ?_ ?_; (case n1 => have := HR.out; omega); (case n2 => have := HR.out; omega)))
    · intro hrm
      have HE := Lib.hid hrm
      clear hrm
      go_wp2
      go_ret
      rw [HE.out, List.append_nil] at HP
      exact ⟨_, m3, rfl, HM.out, HH.out, by rw [HI.out]; exact HP.out.map upI, HB.out⟩
    · intro qk qv w2 hq ht2 hb2 hg2 hs2 hen
      have HT2 := Aside0.mk ht2
      have HB2 := Aside0.mk hb2
      have HL := Lib.hid (show (del rm qk).length < rm.length from Nat.lt_of_lt_of_eq (Nat.lt_succ_self _) (length_del (p := (qk, qv)) HT.out.nodup hq))
      have HM2 := Aside0.mk (HM.out.grown hg2 (by have h1 := HR.out; intro e; injection e with e; rw [h1] at e; omega))
      have HH2 := Aside0.mk (HH.out.grownR HT.out hg2)
      have HPN := Aside0.mk (perm_stepG HT.out.nodup hq HP.out)
      have HF := Lib.hid (fresh_up hn1.out HP.out hq)
      have hbs : r < w2.heap.size := HT2.out.lt
      clear hq ht2 hb2 hg2 hs2
      go_wp2_with (at_mapUpdate; refine wp_put rfl _ _ _ rfl Tryz.underlying79 Tryz.underlying9 rfl (HM2.out.below ?b1) qk (some (⟨w2.heap.size, 0, none⟩, qv) : PO) rfl rfl (w0 := w) (B := w.heap.size) ?b2 (Nat.le_refl _) ?_; (case b1 => repeat (first | exact Below.refl _ _ | apply below_alloc)); (case b2 => repeat (first | (with_reducible first | exact HB2.out | apply below_alloc) | exact HB2.out)); intro w3 hm3 hb3 hg3 _; have HM3 := Aside0.mk hm3; have HB3 := Aside0.mk hb3; have HH3 := Aside0.mk (Held.put_ (k := qk) (v := some (⟨w2.heap.size, 0, none⟩, qv)) (HH2.out.below (by repeat (first | exact Below.refl _ _ | apply below_alloc))) (HM2.out.below (by repeat (first | exact Below.refl _ _ | apply below_alloc))) hg3 (fun a s e => by injection e with e; injection e with e1 e2; subst e1; subst e2; exact blk_cell (heap_alloc_new w2 _) 0)); have HT3 := Aside0.mk ((HT2.out.below (by repeat (first | exact Below.refl _ _ | apply below_alloc))).grown hg3 (by simp; omega) (by have := HR.out; simp; omega)); clear hm3 hb3 hg3)
      exact ⟨⟨ql ++ [(qk, qv)], del rm qk, HT3, put m3 qk (some (⟨w2.heap.size, 0, none⟩, qv)), HM3, HH3, HPN, ⟨by rw [img_put, HI.out, put_new _ HF.out]; simp [upI]⟩⟩, by rw [HT3.out.left_eq, HT.out.left_eq]; exact HL.out⟩
end Go.Proofs.YtcocmdbleicmcaaGreatDoor.M
