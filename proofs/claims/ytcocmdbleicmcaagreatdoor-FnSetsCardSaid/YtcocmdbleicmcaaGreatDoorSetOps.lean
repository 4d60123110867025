/- The walks of utils.Set's Diff and Union. -/
import Derived.Test.YtcocmdbleicmcaaGreatDoorSets
namespace Go.Proofs.YtcocmdbleicmcaaGreatDoor.M
set_option linter.unusedVariables false
set_option linter.unusedSimpArgs false
set_option linter.unusedSectionVars false
open Go.RowKit Go.Proofs.YtcocmdbleicmcaaGreatDoorW.PrintWords Go.Proofs.YtcocmdbleicmcaaGreatDoorW.PrintLast Go.Proofs.YtcocmdbleicmcaaGreatDoor.PX Go.Proofs.YtcocmdbleicmcaaGreatDoor.SM

theorem keys_snoc {β : Type} (ql : List (ByteArray × β)) (k : ByteArray) (v : β) (x : ByteArray) : x ∈ keys (ql ++ [(k, v)]) ↔ x ∈ keys ql ∨ x = k := by
  simp [keys]
theorem key_perm {β : Type} {m ql : List (ByteArray × β)} (hp : ql.Perm m) {x : ByteArray} : x ∈ keys m ↔ x ∈ keys ql := (hp.map (fun p : ByteArray × β => p.1)).mem_iff.symm
theorem look_unit (m : List (ByteArray × Unit)) (k : ByteArray) : ((SM.look m k).map encU).getD (.agg #[]) = .agg #[] := by
  cases SM.look m k <;> rfl
set_option maxHeartbeats 4000000 in
set_option maxRecDepth 100000 in
theorem utils_Diff (b1 b2 : Nat) (m1 m2 : List (ByteArray × Unit)) (w : World) (h1 : TMap w b1 encU m1) (h2 : TMap w b2 encU m2) :
    Calls Tryz.prog 79 #[.map (some b1), .map (some b2)] w fun e w' => ∃ b m3, e = .returned (.map (some b)) ∧ TMap w' b encU m3 ∧ (∀ x, x ∈ keys m3 ↔ x ∈ keys m1 ∧ x ∉ keys m2) ∧ Below w.heap.size w w' := by
  have H1 := Aside0.mk h1
  have H2 := Aside0.mk h2
  have hl1 := h1.lt
  have hl2 := h2.lt
  clear h1 h2
  have hmm := @run_makeMap Tryz.prog
  have hmu := Tryz.underlying100
  go_enter Tryz.func79, Tryz.ntmps79
  go_wp2_with (at_range; refine wp_range rfl _ rfl Tryz.underlying100 rfl (H1.out.below ?b1) (w0 := w) (B := w.heap.size) ?b2 ?b3 ?_; (case b1 => repeat (first | exact Below.refl _ _ | apply below_alloc)); (case b2 => repeat (first | exact Below.refl _ _ | apply below_alloc)); (case b3 => simp); intro w1 r hr ht hb hg _; have HT := Aside0.mk ht; have HB1 := Aside0.mk hb; have HM1 := Aside0.mk ((TMap.made w encU).grown hg (by simp)); have H21 := Aside0.mk (TMap.grown (H2.out.below (by repeat (first | exact Below.refl _ _ | apply below_alloc))) hg (by simp)); have hr1 : r = w.heap.size + 1 := hr.trans (by first | rfl | simp); have HR := Lib.hid hr1; clear ht hb hg hr hr1)
  go_frame
  go_loopw [] (fun wr => ∃ (ql rm m3 : List (ByteArray × Unit)), Aside0 (TRng wr b1 r encU m1 rm) ∧ Aside0 (TMap wr w.heap.size encU m3) ∧ Aside0 (TMap wr b2 encU m2) ∧ Aside0 (Below w.heap.size w wr) ∧ Aside0 ((ql ++ rm).Perm m1) ∧ Aside0 (∀ x, x ∈ keys m3 ↔ x ∈ keys ql ∧ x ∉ keys m2)) (fun wr => wr.rangeLeft b1 r)
  case atStart => exact ⟨[], m1, [], HT, HM1, H21, HB1, ⟨List.Perm.refl _⟩, ⟨fun x => by simp [keys]⟩⟩
  case round =>
    obtain ⟨ql, rm, m3, HT, HM, H2, HB, HP, HK⟩ := hrel
    go_wp2_with (at_next; (refine wp_next rfl _ rfl rfl ?n1 HT.out HB.out ?n2 ?_ ?_; (case n1 => have := HR.out; omega); (case n2 => have := HR.out; omega)))
    · intro hrm
      have HE := Lib.hid hrm
      clear hrm
      go_wp2
      go_ret
      rw [HE.out, List.append_nil] at HP
      exact ⟨_, m3, rfl, HM.out, fun x => by rw [HK.out, key_perm HP.out], HB.out⟩
    · intro qk qv w2 hq ht2 hb2 hg2 hs2 hen
      have HT2 := Aside0.mk ht2
      have HB2 := Aside0.mk hb2
      have HL := Lib.hid (show (del rm qk).length < rm.length from Nat.lt_of_lt_of_eq (Nat.lt_succ_self _) (length_del (p := (qk, qv)) HT.out.nodup hq))
      have HM2 := Aside0.mk (HM.out.grown hg2 (by have h1 := HR.out; intro e; injection e with e; rw [h1] at e; omega))
      have H22 := Aside0.mk (H2.out.grown hg2 (by have h1 := HR.out; intro e; injection e with e; rw [h1] at e; omega))
      have HPN := Aside0.mk (perm_stepG HT.out.nodup hq HP.out)
      have hze := zeroU w2
      clear hq ht2 hb2 hg2 hs2
      cases hlk : has m2 qk with
      | true =>
        have HLK := Lib.hid hlk
        clear hlk
        go_wp2_with (at_lookup; refine wp_look rfl _ _ true rfl Tryz.underlying100 Tryz.underlying9 rfl H22.out qk rfl hze ?_; rw [if_pos rfl, HLK.out, look_unit]; clear hze)
        exact ⟨⟨ql ++ [(qk, qv)], del rm qk, m3, ⟨SRng.alloc HT2.out _⟩, ⟨HM2.out.below (by repeat (first | exact Below.refl _ _ | apply below_alloc))⟩, ⟨H22.out.below (by repeat (first | exact Below.refl _ _ | apply below_alloc))⟩, ⟨HB2.out.alloc HB2.out.size _⟩, HPN, ⟨fun x => by
          rw [HK.out, keys_snoc]
          exact ⟨fun h => ⟨.inl h.1, h.2⟩, fun h => ⟨h.1.resolve_right (fun e => h.2 (e ▸ (has_iff m2 qk).1 HLK.out)), h.2⟩⟩⟩⟩, by rw [TRng.left_eq (SRng.alloc HT2.out _), HT.out.left_eq]; exact HL.out⟩
      | false =>
        have HLK := Lib.hid hlk
        clear hlk
        go_wp2_with (first | (at_lookup; refine wp_look rfl _ _ true rfl Tryz.underlying100 Tryz.underlying9 rfl H22.out qk rfl hze ?_; rw [if_pos rfl, HLK.out, look_unit]; clear hze) | (at_mapUpdate; refine wp_put rfl _ _ _ rfl Tryz.underlying100 Tryz.underlying9 rfl (HM2.out.below ?b1) qk () rfl rfl (w0 := w) (B := w.heap.size) ?b2 (Nat.le_refl _) ?_; (case b1 => repeat (first | exact Below.refl _ _ | apply below_alloc)); (case b2 => repeat (first | (with_reducible first | exact HB2.out | apply below_alloc) | exact HB2.out)); intro w3 hm3 hb3 hg3 _; have HM3 := Aside0.mk hm3; have HB3 := Aside0.mk hb3; have H23 := Aside0.mk (TMap.grown (H22.out.below (by repeat (first | exact Below.refl _ _ | apply below_alloc))) hg3 (by simp; omega)); have HT3 := Aside0.mk ((HT2.out.below (by repeat (first | exact Below.refl _ _ | apply below_alloc))).grown hg3 (by simp; omega) (by have := HR.out; simp; omega)); clear hm3 hb3 hg3))
        exact ⟨⟨ql ++ [(qk, qv)], del rm qk, HT3, put m3 qk (), HM3, HPN, ⟨fun x => by
          have hnk : qk ∉ keys m2 := fun h => by have := HLK.out; rw [(has_iff m2 qk).2 h] at this; cases this
          rw [keys_put, HK.out, keys_snoc]
          constructor
          · rintro (rfl | h)
            · exact ⟨.inr rfl, hnk⟩
            · exact ⟨.inl h.1, h.2⟩
          · rintro ⟨h | rfl, h2⟩
            · exact .inr ⟨h, h2⟩
            · exact .inl rfl⟩⟩, by rw [HT3.out.left_eq, HT.out.left_eq]; exact HL.out⟩
set_option maxHeartbeats 4000000 in
set_option maxRecDepth 100000 in
theorem utils_Union (b1 b2 : Nat) (m1 m2 : List (ByteArray × Unit)) (w : World) (h1 : TMap w b1 encU m1) (h2 : TMap w b2 encU m2) :
    Calls Tryz.prog 81 #[.map (some b1), .map (some b2)] w fun e w' => ∃ b m3, e = .returned (.map (some b)) ∧ TMap w' b encU m3 ∧ (∀ x, x ∈ keys m3 ↔ x ∈ keys m1 ∨ x ∈ keys m2) ∧ Below w.heap.size w w' := by
  have H1 := Aside0.mk h1
  have H2 := Aside0.mk h2
  have hl1 := h1.lt
  have hl2 := h2.lt
  clear h1 h2
  have hmm := @run_makeMap Tryz.prog
  have hmu := Tryz.underlying100
  go_enter Tryz.func81, Tryz.ntmps81
  go_wp2_with (at_range; refine wp_range rfl _ rfl Tryz.underlying100 rfl (H1.out.below ?b1) (w0 := w) (B := w.heap.size) ?b2 ?b3 ?_; (case b1 => repeat (first | exact Below.refl _ _ | apply below_alloc)); (case b2 => repeat (first | exact Below.refl _ _ | apply below_alloc)); (case b3 => simp); intro w1 r hr ht hb hg _; have HT := Aside0.mk ht; have HB1 := Aside0.mk hb; have HM1 := Aside0.mk ((TMap.made w encU).grown hg (by simp)); have H21 := Aside0.mk (TMap.grown (H2.out.below (by repeat (first | exact Below.refl _ _ | apply below_alloc))) hg (by simp)); have hr1 : r = w.heap.size + 1 := hr.trans (by first | rfl | simp); have HR := Lib.hid hr1; clear ht hb hg hr hr1)
  go_frame
  go_loopw [] (fun wr => ∃ (ql rm m3 : List (ByteArray × Unit)), Aside0 (TRng wr b1 r encU m1 rm) ∧ Aside0 (TMap wr w.heap.size encU m3) ∧ Aside0 (TMap wr b2 encU m2) ∧ Aside0 (Below w.heap.size w wr) ∧ Aside0 ((ql ++ rm).Perm m1) ∧ Aside0 (∀ x, x ∈ keys m3 ↔ x ∈ keys ql)) (fun wr => wr.rangeLeft b1 r)
  case atStart => exact ⟨[], m1, [], HT, HM1, H21, HB1, ⟨List.Perm.refl _⟩, ⟨fun x => by simp [keys]⟩⟩
  case round =>
    obtain ⟨ql, rm, m3, HT, HM, H2, HB, HP, HK⟩ := hrel
    go_wp2_with (at_next; (refine wp_next rfl _ rfl rfl ?n1 HT.out HB.out ?n2 ?_ ?_; (case n1 => have := HR.out; omega); (case n2 => have := HR.out; omega)))
    · intro hrm
      have HE := Lib.hid hrm
      clear hrm
      rw [HE.out, List.append_nil] at HP
      have HK1 : Aside0 (∀ x, x ∈ keys m3 ↔ x ∈ keys m1) := ⟨fun x => by rw [HK.out, key_perm HP.out]⟩
      clear HK HP HT HE HR
      go_wp2_with (at_range; refine wp_range rfl _ rfl Tryz.underlying100 rfl H2.out (w0 := w) (B := w.heap.size) HB.out HB.out.size ?_; intro w3 r2 hr ht hb hg _; have HT3 := Aside0.mk ht; have HB3 := Aside0.mk hb; have HM3 := Aside0.mk (HM.out.grown hg (by simp)); have hr1 : w.heap.size < r2 := Nat.lt_of_lt_of_eq HM.out.lt hr.symm; clear ht hb hg hr)
      go_frame
      go_loopw [] (fun wq => ∃ (ql rm m3 : List (ByteArray × Unit)), Aside0 (TRng wq b2 r2 encU m2 rm) ∧ Aside0 (TMap wq w.heap.size encU m3) ∧ Aside0 (Below w.heap.size w wq) ∧ Aside0 ((ql ++ rm).Perm m2) ∧ Aside0 (∀ x, x ∈ keys m3 ↔ x ∈ keys m1 ∨ x ∈ keys ql)) (fun wq => wq.rangeLeft b2 r2)
      case atStart => exact ⟨[], m2, m3, HT3, HM3, HB3, ⟨List.Perm.refl _⟩, ⟨fun x => by rw [HK1.out]; simp [keys]⟩⟩
      case round =>
        obtain ⟨ql, rm, m4, HT, HM, HB, HP, HK⟩ := hrel
        go_wp2_with (at_next; (refine wp_next rfl _ rfl rfl ?n1 HT.out HB.out ?n2 ?_ ?_; (case n1 => omega); (case n2 => omega)))
        · intro hrm
          have HE := Lib.hid hrm
          clear hrm
          rw [HE.out, List.append_nil] at HP
          go_wp2
          go_ret
          exact ⟨_, m4, rfl, HM.out, fun x => by rw [HK.out, key_perm HP.out], HB.out⟩
        · intro qk qv w2 hq ht2 hb2 hg2 hs2 hen
          have HT2 := Aside0.mk ht2
          have HB2 := Aside0.mk hb2
          have HL := Lib.hid (show (del rm qk).length < rm.length from Nat.lt_of_lt_of_eq (Nat.lt_succ_self _) (length_del (p := (qk, qv)) HT.out.nodup hq))
          have HM2 := Aside0.mk (HM.out.grown hg2 (by intro e; injection e with e; omega))
          have HPN := Aside0.mk (perm_stepG HT.out.nodup hq HP.out)
          clear hq ht2 hb2 hg2 hs2
          go_wp2_with (at_mapUpdate; refine wp_put rfl _ _ _ rfl Tryz.underlying100 Tryz.underlying9 rfl HM2.out qk () rfl rfl HB2.out (Nat.le_refl _) ?_; intro w5 hm3 hb3 hg3 _; have HM5 := Aside0.mk hm3; have HB5 := Aside0.mk hb3; have HT5 := Aside0.mk (HT2.out.grown hg3 (by simp; omega) (by simp; omega)); clear hm3 hb3 hg3)
          exact ⟨⟨ql ++ [(qk, qv)], del rm qk, HT5, put m4 qk (), HM5, HPN, ⟨fun x => by
            rw [keys_put, HK.out, keys_snoc]
            exact ⟨fun h => h.elim (fun e => .inr (.inr e)) (fun h => h.elim .inl (fun h => .inr (.inl h))), fun h => h.elim (fun h => .inr (.inl h)) (fun h => h.elim (fun h => .inr (.inr h)) .inl)⟩⟩⟩, by rw [HT5.out.left_eq, HT.out.left_eq]; exact HL.out⟩
    · intro qk qv w2 hq ht2 hb2 hg2 hs2 hen
      have HT2 := Aside0.mk ht2
      have HB2 := Aside0.mk hb2
      have HL := Lib.hid (show (del rm qk).length < rm.length from Nat.lt_of_lt_of_eq (Nat.lt_succ_self _) (length_del (p := (qk, qv)) HT.out.nodup hq))
      have HM2 := Aside0.mk (HM.out.grown hg2 (by have h1 := HR.out; intro e; injection e with e; rw [h1] at e; omega))
      have H22 := Aside0.mk (H2.out.grown hg2 (by have h1 := HR.out; intro e; injection e with e; rw [h1] at e; omega))
      have HPN := Aside0.mk (perm_stepG HT.out.nodup hq HP.out)
      clear hq ht2 hb2 hg2 hs2
      go_wp2_with (at_mapUpdate; refine wp_put rfl _ _ _ rfl Tryz.underlying100 Tryz.underlying9 rfl HM2.out qk () rfl rfl HB2.out (Nat.le_refl _) ?_; intro w3 hm3 hb3 hg3 _; have HM3 := Aside0.mk hm3; have HB3 := Aside0.mk hb3; have H23 := Aside0.mk (H22.out.grown hg3 (by simp; omega)); have HT3 := Aside0.mk (HT2.out.grown hg3 (by simp; omega) (by have := HR.out; simp; omega)); clear hm3 hb3 hg3)
      exact ⟨⟨ql ++ [(qk, qv)], del rm qk, HT3, put m3 qk (), HM3, HPN, ⟨fun x => by
        rw [keys_put, HK.out, keys_snoc]
        exact Or.comm⟩⟩, by rw [HT3.out.left_eq, HT.out.left_eq]; exact HL.out⟩
end Go.Proofs.YtcocmdbleicmcaaGreatDoor.M
