/- The walks of types.MappingWithEquals.OverrideBy, impl.EqualsOverride, spec.Override. -/
import Derived.Test.YtcocmdbleicmcaaGreatDoorEquals
import Derived.Test.YtcocmdbleicmcaaGreatDoorFitO
import Derived.Test.YtcocmdbleicmcaaGreatDoorMerge
namespace Go.Proofs.YtcocmdbleicmcaaGreatDoor.M
set_option linter.unusedVariables false
set_option linter.unusedSimpArgs false
set_option linter.unusedSectionVars false
open Go.RowKit Go.Proofs.YtcocmdbleicmcaaGreatDoorW.PrintWords Go.Proofs.YtcocmdbleicmcaaGreatDoorW.PrintLast Go.Proofs.YtcocmdbleicmcaaGreatDoor.PX Go.Proofs.YtcocmdbleicmcaaGreatDoor.SM

theorem cell_grownR {β : Type} {enc : β → Value} {W w1 : World} {b r : Nat} {m rm : List (ByteArray × β)} (hT : TRng W b r enc m rm) (hg : W.grownBy w1 (some r)) {a : Addr} {u : Value} (h : W.cell? a = some u) : w1.cell? a = some u := by
  have hlt := World.block_lt_of_cell? W _ h
  have hne : a.block ≠ r := fun e => by
    obtain ⟨es, clock, since, seen, c0, _, _, _, hr', _⟩ := hT
    unfold World.cell? at h
    rw [e, hr'] at h
    simp at h
  exact (World.cell?_of_block (hg.block a.block hlt (fun e => hne (by injection e)))).trans h
theorem Held.grownR {β : Type} {enc : β → Value} {W w1 : World} {b r : Nat} {m : List (ByteArray × PO)} {m' rm : List (ByteArray × β)} (h : Held W m) (hT : TRng W b r enc m' rm) (hg : W.grownBy w1 (some r)) : Held w1 m := fun k a s hm => cell_grownR hT hg (h k a s hm)
theorem Held.grownN {W w1 : World} {m : List (ByteArray × PO)} (h : Held W m) (hg : W.grownBy w1 none) : Held w1 m := fun k a s hm => by
  have h0 := h k a s hm
  exact (World.cell?_of_block (hg.block a.block (World.block_lt_of_cell? W _ h0) (fun e => by cases e))).trans h0
theorem key_uniqG {β : Type} {m : List (ByteArray × β)} (hn : (keys m).Nodup) {p q : ByteArray × β} (hp : p ∈ m) (hq : q ∈ m) (e : p.1 = q.1) : p = q := by
  have h1 := look_mem hn hp
  have h2 := look_mem hn hq
  rw [e, h2] at h1
  injection h1 with h1
  exact Prod.ext e h1.symm
structure Ovr {β : Type} (m1 m2 rm m3 : List (ByteArray × β)) : Prop where
  sub : ∀ p, p ∈ rm → p ∈ m2
  mem : ∀ p, p ∈ m3 ↔ (p ∈ m2 ∧ p ∉ rm) ∨ (p ∈ m1 ∧ ∀ q, q ∈ m2 → q ∉ rm → q.1 ≠ p.1)
theorem Ovr.start {β : Type} (m1 m2 : List (ByteArray × β)) : Ovr m1 m2 m2 m1 := ⟨fun _ h => h, fun p => ⟨fun h => .inr ⟨h, fun q h1 h2 => absurd h1 h2⟩, fun h => h.elim (fun h => absurd h.1 h.2) (·.1)⟩⟩
theorem Ovr.done {β : Type} {m1 m2 m3 : List (ByteArray × β)} (h : Ovr m1 m2 [] m3) (p : ByteArray × β) : p ∈ m3 ↔ p ∈ m2 ∨ (p ∈ m1 ∧ ∀ q, q ∈ m2 → q.1 ≠ p.1) := by
  rw [h.mem]; simp
theorem Ovr.step {β : Type} {m1 m2 rm m3 : List (ByteArray × β)} (h : Ovr m1 m2 rm m3) (hn : (keys m2).Nodup) {q : ByteArray × β} (hq : q ∈ rm) : Ovr m1 m2 (del rm q.1) (put m3 q.1 q.2) := by
  refine ⟨fun p hp => h.sub p ((mem_del p).1 hp).2, fun p => ?_⟩
  have hq2 := h.sub q hq
  have hqd : q ∉ del rm q.1 := fun h4 => ((mem_del q).1 h4).1 rfl
  rw [mem_put, h.mem]
  constructor
  · rintro (rfl | ⟨h0, ⟨h1, h2⟩ | ⟨h1, h2⟩⟩)
    · exact .inl ⟨hq2, hqd⟩
    · exact .inl ⟨h1, fun h4 => h2 ((mem_del p).1 h4).2⟩
    · refine .inr ⟨h1, fun q' h3 h4 => ?_⟩
      by_cases h5 : q' ∈ rm
      · have : q'.1 = q.1 := Classical.byContradiction fun e => h4 ((mem_del q').2 ⟨e, h5⟩)
        rw [this]; exact fun e => h0 e.symm
      · exact h2 q' h3 h5
  · rintro (⟨h1, h2⟩ | ⟨h1, h2⟩)
    · by_cases h5 : p ∈ rm
      · have : p.1 = q.1 := Classical.byContradiction fun e => h2 ((mem_del p).2 ⟨e, h5⟩)
        exact .inl (key_uniqG hn h1 hq2 this)
      · exact .inr ⟨fun e => h5 (key_uniqG hn h1 hq2 e ▸ hq), .inl ⟨h1, h5⟩⟩
    · exact .inr ⟨fun e => h2 q hq2 hqd e.symm, .inr ⟨h1, fun q' h3 h4 => h2 q' h3 (fun h5 => h4 ((mem_del q').1 h5).2)⟩⟩
set_option maxHeartbeats 4000000 in
set_option maxRecDepth 100000 in
theorem types_OverrideBy (b1 b2 : Nat) (m1 m2 : List (ByteArray × PO)) (w : World) (B : Nat) (w0 : World) (h1 : TMap w b1 encO m1) (h2 : TMap w b2 encO m2) (hh1 : Held w m1) (hh2 : Held w m2) (hne : b1 ≠ b2) (hB1 : B ≤ b1) (hb0 : Below B w0 w) :
    Calls Tryz.prog 70 #[.map (some b1), .map (some b2)] w fun e w' => e = .returned (.map (some b1)) ∧ (∃ m3, TMap w' b1 encO m3 ∧ Held w' m3 ∧ ∀ p, p ∈ m3 ↔ p ∈ m2 ∨ (p ∈ m1 ∧ ∀ q, q ∈ m2 → q.1 ≠ p.1)) ∧ Below B w0 w' := by
  have H1 := Aside0.mk h1
  have H2 := Aside0.mk h2
  have HB := Aside0.mk hb0
  have HH1 := Aside0.mk hh1
  have HH2 := Aside0.mk hh2
  have hl1 := h1.lt
  have hl2 := h2.lt
  have hn2 := Lib.hid h2.nodup
  clear h1 h2 hb0 hh1 hh2
  go_enter Tryz.func70, Tryz.ntmps70
  go_wp2_with (at_range; refine wp_range rfl _ rfl Tryz.underlying79 rfl H2.out HB.out (by omega) ?_; intro w1 r hr ht hb hg _; have HT := Aside0.mk ht; have HB1 := Aside0.mk hb; have H11 := Aside0.mk (H1.out.grown hg (by simp)); have HH11 := Aside0.mk (HH1.out.grownN hg); have HH21 := Aside0.mk (HH2.out.grownN hg); have HR := Lib.hid hr; clear ht hb hg hr)
  go_frame
  go_loopw [] (fun wr => ∃ (rm m3 : List (ByteArray × PO)), Aside0 (TRng wr b2 r encO m2 rm) ∧ Aside0 (TMap wr b1 encO m3) ∧ Aside0 (Held wr m3) ∧ Aside0 (Held wr m2) ∧ Aside0 (Below B w0 wr) ∧ Aside0 (Ovr m1 m2 rm m3)) (fun wr => wr.rangeLeft b2 r)
  case atStart => exact ⟨m2, m1, HT, H11, HH11, HH21, HB1, ⟨Ovr.start _ _⟩⟩
  case round =>
    obtain ⟨rm, m3, HT, H1, HH1, HH2, HB, HG⟩ := hrel
    go_wp2_with (at_next; (refine wp_next rfl _ rfl rfl ?n1 HT.out HB.out ?n2 ?_ ?_; (case n1 => have := HR.out; omega); (case n2 => have := HR.out; omega)))
    · intro hrm
      have HE := Lib.hid hrm
      clear hrm
      go_wp2
      go_ret
      rw [HE.out] at HG
      exact ⟨rfl, ⟨_, H1.out, HH1.out, HG.out.done⟩, HB.out⟩
    · intro qk qv w2 hq ht2 hb2 hg2 hs2 hen
      have HQ := Lib.hid hq
      have HT2 := Aside0.mk ht2
      have HB2 := Aside0.mk hb2
      have HL := Lib.hid (show (del rm qk).length < rm.length from Nat.lt_of_lt_of_eq (Nat.lt_succ_self _) (length_del (p := (qk, qv)) HT.out.nodup hq))
      have H12 := Aside0.mk (H1.out.grown hg2 (by have h1 := HR.out; intro e; injection e with e; rw [h1] at e; omega))
      have HH12 := Aside0.mk (HH1.out.grownR HT.out hg2)
      have HH22 := Aside0.mk (HH2.out.grownR HT.out hg2)
      have hqm := HG.out.sub _ hq
      have HQM := Lib.hid hqm
      clear hq ht2 hb2 hg2 hs2 hqm
      go_wp2_with (at_mapUpdate; refine wp_put rfl _ _ _ rfl Tryz.underlying79 Tryz.underlying9 rfl H12.out qk qv rfl rfl HB2.out hB1 ?_; intro w3 hm3 hb3 hg3 hs3; have HM3 := Aside0.mk hm3; have HB3 := Aside0.mk hb3; have HH13 := Aside0.mk (Held.put_ (k := qk) (v := qv) HH12.out H12.out hg3 (fun a s e => HH22.out qk a s (e ▸ HQM.out))); have HH23 := Aside0.mk (HH22.out.grownM H12.out hg3); have HT3 := Aside0.mk (HT2.out.grown hg3 (by simp; omega) (by have := HR.out; simp; omega)); clear hm3 hb3 hg3 hs3)
      go_frame
      go_roundw
      case rel => exact ⟨del rm qk, put m3 qk qv, HT3, HM3, HH13, HH23, HB3, ⟨HG.out.step hn2.out HQ.out⟩⟩
      case measure => rw [HT3.out.left_eq, HT.out.left_eq]; exact HL.out
theorem len_subK : ∀ {l l' : List ByteArray}, l.Nodup → (∀ x ∈ l, x ∈ l') → l.length ≤ l'.length
  | [], _, _, _ => Nat.zero_le _
  | a :: t, l', hn, hs => by
    have ha := hs a (by simp)
    have h1 := List.nodup_cons.1 hn
    have := len_subK (l := t) (l' := l'.filter (fun x => decide (x ≠ a))) h1.2 (fun x hx => List.mem_filter.2 ⟨hs x (by simp [hx]), decide_eq_true (fun e => h1.1 (e ▸ hx : a ∈ t))⟩)
    have h2 : (l'.filter (fun x => decide (x ≠ a))).length < l'.length := List.length_filter_lt_length_iff_exists.2 ⟨a, ha, by simp⟩
    simp only [List.length_cons]; omega
theorem putsE_len (l : List S76) : (putsE l).length ≤ l.length := by
  induction l using Ord.snocRec with
  | nil => simp [putsE]
  | snoc l x ih =>
    rw [putsE_snoc]
    have := length_put (putsE l) x.f0 (valO x)
    simp only [List.length_append, List.length_singleton]; omega
theorem img_len (m : List (ByteArray × PO)) : (img m).length = m.length := by simp [img]
theorem ovr_len {m1 m2 m3 : List (ByteArray × PO)} (hn : (keys m3).Nodup) (hm : ∀ p, p ∈ m3 ↔ p ∈ m2 ∨ (p ∈ m1 ∧ ∀ q, q ∈ m2 → q.1 ≠ p.1)) : m3.length ≤ m1.length + m2.length := by
  have h1 := len_subK (l := keys m3) (l' := keys m1 ++ keys m2) hn (fun x hx => by
    obtain ⟨p, hp, rfl⟩ := List.mem_map.1 hx
    rcases (hm p).1 hp with h | h
    · exact List.mem_append_right _ (List.mem_map_of_mem (f := (·.1)) h)
    · exact List.mem_append_left _ (List.mem_map_of_mem (f := (·.1)) h.1))
  simp only [keys, List.length_append, List.length_map] at h1
  exact h1
theorem ovr_len2 {m1 m2 m3 : List (ByteArray × PO)} {l0 l1 : List S76} (h1 : img m1 = putsE l0) (h2 : img m2 = putsE l1) (hn : (keys m3).Nodup) (hm : ∀ p, p ∈ m3 ↔ p ∈ m2 ∨ (p ∈ m1 ∧ ∀ q, q ∈ m2 → q.1 ≠ p.1)) : m3.length ≤ l0.length + l1.length := by
  have a := ovr_len hn hm
  have b := putsE_len l0
  have c := putsE_len l1
  rw [← h1, img_len] at b
  rw [← h2, img_len] at c
  omega
set_option maxHeartbeats 4000000 in
set_option maxRecDepth 100000 in
theorem impl_EqualsOverride (A0 : Option Addr) (c0 : Nat) (l0 : List S76) (A1 : Option Addr) (c1 : Nat) (l1 : List S76) (w : World) (hr0 : Kd.C k76 w A0 l0.length l0) (hc0 : l0.length ≤ c0) (hl0 : l0.length ≤ 4294967296) (hr1 : Kd.C k76 w A1 l1.length l1) (hc1 : l1.length ≤ c1) (hl1 : l1.length ≤ 4294967296) :
    Calls Tryz.prog 30 #[.slice A0 l0.length c0, .slice A1 l1.length c1] w fun e w' => ∃ v l, ∃ m1 m2 m3 : List (ByteArray × PO), e = .returned v ∧ Kd.R k76 76 w' w.heap.size (fun _ => True) v l ∧ Ord.Asc S76.f0 l ∧ l.Perm (m3.map opO) ∧ img m1 = putsE l0 ∧ img m2 = putsE l1 ∧ (∀ p, p ∈ m3 ↔ p ∈ m2 ∨ (p ∈ m1 ∧ ∀ q, q ∈ m2 → q.1 ≠ p.1)) ∧ l.length ≤ 8589934592 ∧ Below w.heap.size w w' := by
  have HR0 := Aside0.mk hr0
  have HR1 := Aside0.mk hr1
  have HC0 := Aside0.mk hc0
  have HC1 := Aside0.mk hc1
  clear hr0 hc0 hr1 hc1
  go_enter Tryz.func30, Tryz.ntmps30
  go_upto_region 1 with (fail)
  go_wp2_with (first
    | (go_at_call_has 69 A0; refine (impl_equals A0 c0 l0 _ HR0.out HC0.out (by omega)).mono ?_; rintro e w1 ⟨b1, m1, rfl, ht1, hh1, hi1, hb1, hB1⟩; have HT1 := Aside0.mk ht1; have HI1 := Aside0.mk hi1; have HH1 := Aside0.mk hh1; have HB1 := Aside0.mk hB1; have HL1 := Aside0.mk hb1; clear ht1 hB1 hb1 hh1 hi1)
    | (go_at_call_has 69 A1; refine (impl_equals A1 c1 l1 _ (Kd.C_below HR1.out HB1.out) HC1.out (by omega)).mono ?_; rintro e w2 ⟨b2, m2, rfl, ht2, hh2, hi2, hb2, hB2⟩; have HT2 := Aside0.mk ht2; have HI2 := Aside0.mk hi2; have HH2 := Aside0.mk hh2; have HT3 := Aside0.mk (HT1.out.below hB2); have HH3 := Aside0.mk (HH1.out.below hB2); have HNE := Aside0.mk (show b1 ≠ b2 from fun e => by have := HT1.out.lt; omega); have HB2 := Aside0.mk (below_then HB1.out HB1.out.size hB2); clear ht2 hB2 hb2 hh2 hi2)
    | (go_at_call 70; refine (types_OverrideBy b1 b2 m1 m2 _ w.heap.size w HT3.out HT2.out HH3.out HH2.out HNE.out HL1.out HB2.out).mono ?_; rintro e w3 ⟨rfl, ⟨m3, ht, hh, hm⟩, hb⟩; have HT4 := Aside0.mk ht; have HH4 := Aside0.mk hh; have HM3 := Aside0.mk hm; have HB3 := Aside0.mk hb; have HLm := Aside0.mk (show m3.length ≤ 8589934592 from by (have := ovr_len2 HI1.out HI2.out ht.nodup hm; omega)); clear ht hm hb hh)
    | (go_at_call 60; refine (impl_opts b1 m3 _ HT4.out HH4.out (Nat.le_trans HLm.out (by decide))).mono ?_; rintro e w4 ⟨v, l, rfl, ho, ha, hp, hb⟩; have HO := Aside0.mk (Kd.R_lower ho HB3.out.size); have HA := Aside0.mk ha; have HP := Aside0.mk hp; have HB4 := Aside0.mk (below_then HB3.out HB3.out.size hb); clear ho ha hp hb))
  go_ret
  exact ⟨_, _, _, _, _, rfl, HO.out, HA.out, HP.out, HI1.out, HI2.out, HM3.out, by have := HP.out.length_eq; rw [List.length_map] at this; rw [this]; exact HLm.out, HB4.out⟩
end Go.Proofs.YtcocmdbleicmcaaGreatDoor.M
