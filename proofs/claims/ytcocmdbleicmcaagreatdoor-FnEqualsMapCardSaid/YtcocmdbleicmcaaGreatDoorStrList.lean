/- The walks of utils.GetAsStringList, utils.GetAsEqualsMap, impl.rising, impl.StringList, impl.EqualsMap, spec.Listed, spec.Sorted. -/
import Derived.Test.YtcocmdbleicmcaaGreatDoorEqMapP
import Derived.Test.YtcocmdbleicmcaaGreatDoorStrs
import Derived.Test.YtcocmdbleicmcaaGreatDoorMSort
import Derived.Test.YtcocmdbleicmcaaGreatDoorOverr
import Derived.Test.YtcocmdbleicmcaaGreatDoorMapd
namespace Go.Proofs.YtcocmdbleicmcaaGreatDoor.M
set_option linter.unusedVariables false
set_option linter.unusedSimpArgs false
set_option linter.unusedSectionVars false
open Go.RowKit Go.Proofs.YtcocmdbleicmcaaGreatDoorW.PrintWords Go.Proofs.YtcocmdbleicmcaaGreatDoorW.PrintLast Go.Proofs.YtcocmdbleicmcaaGreatDoor.PX Go.Proofs.YtcocmdbleicmcaaGreatDoor.SM

/-- make([]string, 0, n) -/
theorem make_none_run {P : Program} (t e : TypeId) (ht : P.underlying t = some (.slice e)) (hinfo : (P.info? e).map (fun i => (i.zero, i.size, i.bytes)) = some (some (.string ⟨#[]⟩), 1, 16)) (m : Nat) (hm : m ≤ 1099511627776) (W : World) :
    (Instr.makeSlice t (.int .i64 0) (.int .i64 (m : Int))).run P W = .ok (.slice (some ⟨W.heap.size, 0, none⟩) 0 m) (W.alloc (.cells (madeCells #[.string ⟨#[]⟩] m) e)) := by
  obtain ⟨i0, hi, hz0, hz1, hz2⟩ := info_parts hinfo
  have hr := run_make (P := P) W t e i0 (.string ⟨#[]⟩) ht hi hz0 .i64 .i64 0 (m : Int) (by omega) (by omega) (by rw [hz2]; omega) (by omega)
  have e : (Value.string ⟨#[]⟩).cells = #[Value.string ⟨#[]⟩] := rfl
  simp only [hz1, e, Nat.mul_one, Int.toNat_natCast] at hr
  exact hr
theorem make_none_own (W : World) (e : TypeId) (base m : Nat) (hb : base ≤ W.heap.size) (hm : m ≤ 1099511627776) : Kd.R Kd.string e (W.alloc (.cells (madeCells #[.string ⟨#[]⟩] m) e)) base (fun _ => True) (.slice (some ⟨W.heap.size, 0, none⟩) 0 m) [] := by
  refine ⟨fun _ _ => trivial, [], ⟨rfl, .inr ⟨W.heap.size, m, _, rfl, hb, heap_alloc_new W _, Nat.zero_le _, ?_, ?_, rfl⟩⟩, Reps.none _ _⟩
  · unfold maxLen; omega
  · simp [madeCells]; exact (Nat.mul_one m).symm
set_option maxHeartbeats 4000000 in
set_option maxRecDepth 100000 in
theorem utils_GetAsStringList (b1 : Nat) (m1 : List (ByteArray × ByteArray)) (w : World) (h1 : TMap w b1 Value.string m1) (hl : m1.length ≤ 4294967296) (hsz : ∀ p ∈ m1, p.1.size ≤ 2147483647 ∧ p.2.size ≤ 2147483647) :
    Calls Tryz.prog 75 #[.map (some b1)] w fun e w' => ∃ v l, e = .returned v ∧ Kd.R Kd.string 9 w' w.heap.size (fun _ => True) v l ∧ l.Perm (m1.map kvP) ∧ Below w.heap.size w w' := by
  have hlen := run_len (P := Tryz.prog) Tryz.underlying85 h1 3
  rw [show (mapE Value.string m1).length = m1.length from List.length_map _] at hlen
  have hmk := make_none_run (P := Tryz.prog) 22 9 Tryz.underlying22 infoS m1.length (by omega) w
  have HMK := Aside0.mk (make_none_own w 9 w.heap.size m1.length (Nat.le_refl _) (by omega))
  have HSZ := Lib.hid hsz
  clear hsz
  have H1 := Aside0.mk h1
  have hl1 := h1.lt
  have hnd := Lib.hid h1.nodup
  clear h1
  go_enter Tryz.func75, Tryz.ntmps75
  go_wp2_with (at_range; refine wp_range rfl _ rfl Tryz.underlying85 rfl (H1.out.below ?b1) (w0 := w) (B := w.heap.size) ?b2 ?b3 ?_; (case b1 => repeat (first | exact Below.refl _ _ | apply below_alloc)); (case b2 => repeat (first | exact Below.refl _ _ | apply below_alloc)); (case b3 => simp); intro w1 r hr ht hb hg _; have HT := Aside0.mk ht; have HB1 := Aside0.mk hb; have HO1 := Aside0.mk (Kd.R_grown HMK.out hg (fun _ _ e => by cases e)); have hr1 : r = w.heap.size + 1 := hr.trans (by first | rfl | simp); have HR := Lib.hid hr1; clear ht hb hg hr hr1)
  go_frame
  go_loopw [3] (fun v3 wr => ∃ (ql rm : List (ByteArray × ByteArray)), Aside0 (TRng wr b1 r Value.string m1 rm) ∧ Aside0 (Kd.R Kd.string 9 wr w.heap.size (fun _ => True) v3 (ql.map kvP)) ∧ Aside0 (Below w.heap.size w wr) ∧ Aside0 ((ql ++ rm).Perm m1)) (fun _ wr => wr.rangeLeft b1 r)
  case atStart => exact ⟨[], m1, HT, HO1, HB1, ⟨List.Perm.refl _⟩⟩
  case round =>
    obtain ⟨ql, rm, HT, HO, HB, HP⟩ := hrel
    go_wp2_with (at_next; (refine wp_next rfl _ rfl rfl ?n1 HT.out HB.out ?n2 ?_ ?_; (case n1 => have := HR.out; omega); (case n2 => have := HR.out; omega)))
    · intro hrm
      have HE := Lib.hid hrm
      clear hrm
      go_wp2
      go_ret
      rw [HE.out, List.append_nil] at HP
      exact ⟨_, _, rfl, HO.out, HP.out.map kvP, HB.out⟩
    · intro qk qv w2 hq ht2 hb2 hg2 hs2 hen
      have HT2 := Aside0.mk ht2
      have HB2 := Aside0.mk hb2
      have HL := Lib.hid (show (del rm qk).length < rm.length from Nat.lt_of_lt_of_eq (Nat.lt_succ_self _) (length_del (p := (qk, qv)) HT.out.nodup hq))
      have HRW := Aside0.mk (Kd.R_grown (Kd.R_bound HO.out) hg2 (fun k hk e => by
        obtain ⟨_, _, _, q, _, cells, hc⟩ := hk
        injection e with e
        subst e
        obtain ⟨es, clock, since, seen, c0, _, _, _, hr', _⟩ := HT.out
        rw [hr'] at hc
        cases hc))
      have HPN := Aside0.mk (perm_stepG HT.out.nodup hq HP.out)
      obtain ⟨dl, hdl⟩ : ∃ dl, dl = ql.map kvP := ⟨_, rfl⟩
      have hdL : dl.length ≤ 4294967296 := by
        have h1 := HP.out.length_eq
        rw [hdl, List.length_map]
        rw [List.length_append] at h1
        omega
      have HN := Lib.hid (show (ql ++ [(qk, qv)]).map kvP = dl ++ [kvE qk qv] by rw [hdl, List.map_append]; rfl)
      rw [← hdl] at HRW HO
      have hnr : u3.ownBlock ≠ some r := fun e => by
        obtain ⟨cells, hc⟩ := Kd.R_typed HO.out _ e
        obtain ⟨es, clock, since, seen, c0, _, _, _, hr', _⟩ := HT.out
        rw [hr'] at hc
        cases hc
      have hnB : u3.ownBlock ≠ some b1 := fun e => by have := Kd.R_base HO.out _ e; omega
      have HNR := Lib.hid hnr
      have HNB := Lib.hid hnB
      have hqs : qk.size ≤ 2147483647 ∧ qv.size ≤ 2147483647 := HSZ.out _ (HP.out.mem_iff.1 (List.mem_append_right _ hq))
      clear hq ht2 hb2 hg2 hs2 hdl hnr hnB
      have hs1 : ¬ 9223372036854775807 < qk.size + 1 := by have := hqs.1; omega
      have hs2 : ¬ 9223372036854775807 < qk.size + 1 + qv.size := by have := hqs.1; have := hqs.2; omega
      clear hqs
      have hkv : qk ++ (⟨#[61]⟩ : ByteArray) ++ qv = kvE qk qv := rfl
      go_wp2_with (at_builtin; refine Kd.R_append Kd.string (w0 := w) w.heap.size rfl _ _ 22 9 (.string ⟨#[]⟩) 16 rfl Tryz.underlying22 infoS rfl (by decide) (by decide) u3 dl (kvE qk qv) [.string (kvE qk qv)] (fun _ => True) (fun _ => False) rfl rfl ?hp (fun _ h => h.elim) (fun _ _ => trivial) ?hO ?hB ?hS ?hL ?_; (case hp => rfl); (case hO => exact Kd.R_mono HRW.out (fun _ _ => trivial)); (case hB => exact HB2.out); (case hS => exact HB2.out.size); (case hL => omega); intro v1 w3 ho3 hb3 hg3 hat3; have HO3 := Aside0.mk ho3; have HB3 := Aside0.mk hb3; have HT3 := Aside0.mk (HT2.out.grown hg3 (fun e => HNB.out e.symm) (fun e => HNR.out e.symm)); clear ho3 hb3 hg3 hat3)
      exact ⟨⟨ql ++ [(qk, qv)], del rm qk, HT3, ⟨by rw [HN.out]; exact HO3.out⟩, HB3, HPN⟩, by rw [HT3.out.left_eq, HT.out.left_eq]; exact HL.out⟩
set_option maxHeartbeats 4000000 in
set_option maxRecDepth 100000 in
theorem impl_rising (v : Value) (l : List ByteArray) (w : World) (base : Nat) (hr : Kd.R Kd.string 9 w base (fun _ => True) v l) (hl : l.length ≤ 1099511627776) :
    Calls Tryz.prog 74 #[v] w fun e w' => e = .returned v ∧ Kd.R Kd.string 9 w' base (fun _ => True) v (Ord.sortS l) ∧ w.grownBy w' v.ownBlock := by
  have HS := Lib.hid (Srt.strings_own (P := Tryz.prog) Tryz.lays192 (Srt.ownS hr) (by omega))
  clear hr
  go_enter Tryz.func74, Tryz.ntmps74
  go_wp2_with (go_at_call 94; refine HS.out.mono ?_; rintro e w1 ⟨rfl, ho, hg⟩; have HO := Aside0.mk ho; have HG := Aside0.mk hg; clear ho hg)
  go_ret
  exact ⟨rfl, Srt.kdS HO.out, HG.out⟩
set_option maxHeartbeats 4000000 in
set_option maxRecDepth 100000 in
/-- The map that is filled ahead of a list of KEY=VALUE texts. -/
theorem utils_GetAsEqualsMap (A0 : Option Addr) (c0 : Nat) (l0 : List ByteArray) (w : World) (hr0 : Kd.C Kd.string w A0 l0.length l0) (hl : l0.length ≤ 4294967296) (hsz : ∀ s ∈ l0, s.size < 4611686018427387903) :
    Calls Tryz.prog 77 #[.slice A0 l0.length c0] w fun e w' => ∃ b, e = .returned (.map (some b)) ∧ TMap w' b Value.string (putsQ l0) ∧ w.heap.size ≤ b ∧ Below w.heap.size w w' := by
  have HR0 := Aside0.mk hr0
  have HSZ := Lib.hid hsz
  clear hr0 hsz
  have hmm := @run_makeMap Tryz.prog
  have hmu := Tryz.underlying85
  go_enter Tryz.func77, Tryz.ntmps77
  go_wp2
  go_loopw [12] (fun v10 wr => ∃ i : Nat, i ≤ l0.length ∧ v10 = .int .i64 i ∧ Aside0 (TMap wr w.heap.size Value.string (putsQ (l0.take i))) ∧ Aside0 (Below w.heap.size w wr)) (fun v10 _ => l0.length - (intOf v10).toNat)
  case atStart => exact ⟨0, Nat.zero_le _, rfl, ⟨TMap.made _ _⟩, ⟨(Below.refl _ _).alloc (Nat.le_refl _) _⟩⟩
  case round =>
    obtain ⟨i, hi, rfl, HM, HB⟩ := hrel
    by_cases hlt : i < l0.length
    · obtain ⟨ad0, rfl, hx0⟩ := Kd.at_string HR0.out (i : Int) (by omega) (by omega)
      replace hx0 := (HB.out.cell (World.block_lt_of_cell? w _ hx0)).trans hx0
      simp only [Int.toNat_natCast] at hx0
      obtain ⟨s, hs⟩ : ∃ s, s = l0[i] := ⟨_, rfl⟩
      have hs' : rdOf ByteArray.empty l0 (i : Int) = s := by rw [hs]; simp [rdOf, List.getD_eq_getElem?_getD, List.getElem?_eq_getElem hlt]
      rw [hs'] at hx0
      have HK := Aside0.mk (ucut_f s (HSZ.out s (by rw [hs]; exact List.getElem_mem hlt)))
      have hn := putsQ_snoc (l0.take i) s
      rw [hs, ← List.take_succ_eq_append_getElem hlt, ← hs] at hn
      clear hs hs'
      obtain ⟨sa, sb, hsab⟩ : ∃ sa sb, spE s = (sa, sb) := ⟨_, _, rfl⟩
      rw [hsab] at HK hn
      clear hsab
      cases sb with
      | none =>
        have HN := Lib.hid hn
        clear hn
        go_wp2_with (go_at_call 95; refine (utils_zzCut.calls _ s ⟨#[61]⟩ sa ⟨#[]⟩ false _ HK.out).mono ?_; rintro e w1 ⟨rfl, hd⟩; have HM1 := Aside0.mk (HM.out.below hd.below); have HB1 := Aside0.mk (below_then HB.out HB.out.size hd.below); clear hd)
        go_roundw
        case rel =>
          refine ⟨i + 1, by omega, by go_num, ⟨?_⟩, HB1⟩
          rw [HN.out]; exact HM1.out
        case measure => simp [intOf]; omega
      | some sb =>
        have HN := Lib.hid hn
        clear hn
        go_wp2_with (first | (go_at_call 95; refine (utils_zzCut.calls _ s ⟨#[61]⟩ sa sb true _ HK.out).mono ?_; rintro e w1 ⟨rfl, hd⟩; have HM1 := Aside0.mk (HM.out.below hd.below); have HB1 := Aside0.mk (below_then HB.out HB.out.size hd.below); clear hd) | (at_mapUpdate; refine wp_put rfl _ _ _ rfl Tryz.underlying85 Tryz.underlying9 rfl HM1.out sa sb rfl rfl HB1.out (Nat.le_refl _) ?_; intro w2 hm2 hb2 _ _; have HM2 := Aside0.mk hm2; have HB2 := Aside0.mk hb2; clear hm2 hb2))
        go_roundw
        case rel =>
          refine ⟨i + 1, by omega, by go_num, ⟨?_⟩, HB2⟩
          rw [HN.out]; exact HM2.out
        case measure => simp [intOf]; omega
    · go_wp2
      go_ret
      obtain rfl : i = l0.length := by omega
      rw [List.take_length] at HM
      exact ⟨_, rfl, HM.out, Nat.le_refl _, HB.out⟩
end Go.Proofs.YtcocmdbleicmcaaGreatDoor.M
