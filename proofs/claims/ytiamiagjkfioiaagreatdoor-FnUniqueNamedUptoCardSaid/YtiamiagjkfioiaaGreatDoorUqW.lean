/- The walks of override.keyValueIndexer, override.uniqueEntries of a list of texts. -/
import Derived.Test.YtiamiagjkfioiaaGreatDoorUqP
import Derived.Test.YtiamiagjkfioiaaGreatDoorMgS
import Derived.Test.YtiamiagjkfioiaaGreatDoorFromA
import Derived.Test.YtiamiagjkfioiaaGreatDoorShelf
import Derived.Lib.ItoaLen
import Derived.Lib.AppendIntMem
namespace Go.Proofs.YtiamiagjkfioiaaGreatDoor.L
set_option linter.unusedVariables false
set_option linter.unusedSimpArgs false
set_option linter.unusedSectionVars false
open Go.RowKit

set_option maxRecDepth 100000 in
theorem override_keyValueIndexer (s p : ByteArray) (w : World) (hs : s.size ≤ 140737488355328) :
    Calls Tryz.prog 95 #[.iface 9 (.string s), .string p] w fun e w' => e = .returned (.tuple #[.string (keyOf s), .nilIface]) ∧ Below w.heap.size w w' := by
  have eA := A.as_string 20 w s
  go_enter Tryz.func95, Tryz.ntmps95
  go_wp2_with fail
  refine (override_zzCut s _ hs).mono ?_
  rintro e w1 ⟨⟨b, t, hb, rfl⟩, hbe⟩
  cases b
  · have e : keyOf s = s := by simpa using hb
    go_wp2
    go_ret2
    exact ⟨by rw [e]; rfl, hbe⟩
  · clear hb
    go_wp2
    go_ret2
    exact ⟨rfl, hbe⟩
end Go.Proofs.YtiamiagjkfioiaaGreatDoor.L
namespace Go.Proofs.YtiamiagjkfioiaaGreatDoor.A
open Go.RowKit Go.Proofs.YtiamiagjkfioiaaGreatDoorW.PrintWords Go.Proofs.YtiamiagjkfioiaaGreatDoorW.PrintLast Go.Proofs.YtiamiagjkfioiaaGreatDoorW.PrintMore Go.Proofs.YtiamiagjkfioiaaGreatDoor.PT Go.Proofs.YtiamiagjkfioiaaGreatDoor.L Go.Proofs.YtiamiagjkfioiaaGreatDoor.SM

/-- the table of powers of ten, in every later world -/
abbrev Tab (w : World) : Prop := Lib.TabBelow Tryz.prog w.heap.size w "internal/strconv.uint64pow10" .u64 Lib.pow10Tab
theorem Tab.on_ {w w' : World} (h : Tab w) (hb : Below w.heap.size w w') : Tab w' := fun v hv => h v (hb.trans (hv.mono hb.size))
theorem itoa_b (n : Int) (h0 : -9223372036854775808 ≤ n) (h1 : n ≤ 9223372036854775807) (w : World) (ht : Tab w) : Calls Tryz.prog 102 #[.int .i64 n] w fun e w' => e = .returned (.string ⟨(Lib.itoa n).toArray⟩) ∧ Below w.heap.size w w' :=
  (Tryz.strconv_Itoa n h0 h1 w ht.here).mono fun e w' h => by
    obtain ⟨he, k, os, hw⟩ := h
    subst hw
    exact ⟨he, Lib.below_grow _ _ (Nat.le_refl _) k os⟩
abbrev encN (n : Nat) : Value := .int .i64 n
theorem zeroN (w : World) : (zeroValue 3).run Tryz.prog w = .ok (.int .i64 0) w := by kernel_rfl
theorem infoA_ : (Tryz.prog.info? 20).map (fun i => (i.zero, i.size, i.bytes)) = some (some .nilIface, 1, 16) := by kernel_rfl
theorem enters_kvi : ∀ args w, (callFunc 95 args).run Tryz.prog w = .ok (.enter 95 args) w := Go.Proofs.enters_of Tryz.func95 (by kernel_rfl) rfl
theorem own_some {w : World} {base : Nat} {ok : Nat → Prop} {B : Option Addr} {n d : Nat} {vs : List AV} (h : Kd.R kA 20 w base ok (.slice B n d) vs) (hp : 0 < vs.length) : ∃ g, B = some ⟨g, 0, none⟩ := by
  obtain ⟨_, inner, hown, hr⟩ := h
  obtain ⟨hl, h2⟩ := hown
  rcases h2 with ⟨e, hz⟩ | ⟨g, cap, cur, e, _⟩
  · exact absurd hz (Nat.pos_iff_ne_zero.1 hp)
  · injection e with e
    exact ⟨g, e⟩
theorem Kd.R_ne {w : World} {base bm : Nat} {B : Option Addr} {n d : Nat} {vs : List AV} (h : Kd.R kA 20 w base (fun k => k ≠ bm) (.slice B n d) vs) (k : Nat) (e : (Value.slice B n d).ownBlock = some k) : k ≠ bm := h.1 k e
theorem R_ok {w : World} {base bm : Nat} {g n d : Nat} {vs : List AV} (h : Kd.R kA 20 w base (fun k => k ≠ bm) (.slice (some ⟨g, 0, none⟩) n d) vs) (e : bm = g) : False := h.1 g rfl e.symm
/-- the loop's state -/
structure UqL (w wr : World) (bm : Nat) (ss : List ByteArray) (i : Nat) (B : Option Addr) (d : Nat) (m : List (ByteArray × Nat)) : Prop where
  row : Kd.R kA 20 wr w.heap.size (fun k => k ≠ bm) (.slice B (uniqL (ss.take i)).length d) ((uniqL (ss.take i)).map AV.text)
  map : TMap wr bm encN m
  pl : Places m (uniqL (ss.take i))
  bel : Below w.heap.size w wr
theorem take_snoc {α : Type} {l : List α} {i : Nat} (h : i < l.length) : l.take (i + 1) = l.take i ++ [l[i]'h] := List.take_succ_eq_append_getElem h
set_option maxHeartbeats 8000000 in
set_option maxRecDepth 100000 in
theorem override_uniqueEntries (ss : List ByteArray) (hn : ss.length ≤ 1048576) (hss : ∀ s ∈ ss, s.size ≤ 2147483647) (A : Option Addr) (c : Nat) (hc : ss.length ≤ c) (p : ByteArray) (hp : p.size ≤ 1048576) (w : World) (hr : kA.C w A ss.length (ss.map AV.text)) (ht : Tab w) :
    Calls Tryz.prog 71 #[.slice A ss.length c, .func (.func 95) #[] #[], .string p] w fun e w' =>
      (∃ (B : Option Addr) (d : Nat), e = .returned (.tuple #[.slice B (uniqL ss).length d, .nilIface]) ∧ (uniqL ss).length ≤ d ∧ kA.C w' B (uniqL ss).length ((uniqL ss).map AV.text) ∧ ∀ ad, B = some ad → 0 < (uniqL ss).length → w.heap.size ≤ ad.block) ∧ Below w.heap.size w w' := by
  obtain ⟨n, hnn⟩ : ∃ n, n = ss.length := ⟨_, rfl⟩
  rw [← hnn] at hr hc hn ⊢
  have HR := Aside0.mk hr
  have HN := Lib.hid hnn
  have HNB := Lib.hid hn
  have HSS := Lib.hid hss
  have HT := Lib.hid ht
  have HPS := Lib.hid hp
  have hmm := fun (W : World) => run_makeMap (P := Tryz.prog) 111 W
  have hent := enters_kvi
  clear hr hc hn hnn hss ht hp
  go_enter Tryz.func71, Tryz.ntmps71
  go_upto_region 2 with (refine Kd.R_lit kA (w0 := w) w.heap.size 20 rfl (N := 16) rfl (xs := []) (inner := []) (ok := fun _ => True) (okp := fun _ => False) ?hr ?hp (fun _ h => h.elim) ?hf ?hB ?hS (by simp) ?_; (case hr => first | (go_simp; done) | (go_simp; rfl)); (case hp => exact Reps.none _ _); (case hf => trivial); (case hB => exact Below.refl _ _); (case hS => exact Nat.le_refl _); intro v5 w5 ho5 hb5 hg5 hn5; obtain ⟨B5, d5, eo5⟩ := Kd.R_slice ho5; subst eo5; have HO5 := Aside0.mk ho5; have HB5 := Aside0.mk hb5; clear ho5 hb5 hg5 hn5)
  have HM0 : Aside0 (TMap (w5.alloc (.map #[] 0)) w5.heap.size encN []) := ⟨TMap.made w5 _⟩
  obtain ⟨W6, hW6⟩ : ∃ W6 : World, W6 = w5.alloc (.map #[] 0) := ⟨_, rfl⟩
  obtain ⟨bm, hbm⟩ : ∃ bm, bm = w5.heap.size := ⟨_, rfl⟩
  rw [← hW6, ← hbm] at HM0
  have HST : Aside0 (UqL w W6 bm ss 0 B5 d5 []) := ⟨⟨by rw [hW6, hbm]; exact Kd.R_alloc (Kd.R_mono (Kd.R_bound HO5.out) (fun k hk => by have := hk.2.2.1; omega)) _, HM0.out, Places.start, by rw [hW6]; exact HB5.out.alloc HB5.out.size _⟩⟩
  have HW6 := Lib.hid hW6
  have HBM := Lib.hid hbm
  have HBW : Hid (w.heap.size ≤ bm) := Lib.hid (by rw [hbm]; exact HB5.out.size)
  clear hW6 hbm
  go_upto_region 4 with fail
  rw [← HW6.out, ← HBM.out]
  clear hmm
  go_loopw [8, 20] (fun v8 v20 wr => ∃ (i : Nat) (B : Option Addr) (d : Nat) (m : List (ByteArray × Nat)), i ≤ n ∧ v8 = .slice B (uniqL (ss.take i)).length d ∧ v20 = .int .i64 i ∧ Aside0 (UqL w wr bm ss i B d m)) (fun _ v20 _ => n - (intOf v20).toNat)
  case atStart => exact ⟨0, B5, d5, [], Nat.zero_le _, rfl, rfl, HST⟩
  case round =>
    obtain ⟨i, B, d, m, hi, rfl, rfl, HL⟩ := hrel
    by_cases hlt : i < n
    · have i0 : (0 : Int) ≤ (i : Int) := Int.natCast_nonneg _
      have i1 : (i : Int) < (n : Int) := Int.ofNat_lt.2 hlt
      have his : i < ss.length := by rw [← HN.out]; exact hlt
      obtain ⟨adk, eA, hk0⟩ := at_A HR.out i hlt
      replace hk0 := (HL.out.bel.cell (World.block_lt_of_cell? w _ hk0)).trans hk0
      obtain ⟨s, hs⟩ : ∃ s, s = ss[i]'his := ⟨_, rfl⟩
      have het : (ss.map AV.text).getD i .nil = .text s := by rw [hs]; simp [List.getD_eq_getElem?_getD, List.getElem?_eq_getElem his]
      rw [het] at hk0
      unfold AV.enc at hk0
      obtain ⟨out, hout⟩ : ∃ out, out = uniqL (ss.take i) := ⟨_, rfl⟩
      have hup : uniqL (ss.take (i + 1)) = upd out s := by rw [take_snoc his, uniqL_snoc, hout, hs]
      have hrow := HL.out.row
      have hpl := HL.out.pl
      rw [← hout] at hrow hpl ⊢
      have hol : out.length ≤ i := by rw [hout]; exact Nat.le_trans (uniqL_len _) (by rw [List.length_take]; omega)
      have hnd : (out.map L.keyOf).Nodup := by rw [hout]; exact uniqL_nodup _
      have HSZ : Hid (s.size ≤ 2147483647) := Lib.hid (by rw [hs]; exact HSS.out _ (List.getElem_mem his))
      have HUP := Lib.hid hup
      have HROW := Aside0.mk hrow
      have HPL := Lib.hid hpl
      have HOL := Lib.hid hol
      have HND := Lib.hid hnd
      have wk := wrF hlt (by have := HNB.out; omega)
      obtain ⟨it, hit⟩ : ∃ it : ByteArray, it = ⟨(Lib.itoa (i : Int)).toArray⟩ := ⟨_, rfl⟩
      have hits : it.size ≤ 21 := by rw [hit]; exact Lib.itoa_length_le (i : Int) (by omega) (by have := HNB.out; omega)
      have HITO := Lib.hid (itoa_b (i : Int) (by omega) (by have := HNB.out; omega) wr (HT.out.on_ HL.out.bel))
      rw [← hit] at HITO
      have hc1 : ¬ 9223372036854775807 < 1 + it.size := by omega
      have hc2 : ¬ 9223372036854775807 < 1 + it.size + 1 := by omega
      have hxs : (⟨#[91]⟩ ++ it ++ ⟨#[93]⟩ : ByteArray).size ≤ 2147483647 := by rw [ByteArray.size_append, ByteArray.size_append]; show 1 + it.size + 1 ≤ _; omega
      have HXS := Lib.hid hxs
      have HPB : Hid (p.size ≤ 2147483647) := Lib.hid (by have := HPS.out; omega)
      subst eA
      clear his hs het hout hup hrow hpl hol hnd hit hits hxs
      go_wp2_with fail
      refine HITO.out.mono ?_
      clear hk0
      rintro e w1 ⟨rfl, hb1⟩
      have HB1 := Aside0.mk hb1
      clear hb1
      go_wp2_with fail
      refine (tree_NextG p _ w1 HPB.out ?hx).mono ?_
      case hx => exact HXS.out
      rintro e w2 ⟨rfl, hb2⟩
      have HB2 := Aside0.mk (below_then HB1.out HB1.out.size hb2)
      clear hb2
      go_wp2_with fail
      refine (override_keyValueIndexer s _ w2 (Nat.le_trans HSZ.out (by decide))).mono ?_
      rintro e w3 ⟨rfl, hb3⟩
      have HB3 := Aside0.mk (below_then HB2.out HB2.out.size hb3)
      clear hb3 hc1 hc2
      have HM3 : Aside0 (TMap w3 bm encN m) := ⟨HL.out.map.below HB3.out⟩
      have HR3 := Aside0.mk (Kd.R_below HROW.out HB3.out)
      have HBW3 : Aside0 (Below w.heap.size w w3) := ⟨HL.out.bel.trans (HB3.out.mono HL.out.bel.size)⟩
      have hz3 := zeroN w3
      cases hlk : SM.look m (L.keyOf s) with
      | some j =>
        have hhs := (look_some hlk).2
        obtain ⟨hj, hjk⟩ := HPL.out.at_ _ _ hlk
        have hpos : 0 < out.length := Nat.lt_of_le_of_lt (Nat.zero_le _) hj
        obtain ⟨g, rfl⟩ := own_some HR3.out (by simpa using hpos)
        have hold := HR3.out
        obtain ⟨ad, ea, hold⟩ := at_A (Kd.R_reads' hold).2.2 j (by simpa using hj)
        injection ea with ea
        subst ea
        simp only [add_plain] at hold
        have hfr : w3.frozen? ⟨g, j, none⟩ = false := by
          obtain ⟨_, inner, hown, _⟩ := HR3.out
          obtain ⟨cells, hcells⟩ := own_typed hown g rfl
          exact blk_frozen hcells _
        have hcc : ∀ (q : Nat) (u : Value), [((out.map AV.text).getD j AV.nil).enc][q]? = some u → w3.cell? ⟨g, (j : Int).toNat * kA.sz + q, none⟩ = some u := by
          intro q u hu
          rcases q with _ | q
          · injection hu with hu
            subst hu
            show w3.cell? ⟨g, (j : Int).toNat * 1 + 0, none⟩ = _
            rw [Int.toNat_natCast, Nat.mul_one, Nat.add_zero]
            exact hold
          · simp at hu
        have HCC := Lib.hid hcc
        have j0 : (0 : Int) ≤ (j : Int) := Int.natCast_nonneg _
        have j1 : (j : Int) < (out.length : Int) := Int.ofNat_lt.2 hj
        have HJ := Lib.hid hj
        have HJK := Lib.hid hjk
        have HSET : Hid ((out.map AV.text).set (j : Int).toNat (.text s) = (upd out s).map AV.text ∧ (upd out s).length = out.length) := Lib.hid (by rw [upd_at HND.out hj hjk, Int.toNat_natCast]; exact ⟨by rw [List.map_set], by simp⟩)
        clear hold hfr hcc hpos hjk
        go_wp2_with (first
          | (at_lookup; refine wp_look rfl _ _ true rfl Tryz.underlying111 Tryz.underlying9 rfl HM3.out (L.keyOf s) rfl hz3 ?_; rw [if_pos rfl, hhs, hlk]; simp only [Option.map_some, Option.getD_some])
          | (refine Kd.R_store kA (w0 := w) w.heap.size rfl rfl 20 _ _ rfl 20 (j : Int) 0 (out.map AV.text) (.text s) (.iface 9 (.string s)) [.iface 9 (.string s)] [((out.map AV.text).getD j AV.nil).enc] (fun k => k ≠ bm) (fun _ => False) rfl ?ho rfl rfl ?ht ?h1 HR3.out j0 (by simpa using j1) rfl HCC.out ?hj rfl (fun _ h => h.elim) HBW3.out ?_; (case ho => show _ = (j : Int).toNat * 1 + 0; simp); (case ht => exact (show (Tryz.prog.info? 20).map (·.size) = some 1 by kernel_rfl)); (case h1 => intro q hq; rw [List.mem_singleton.1 hq]; rfl); (case hj => exact Nat.le_refl 1); intro w4 ho4 hb4 hg4; have HO4 := Aside0.mk ho4; have HB4 := Aside0.mk hb4; have HG4 := Aside0.mk hg4; clear ho4 hb4 hg4))
        go_roundw
        case rel =>
          obtain ⟨hs1, hs2⟩ := HSET.out
          have hrow := HO4.out
          rw [hs1, ← hs2, ← HUP.out] at hrow
          refine ⟨i + 1, some ⟨g, 0, none⟩, d, m, hlt, by rw [HUP.out, hs2], by go_num, ⟨⟨hrow, HM3.out.grown HG4.out (fun e => by injection e with e; exact R_ok HR3.out e), ?_, HB4.out⟩⟩⟩
          rw [HUP.out, upd_at HND.out HJ.out HJK.out]
          exact HPL.out.hit HJ.out HJK.out
        case measure => first | exact msF hlt | (rw [wk]; exact msF hlt)
      | none =>
        have hhs := look_none.1 hlk
        have HWL : Hid (wrap64 (out.length : Int) = (out.length : Int)) := Lib.hid (by have h1 := HOL.out; have h2 := HNB.out; unfold wrap64; omega)
        have hnk : L.keyOf s ∉ out.map L.keyOf := fun h => (has_false.1 hhs) ((HPL.out.has _).2 h)
        have HNK := Lib.hid hnk
        have HVB : Hid (((out.map AV.text).length + 1) * 16 ≤ 140737488355328) := Lib.hid (by rw [List.length_map]; have h1 := HOL.out; have h2 := HNB.out; omega)
        clear hnk
        go_wp2_with (first
          | (at_lookup; refine wp_look rfl _ _ true rfl Tryz.underlying111 Tryz.underlying9 rfl HM3.out (L.keyOf s) rfl hz3 ?_; rw [if_pos rfl, hhs, hlk]; simp only [Option.map_none, Option.getD_none])
          | (at_builtin; refine Kd.R_append kA (w0 := w) w.heap.size rfl _ _ 48 20 .nilIface 16 rfl Tryz.underlying48 infoA_ rfl (by decide) (by decide) (.slice B out.length d) (out.map AV.text) (.text s) [.iface 9 (.string s)] (fun k => k ≠ bm) (fun _ => False) rfl rfl ?hp (fun _ h => h.elim) ?hf ?hO ?hB ?hS ?hL ?_; (case hp => rfl); (case hf => exact fun k hk => by have h1 := HM3.out.lt; omega); (case hO => exact HR3.out); (case hB => exact HBW3.out); (case hS => exact HBW3.out.size); (case hL => exact HVB.out); intro v6 w6 ho6 hb6 hg6 hat6; obtain ⟨A6, c6, eo⟩ := Kd.R_slice ho6; subst eo; have HO6 := Aside0.mk ho6; have HK6 := Aside0.mk hb6; have HM6 : Aside0 (TMap w6 bm encN m) := ⟨HM3.out.grown hg6 (fun e => Kd.R_ne HR3.out bm e.symm rfl)⟩; clear ho6 hb6 hg6 hat6)
          | (at_mapUpdate; refine wp_put rfl _ _ _ rfl Tryz.underlying111 Tryz.underlying9 rfl HM6.out (L.keyOf s) out.length rfl ?hv (w0 := w6) (B := 0) (Below.refl _ _) (Nat.zero_le _) ?_; (case hv => exact congrArg (Value.int .i64) HWL.out); intro w7 hm7 hb7 hg7 hs7; have HM7 := Aside0.mk hm7; have HG7 := Aside0.mk hg7; clear hm7 hb7 hg7 hs7))
        go_roundw
        case rel =>
          have hrow := Kd.R_grown HO6.out HG7.out (fun k hk e => by injection e with e; exact hk e)
          have hup := HUP.out
          rw [upd_new HNK.out] at hup
          have e1 : out.map AV.text ++ [AV.text s] = (uniqL (ss.take (i + 1))).map AV.text := by rw [hup, List.map_append]; rfl
          have e2 : (out.map AV.text ++ [AV.text s]).length = (uniqL (ss.take (i + 1))).length := by rw [e1, List.length_map]
          rw [e1] at hrow
          refine ⟨i + 1, A6, c6, _, hlt, ?_, by go_num, ⟨⟨?_, HM7.out, ?_, ?_⟩⟩⟩
          · rw [hup]; simp
          · rwa [List.length_map] at hrow
          · rw [hup]
            exact HPL.out.miss HM6.out.nodup HNK.out
          · exact HK6.out.grown HG7.out HK6.out.size (fun k e => by injection e with e; rw [← e]; exact HBW.out)
        case measure => first | exact msF hlt | (rw [wk]; exact msF hlt)
    · obtain rfl : i = n := by omega
      have hrow := HL.out.row
      rw [HN.out, List.take_length] at hrow
      have HROW := Aside0.mk hrow
      clear hrow
      go_wp2
      go_ret2
      obtain ⟨A', c', eA', hlc, hC⟩ := Kd.R_reads HROW.out
      injection eA' with eA1 _ eA3
      subst eA1 eA3
      rw [List.length_map] at hlc hC
      refine ⟨⟨B, d, ?_, hlc, hC, fun ad e hp => fr_own HROW.out (Nat.le_refl _) ad e⟩, HL.out.bel⟩
      rw [HN.out, List.take_length]
      rfl
end Go.Proofs.YtiamiagjkfioiaaGreatDoor.A
