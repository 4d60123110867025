/- The walk of transform.transformDependsOn (printed by gen_need.py). -/
import Derived.Test.YtgeamhmenmomhaaNeedV
namespace Go.Proofs.Ytgeamhmenmomhaa.A
set_option linter.unusedVariables false
set_option linter.unusedSimpArgs false
set_option linter.unusedSectionVars false
open Go.RowKit Go.Proofs.YtgeamhmenmomhaaW.PrintWords Go.Proofs.YtgeamhmenmomhaaW.PrintLast Go.Proofs.YtgeamhmenmomhaaW.PrintMore Go.Proofs.Ytgeamhmenmomhaa.PT Go.Proofs.Ytgeamhmenmomhaa.L Go.Proofs.Ytgeamhmenmomhaa.SM

def AnsL (lo : Nat) (w : World) (y : IV) (e : Ending) (w' : World) : Prop := ∃ v : AV, e = .returned (.tuple #[v.enc, .nilIface]) ∧ FromIs w' v y ∧ Below lo w w'
set_option maxHeartbeats 4000000 in
set_option maxRecDepth 100000 in
theorem need_map {y : IV} (hn : NeedI y) {P : Nat → Prop} {w : World} {v : AV} (ha : AnyF w P y v) (lo : Nat) (hP : ∀ n, P n → lo ≤ n ∧ n < w.heap.size) (hlo : lo ≤ w.heap.size) (p : ByteArray) (g : Bool) :
    Calls Try.prog 33 #[v.enc, .string p, .bool g] w (AnsL lo w (allI reqI y)) := by
  obtain ⟨b, m, Q, rfl, hm, hPb, hbQ, hQP, hd, hk, hl, he⟩ := any_isMap ha hn.map
  have hPw : ∀ n, P n → n < w.heap.size := fun n h => (hP n h).2
  have e1 := as_map 20 w (.map (some b))
  have HM := Aside0.mk hm
  have HBL : Hid (b < w.heap.size) := Lib.hid hm.lt
  have HN := Lib.hid hn
  have HPW := Lib.hid hPw
  have HPLO : Hid (∀ n, P n → lo ≤ n) := Lib.hid (fun n h => (hP n h).1)
  have HLO := Lib.hid hlo
  have HBQ := Lib.hid hbQ
  have HQP := Lib.hid hQP
  have HD := Lib.hid hd
  have HL := Lib.hid hl
  have HEND : Hid (∀ (r : Nat) (wr : World), ReqL y P Q b r w wr m [] → FromIs wr (.map b) (allI reqI y)) := Lib.hid (fun r wr h => h.end_ hn.fine hn.map hk hl)
  have HST : Hid (∀ (r : Nat) (w1 : World), TRng w1 b r AV.enc m m → w.grownBy w1 none → ReqL y P Q b r w w1 m m) := Lib.hid (fun r w1 ht hg => ⟨ht, fun i h1 h2 _ => (he i h1 h2).kept (fun q _ hlt => hg.block q hlt (fun e => by cases e)), fun i h1 h2 hh => absurd hh (by rw [has_iff.2 (List.mem_map_of_mem (f := fun q : ByteArray × AV => q.1) (List.getElem_mem h2))]; decide), ⟨hg.os, hg.tape, hg.output, hg.size, fun q hq _ => hg.block q hq (fun e => by cases e)⟩⟩)
  clear hm hn hP hlo hPb hbQ hQP hd hk hl he ha hPw
  unfold AV.enc
  go_enter Try.func33, Try.ntmps33
  go_wp2_with (at_range; refine wp_range rfl _ rfl Try.underlying63 rfl HM.out (w0 := w) (B := w.heap.size) (Below.refl _ _) (Nat.le_refl _) ?_; intro w1 r hr ht hb2 hg2 hs2; have HT := Aside0.mk ht; have HG1 := Aside0.mk hg2; have HR := Lib.hid hr; clear ht hb2 hg2 hr hs2)
  clear e1
  go_frame
  go_loopw [] (fun wr => ∃ rm : List (ByteArray × AV), Aside0 (ReqL y P Q b r w wr m rm)) (fun wr => wr.rangeLeft b r)
  case atStart => exact ⟨m, ⟨HST.out r w1 HT.out HG1.out⟩⟩
  case round =>
    obtain ⟨rm, HF⟩ := hrel
    obtain ⟨wo, hwo⟩ : ∃ wo, wo = wr := ⟨_, rfl⟩
    subst hwo
    go_wp2_with (at_next; (refine wp_next rfl _ rfl rfl ?n1 HF.out.rng (w0 := wo) (B := r) (Below.refl _ _) (Nat.le_refl _) ?_ ?_; (case n1 => have := HR.out; have := HBL.out; omega)))
    · intro hrm
      subst hrm
      go_wp2
      refine bodyPost_ret (v := .tuple #[.iface 63 (.map (some b)), .nilIface]) (by simp [results, Try.results33, go_sem, *]) rfl ?_
      exact ⟨.map b, rfl, HEND.out r wo HF.out, HF.out.only.toBelow HPLO.out HLO.out⟩
    · intro qk qv w2 hq ht2 hb2 hg2 hs2 hen
      obtain ⟨i, hi2, hiq⟩ := List.mem_iff_getElem.1 (rng_mem_of HF.out.rng hq)
      have hi1 : i < y.f4.length := by rw [← HL.out]; exact hi2
      have hhas : SM.has rm qk = true := has_iff.2 (List.mem_map_of_mem (f := fun q : ByteArray × AV => q.1) hq)
      have hiq1 : (m[i]'hi2).1 = qk := by rw [hiq]
      have hkid := HF.out.kid i hi1 hi2 (by rw [hiq1]; exact hhas)
      rw [hiq] at hkid
      dsimp only at hkid
      have hym := List.getElem_mem hi1
      have hfx := fine_sub HN.out.fine hym
      obtain ⟨hx5, hxc, hxb⟩ := HN.out.kid _ hym
      obtain ⟨x, hx⟩ : ∃ x, x = y.f4[i]'hi1 := ⟨_, rfl⟩
      rw [← hx] at hkid hfx hx5 hxc hxb
      have hQr : ∀ q, Q qk q → q ≠ r := fun q h e => by have h1 := HPW.out q (HQP.out _ _ h); have h2 := HR.out; omega
      have hk2 := hkid.kept (w' := w2) (fun q hq' hlt => hg2.block q hlt (fun e => by injection e with e; exact hQr _ hq' e))
      obtain ⟨bx, mx, Qx, rfl, hmx, hRb, hbxQ, hQx, hdx, hkx, hlx, hex⟩ := any_isMap hk2 hx5
      have hkk : SM.keys mx = x.f3 := hkx
      have hax := fine_asc hfx hx5
      have hwo : w.heap.size ≤ wo.heap.size := HF.out.only.size
      have HSTEP : Hid (∀ w6 : World, TRng w6 b r AV.enc m (del rm qk) → Only (fun q => q = r ∨ Q qk q) wo w6 → (∀ W', Stays (Q qk) w6 W' → FromIs W' (.map bx) (reqI x)) → ReqL y P Q b r w w6 m (del rm qk)) := Lib.hid (fun w6 a1 a2 a3 => HF.out.step HR.out HQP.out HPW.out HD.out hi1 hi2 hiq1 a1 a2 (by rw [hiq]; rw [← hx]; exact a3))
      have HHAD : Hid (placeB kReq x.f3 = true → ∀ W', Stays (Q qk) w2 W' → FromIs W' (.map bx) (reqI x)) := Lib.hid (fun hp => req_had hk2 hfx hp)
      have HPUT : Hid (placeB kReq x.f3 = false → ∀ w3, TMap w3 bx AV.enc (put mx kReq (.bool true)) → w2.grownBy w3 (some bx) → ∀ W', Stays (Q qk) w3 W' → FromIs W' (.map bx) (reqI x)) := Lib.hid (fun hp w3 a1 a2 => req_put hfx hx5 hxb hRb hbxQ hQx (fun n hn => by have h1 := HPW.out n (HQP.out _ _ hn); rw [hs2]; omega) hkx hlx hex hp a1 a2)
      have hcin : kCond ∈ SM.keys mx := by rw [hkk]; exact hxc
      obtain ⟨vc, hlc⟩ := keys_lookB hcin
      have hhc := (look_some hlc).2
      have HQB : Hid (Q qk bx) := Lib.hid hRb
      have HBXB : Hid (bx ≠ b) := Lib.hid (fun e => HBQ.out qk (e ▸ hRb))
      have HBXR : Hid (bx ≠ r) := Lib.hid (hQr _ hRb)
      have HPL : Hid (placeB kReq x.f3 = true ↔ kReq ∈ SM.keys mx) := Lib.hid (by rw [hkk]; exact place_mem hax)
      have HT2 := Aside0.mk ht2
      have HG2 := Aside0.mk hg2
      have HMX := Aside0.mk hmx
      have HLL := Lib.hid (show (del rm qk).length < rm.length from Nat.lt_of_lt_of_eq (Nat.lt_succ_self _) (length_del (p := (qk, .map bx)) HF.out.rng.nodup hq))
      have a5 := as_map 20 w2 (.map (some bx))
      have hze := zeroA w2
      clear hq ht2 hb2 hg2 hs2 hiq hhas hiq1 hkid hym hfx hx5 hxc hxb hQr hk2 hmx hRb hbxQ hQx hdx hkx hlx hex hkk hax hwo hcin hx
      unfold AV.enc at hen
      unfold AV.enc
      cases hlr : SM.look mx kReq with
      | none =>
        have hhr := look_none.1 hlr
        have HPF : Hid (placeB kReq x.f3 = false) := Lib.hid (by
          cases hp : placeB kReq x.f3 with
          | false => rfl
          | true => exact absurd (HPL.out.1 hp) (has_false.1 hhr))
        go_wp2_with (first
          | (at_lookup; refine wp_look rfl _ _ true rfl Try.underlying63 Try.underlying9 rfl HMX.out kCond rfl hze ?_; rw [if_pos rfl, hhc, hlc]; simp only [Option.map_some, Option.getD_some])
          | (at_lookup; refine wp_look rfl _ _ true rfl Try.underlying63 Try.underlying9 rfl HMX.out kReq rfl hze ?_; rw [if_pos rfl, hhr, hlr]; simp only [Option.map_none, Option.getD_none])
          | (at_mapUpdate; refine wp_put rfl _ _ _ rfl Try.underlying63 Try.underlying9 rfl HMX.out kReq (.bool true) rfl rfl (w0 := w2) (B := 0) (Below.refl _ _) (Nat.zero_le _) ?_; intro w3 hm3 hb3 hg3 hs3; have HM3 := Aside0.mk hm3; have HG3 := Aside0.mk hg3; clear hm3 hb3 hg3 hs3))
        (first | go_frame | skip)
        have HT3 : Aside0 (TRng w3 b r AV.enc m (del rm qk)) := ⟨HT2.out.grown HG3.out (fun e => by injection e with e; exact HBXB.out e.symm) (fun e => by injection e with e; exact HBXR.out e.symm)⟩
        go_roundw
        case rel => exact ⟨del rm qk, ⟨HSTEP.out w3 HT3.out ((Only.of_grown (P := fun q => q = r ∨ Q qk q) HG2.out (.inl rfl)).trans (Only.of_grown (P := fun q => q = r ∨ Q qk q) HG3.out (.inr HQB.out)) (fun q hq _ => hq)) (HPUT.out HPF.out w3 HM3.out HG3.out)⟩⟩
        case measure => rw [HT3.out.left_eq, HF.out.rng.left_eq]; exact HLL.out
      | some vr =>
        have hhr := (look_some hlr).2
        have HPT : Hid (placeB kReq x.f3 = true) := Lib.hid (HPL.out.2 (has_iff.1 hhr))
        go_wp2_with (first
          | (at_lookup; refine wp_look rfl _ _ true rfl Try.underlying63 Try.underlying9 rfl HMX.out kCond rfl hze ?_; rw [if_pos rfl, hhc, hlc]; simp only [Option.map_some, Option.getD_some])
          | (at_lookup; refine wp_look rfl _ _ true rfl Try.underlying63 Try.underlying9 rfl HMX.out kReq rfl hze ?_; rw [if_pos rfl, hhr, hlr]; simp only [Option.map_some, Option.getD_some]))
        (first | go_frame | skip)
        go_roundw
        case rel => exact ⟨del rm qk, ⟨HSTEP.out w2 HT2.out (Only.of_grown (P := fun q => q = r ∨ Q qk q) HG2.out (.inl rfl)) (HHAD.out HPT.out)⟩⟩
        case measure => rw [HT2.out.left_eq, HF.out.rng.left_eq]; exact HLL.out
theorem as_stringF (xT : TypeId) (w : World) (s : ByteArray) : (Instr.typeAssert (.iface 9 (.string s)) xT 9 false).run Try.prog w = .ok (.string s) w := by simp [Instr.typeAssert, run_underlying Try.underlying9, go_sem, Result.andThen]
theorem run_mk (w : World) : (Instr.makeMap 63 none).run Try.prog w = .ok (.map (some w.heap.size)) (w.alloc (.map #[] 0)) := run_makeMap _ _
theorem put_av {W : World} {b : Nat} {m : List (ByteArray × AV)} (h : TMap W b AV.enc m) (k : ByteArray) (v : AV) : ∃ W', (Instr.mapUpdate 63 (.map (some b)) (.string k) v.enc).run Try.prog W = .ok () W' ∧ TMap W' b AV.enc (put m k v) ∧ W.grownBy W' (some b) := by
  obtain ⟨o, hrun, hs⟩ := run_put (P := Try.prog) Try.underlying63 Try.underlying9 h k v.enc
  refine ⟨_, hrun, ?_, setBlock_grown _ _ o⟩
  have e : put (mapE AV.enc m) k v.enc = mapE AV.enc (put m k v) := put_mapE AV.enc m k v
  rw [e] at hs
  exact hs
theorem std_put : put (put ([] : List (ByteArray × AV)) kCond (.text startB)) kReq (.bool true) = stdM := by kernel_rfl
theorem LstL.step {ss : List ByteArray} {w wr Wa Wb Wc : World} {bd j : Nat} {mm : List (ByteArray × AV)} (h : LstL ss w wr bd j mm) (hj : j < ss.length) (ga : (wr.alloc (.map #[] 0)).grownBy Wa (some wr.heap.size)) (gb : Wa.grownBy Wb (some wr.heap.size)) (hmb : TMap Wb wr.heap.size AV.enc stdM) (gc : Wb.grownBy Wc (some bd)) (hmc : TMap Wc bd AV.enc (put mm (ss[j]'hj) (.map wr.heap.size))) : LstL ss w Wc bd (j + 1) (put mm (ss[j]'hj) (.map wr.heap.size)) := by
  have hbl := h.map.lt
  have hsz := h.bel.size
  have hbn : Below wr.heap.size wr Wb := (((Below.refl _ _).alloc (Nat.le_refl _) _).grown ga (by simp) (fun k e => by injection e with e; omega)).grown gb (Nat.le_trans (by simp) ga.size) (fun k e => by injection e with e; omega)
  refine ⟨hmc, fun k => ?_, fun p hp => ?_, ?_, h.lo, ?_⟩
  · rw [keys_put, h.keys, List.take_succ_eq_append_getElem hj, List.mem_append, List.mem_singleton]
    exact or_comm
  · rcases (mem_put p).1 hp with rfl | ⟨_, hp⟩
    · exact ⟨wr.heap.size, rfl, by omega, hmb.grown gc (fun e => by injection e with e; omega)⟩
    · obtain ⟨bj, e, hne, hmj⟩ := h.vals p hp
      have hjl := hmj.lt
      exact ⟨bj, e, hne, (hmj.below hbn).grown gc (fun e => by injection e with e; exact hne e)⟩
  · exact (h.bel.trans (hbn.mono hsz)).grown gc (Nat.le_trans hsz hbn.size) (fun k e => by injection e with e; have := h.lo; omega)
  · have := length_put mm (ss[j]'hj) (.map wr.heap.size)
    have := h.len
    omega
set_option maxHeartbeats 4000000 in
set_option maxRecDepth 100000 in
theorem need_list {ss : List ByteArray} (hb : ss.length ≤ 1048576) {w : World} {v : AV} (ha : AnyIs 0 w ⟨4, 0, be, [], ss.map tIx⟩ v) (p : ByteArray) (g : Bool) :
    Calls Try.prog 33 #[v.enc, .string p, .bool g] w (AnsL w.heap.size w ⟨5, 0, be, namesK ss, (namesK ss).map fun _ => stdI⟩) := by
  obtain ⟨A, c, rfl, hr⟩ := any_listx ha
  obtain ⟨n, hn⟩ : ∃ n, n = ss.length := ⟨_, rfl⟩
  rw [← hn] at hr ⊢
  have HN := Lib.hid hn
  have HR := Aside0.mk hr
  have HBD : Hid (n ≤ 1048576) := Lib.hid (by omega)
  have e1 := no_map 20 w 62 (.slice A n c) (by decide)
  have e2 := as_list 20 w (.slice A n c)
  have e3 := run_mk w
  obtain ⟨w1, hw1⟩ : ∃ w1, w1 = w.alloc (.map #[] 0) := ⟨_, rfl⟩
  obtain ⟨bd, hbd⟩ : ∃ bd, bd = w.heap.size := ⟨_, rfl⟩
  rw [← hw1, ← hbd] at e3
  have HST : Aside0 (LstL ss w w1 bd 0 []) := ⟨by
    rw [hw1, hbd]
    exact ⟨TMap.made w AV.enc, fun k => by simp [SM.keys], fun p hp => by simp at hp, (Below.refl _ _).alloc (Nat.le_refl _) _, Nat.le_refl _, Nat.le_refl _⟩⟩
  have HB1 : Aside0 (Below w.heap.size w w1) := ⟨by rw [hw1]; exact (Below.refl _ _).alloc (Nat.le_refl _) _⟩
  clear hr ha hn hb hw1 hbd
  unfold AV.enc
  go_enter Try.func33, Try.ntmps33
  go_wp2
  clear e1 e2 e3
  go_loopw [68] (fun v68 wr => ∃ (j : Nat) (mm : List (ByteArray × AV)), j ≤ n ∧ v68 = .int .i64 j ∧ Aside0 (LstL ss w wr bd j mm)) (fun v68 _ => n - (intOf v68).toNat)
  case atStart => exact ⟨0, [], Nat.zero_le _, rfl, HST⟩
  case round =>
    obtain ⟨j, mm, hj, rfl, HF⟩ := hrel
    by_cases hlt : j < n
    · have i0 : (0 : Int) ≤ (j : Int) := Int.natCast_nonneg _
      have i1 : (j : Int) < (n : Int) := Int.ofNat_lt.2 hlt
      have hjs : j < ss.length := by rw [← HN.out]; exact hlt
      obtain ⟨adk, eA, hk0⟩ := at_A HR.out j hlt
      replace hk0 := (HF.out.bel.cell (World.block_lt_of_cell? w _ hk0)).trans hk0
      obtain ⟨t, ht⟩ : ∃ t, t = ss[j]'hjs := ⟨_, rfl⟩
      have het : (ss.map AV.text).getD j .nil = .text t := by rw [ht]; simp [List.getD_eq_getElem?_getD, List.getElem?_eq_getElem hjs]
      rw [het] at hk0
      unfold AV.enc at hk0
      have a13 := as_stringF 20 wr t
      have e3 := run_mk wr
      obtain ⟨Wa, e4, ma, ga⟩ := put_av (TMap.made wr AV.enc) kCond (.text startB)
      obtain ⟨Wb, e5, mb, gb⟩ := put_av ma kReq (.bool true)
      rw [std_put] at mb
      have hbn : Below wr.heap.size wr Wb := (((Below.refl _ _).alloc (Nat.le_refl _) _).grown ga (by simp) (fun k e => by injection e with e; omega)).grown gb (Nat.le_trans (by simp) ga.size) (fun k e => by injection e with e; omega)
      obtain ⟨Wc, e6, mc, gc⟩ := put_av (HF.out.map.below hbn) t (.map wr.heap.size)
      have HNX : Aside0 (LstL ss w Wc bd (j + 1) (put mm t (.map wr.heap.size))) := ⟨by
        rw [ht] at mc ⊢
        exact HF.out.step hjs ga gb mb gc mc⟩
      have wk := wrF hlt (by have := HBD.out; omega)
      unfold AV.enc at e4 e5 e6
      subst eA
      clear hjs ht het ma ga mb gb hbn mc gc
      go_wp2
      (first | go_frame | skip)
      go_roundw
      case rel => exact ⟨j + 1, _, hlt, by go_num, HNX⟩
      case measure => first | exact msF hlt | (rw [wk]; exact msF hlt)
    · obtain rfl : j = n := by omega
      have hlt0 : ¬ ((j : Int) < (j : Int)) := Int.lt_irrefl _
      go_wp2
      refine bodyPost_ret (v := .tuple #[.iface 63 (.map (some bd)), .nilIface]) (by simp [results, Try.results33, go_sem, *]) rfl ?_
      exact ⟨.map bd, rfl, LstL.end_ (by have := HF.out; rwa [HN.out] at this) (by have h1 := HN.out; have h2 := HBD.out; omega), HF.out.bel⟩
end Go.Proofs.Ytgeamhmenmomhaa.A
