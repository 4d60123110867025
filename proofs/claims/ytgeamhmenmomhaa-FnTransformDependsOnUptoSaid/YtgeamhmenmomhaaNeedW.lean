/- Joined texts. -/
import Derived.Test.YtgeamhmenmomhaaNeedQ
import Derived.Test.YtgeamhmenmomhaaOnly
import Derived.Test.YtgeamhmenmomhaaFromA
/- Plain: the states of transformDependsOn's loops (printed by gen_need.py). -/
namespace Go.Proofs.Ytgeamhmenmomhaa.A
set_option linter.unusedVariables false
set_option linter.unusedSimpArgs false
set_option linter.unusedSectionVars false
open Go.RowKit Go.Proofs.YtgeamhmenmomhaaW.PrintWords Go.Proofs.YtgeamhmenmomhaaW.PrintLast Go.Proofs.YtgeamhmenmomhaaW.PrintMore Go.Proofs.Ytgeamhmenmomhaa.PT Go.Proofs.Ytgeamhmenmomhaa.L Go.Proofs.Ytgeamhmenmomhaa.SM

theorem idx_key {m : List (ByteArray × AV)} (hn : (SM.keys m).Nodup) {i j : Nat} (hi : i < m.length) (hj : j < m.length) (h : (m[i]'hi).1 = (m[j]'hj).1) : i = j := by
  have h1 : i < (SM.keys m).length := by simpa [SM.keys] using hi
  have h2 : j < (SM.keys m).length := by simpa [SM.keys] using hj
  refine (List.getElem_inj (h₀ := h1) (h₁ := h2) hn).1 ?_
  simpa [SM.keys] using h
theorem any_isMap {w : World} {R : Nat → Prop} {x : IV} {v : AV} (h : AnyF w R x v) (h5 : x.f0 = 5) : ∃ (b : Nat) (m : List (ByteArray × AV)) (Qx : ByteArray → Nat → Prop), v = .map b ∧ TMap w b AV.enc m ∧ R b ∧ (∀ k, ¬ Qx k b) ∧ (∀ k n, Qx k n → R n) ∧ (∀ k k' n, Qx k n → Qx k' n → k = k') ∧ m.map (·.1) = x.f3 ∧ m.length = x.f4.length ∧ ∀ (i : Nat) (h1 : i < x.f4.length) (h2 : i < m.length), AnyF w (Qx (m[i]'h2).1) (x.f4[i]'h1) (m[i]'h2).2 := by
  cases h with
  | nil q => omega
  | bool q => omega
  | int q => omega
  | text q => omega
  | list Q q => omega
  | map Q h hm hb hbQ hQ hd hk hl he => exact ⟨_, _, Q, rfl, hm, hb, hbQ, hQ, hd, hk, hl, he⟩
theorem any_text {lo : Nat} {w : World} {s : ByteArray} {v : AV} (h : AnyIs lo w (tIx s) v) : v = .text s := by
  cases h with
  | text h => rfl
  | nil h => simp at h
  | bool h => simp at h
  | int h => simp at h
  | list h => simp at h
  | map h => simp at h
theorem any_listx {lo : Nat} {w : World} {ss : List ByteArray} {v : AV} (h : AnyIs lo w ⟨4, 0, be, [], ss.map tIx⟩ v) : ∃ A c, v = .sl A ss.length c ∧ kA.C w A ss.length (ss.map AV.text) := by
  cases h with
  | nil h => simp at h
  | text h => simp at h
  | bool h => simp at h
  | int h => simp at h
  | map h _ _ _ _ _ => simp at h
  | @list _ A c vs h hl hc hr hA he =>
    have hl' : vs.length = ss.length := by rw [hl]; simp
    have e : vs = ss.map AV.text := by
      apply List.ext_getElem (by simp [hl'])
      intro i h1 h2
      have h3 : i < (ss.map tIx).length := by rw [List.length_map]; omega
      have := he i h3 h1
      have e2 : (ss.map tIx)[i]'h3 = tIx (ss[i]'(by omega)) := by simp
      rw [e2] at this
      rw [any_text this, List.getElem_map]
    rw [hl'] at hr ⊢
    rw [e] at hr
    exact ⟨A, c, rfl, hr⟩
abbrev stdM : List (ByteArray × AV) := [(kCond, .text startB), (kReq, .bool true)]
theorem from_std {w : World} {b : Nat} (hm : TMap w b AV.enc stdM) : FromIs w (.map b) stdI := by
  refine .map hm (by simp) (Ord.sortS_unique ?_ (List.Perm.refl _)) rfl (fun i h1 h2 v hv => ?_)
  · exact asc_srt (List.pairwise_cons.2 ⟨fun k hk => by rw [List.mem_singleton.1 hk]; decide +kernel, List.pairwise_singleton _ _⟩)
  · rcases i with _ | _ | i
    · have hl : SM.look stdM kCond = some (.text startB) := by kernel_rfl
      have : v = .text startB := by
        have := hl.symm.trans hv
        injection this with this
        exact this.symm
      rw [this]; exact .text _
    · have hl : SM.look stdM kReq = some (.bool true) := by kernel_rfl
      have : v = .bool true := by
        have := hl.symm.trans hv
        injection this with this
        exact this.symm
      rw [this]; exact FromIs.bool true
    · exact absurd h1 (by simp)
theorem keys_put {β : Type} {m : List (ByteArray × β)} {k k' : ByteArray} {v : β} : k' ∈ SM.keys (put m k v) ↔ k' = k ∨ k' ∈ SM.keys m := by
  unfold SM.keys
  constructor
  · intro h
    obtain ⟨p, hp, rfl⟩ := List.mem_map.1 h
    rcases (mem_put p).1 hp with rfl | ⟨_, h⟩
    · exact .inl rfl
    · exact .inr (List.mem_map_of_mem h)
  · intro h
    by_cases e : k' = k
    · subst e
      exact List.mem_map.2 ⟨(k', v), (mem_put _).2 (.inl rfl), rfl⟩
    · rcases h with h | h
      · exact absurd h e
      · obtain ⟨p, hp, rfl⟩ := List.mem_map.1 h
        exact List.mem_map.2 ⟨p, (mem_put _).2 (.inr ⟨e, hp⟩), rfl⟩
/-! ### the map's loop -/
def Stays (R : Nat → Prop) (w w' : World) : Prop := ∀ k, R k → k < w.heap.size → w'.heap[k]? = w.heap[k]?
structure ReqL (y : IV) (P : Nat → Prop) (Q : ByteArray → Nat → Prop) (b r : Nat) (w wr : World) (m rm : List (ByteArray × AV)) : Prop where
  rng : TRng wr b r AV.enc m rm
  kid : ∀ (i : Nat) (h1 : i < y.f4.length) (h2 : i < m.length), SM.has rm (m[i]'h2).1 = true → AnyF wr (Q (m[i]'h2).1) (y.f4[i]'h1) (m[i]'h2).2
  done : ∀ (i : Nat) (h1 : i < y.f4.length) (h2 : i < m.length), SM.has rm (m[i]'h2).1 = false → ∀ W', Stays (Q (m[i]'h2).1) wr W' → FromIs W' (m[i]'h2).2 (reqI (y.f4[i]'h1))
  only : Only P w wr
/-- one round: the child's own map was written, or nothing -/
theorem ReqL.step {y : IV} {P : Nat → Prop} {Q : ByteArray → Nat → Prop} {b r : Nat} {w wr w6 : World} {m rm : List (ByteArray × AV)} (h : ReqL y P Q b r w wr m rm) (hr : r = w.heap.size) (hQP : ∀ k n, Q k n → P n) (hPw : ∀ n, P n → n < w.heap.size) (hd : ∀ k k' n, Q k n → Q k' n → k = k')
    {i : Nat} (hi1 : i < y.f4.length) (hi2 : i < m.length) {qk : ByteArray} (hq : (m[i]'hi2).1 = qk) (hrng : TRng w6 b r AV.enc m (del rm qk)) (ho : Only (fun q => q = r ∨ Q qk q) wr w6)
    (hnew : ∀ W', Stays (Q qk) w6 W' → FromIs W' (m[i]'hi2).2 (reqI (y.f4[i]'hi1))) : ReqL y P Q b r w w6 m (del rm qk) := by
  have hn := h.rng.map.nodup
  have hwr : w.heap.size ≤ wr.heap.size := h.only.size
  have hst : ∀ {k : ByteArray}, k ≠ qk → Stays (Q k) wr w6 := fun {k} hk n hq' hlt => ho.block n hlt (fun hc => by
    rcases hc with rfl | hc
    · have := hPw _ (hQP _ _ hq'); omega
    · exact hk (hd _ _ _ hq' hc))
  refine ⟨hrng, fun j h1 h2 hh => ?_, fun j h1 h2 hh W' hW => ?_, h.only.trans ho (fun q hq' hlt => ?_)⟩
  · have e : (m[j]'h2).1 ≠ qk := fun e => by rw [e, hd_same] at hh; cases hh
    rw [hd_other e] at hh
    exact (h.kid j h1 h2 hh).kept (hst e)
  · by_cases e : (m[j]'h2).1 = qk
    · have ej : j = i := idx_key hn h2 hi2 (by rw [hq]; exact e)
      subst ej
      exact hnew W' (by rw [e] at hW; exact hW)
    · rw [hd_other e] at hh
      refine h.done j h1 h2 hh W' (fun n hn' hlt => ?_)
      exact (hW n hn' (Nat.lt_of_lt_of_le hlt ho.size)).trans (hst e n hn' hlt)
  · rcases hq' with rfl | hc
    · omega
    · exact hQP _ _ hc
theorem ReqL.end_ {y : IV} {P : Nat → Prop} {Q : ByteArray → Nat → Prop} {b r : Nat} {w wr : World} {m : List (ByteArray × AV)} (h : ReqL y P Q b r w wr m []) (hf : Fine y) (h5 : y.f0 = 5) (hk : m.map (·.1) = y.f3) (hl : m.length = y.f4.length) : FromIs wr (.map b) (allI reqI y) := by
  have ha := fine_asc hf h5
  have hly := fine_lens hf h5
  have hkk : SM.keys m = y.f3 := hk
  have e : allI reqI y = ⟨5, 0, be, y.f3, y.f4.map reqI⟩ := by
    cases hf with
    | map _ _ _ _ => rfl
    | nil => cases h5
    | bool _ => cases h5
    | int _ => cases h5
    | text _ => cases h5
    | list _ _ => cases h5
  rw [e]
  refine .map h.rng.map (by rw [hl]; exact hf.canon.short) (Ord.sortS_unique (asc_srt ha) (by rw [hkk])) (by rw [List.length_map]; exact hly) (fun i h1 h2 v hv => ?_)
  have i2 : i < y.f4.length := by simpa using h2
  have i3 : i < m.length := by omega
  have em : (m[i]'i3).1 = y.f3[i]'h1 := by
    have := congrArg (fun l => l[i]?) hk
    simp only [List.getElem?_map, List.getElem?_eq_getElem i3, List.getElem?_eq_getElem h1, Option.map_some, Option.some.injEq] at this
    exact this
  have hlk := look_mem h.rng.map.nodup (List.getElem_mem i3)
  rw [em] at hlk
  have ev : v = (m[i]'i3).2 := by
    have := hlk.symm.trans hv
    injection this with this
    exact this.symm
  rw [ev, List.getElem_map]
  exact h.done i i2 i3 (by simp [SM.has]) wr (fun _ _ _ => rfl)
/-- a child with what is required already -/
theorem req_had {w : World} {R : Nat → Prop} {x : IV} {v : AV} (h : AnyF w R x v) (hf : Fine x) (hp : placeB kReq x.f3 = true) : ∀ W', Stays R w W' → FromIs W' v (reqI x) := fun W' hW => by
  rw [reqI_has hp]
  exact ((h.kept hW).toIs).told hf
theorem req_put {w w3 : World} {R : Nat → Prop} {x : IV} {bx : Nat} {mx : List (ByteArray × AV)} {Qx : ByteArray → Nat → Prop} (hf : Fine x) (h5 : x.f0 = 5) (hb : x.f4.length ≤ 1048577) (hRb : R bx) (hbQ : ∀ k, ¬ Qx k bx) (hQ : ∀ k n, Qx k n → R n) (hRw : ∀ n, R n → n < w.heap.size) (hk : mx.map (·.1) = x.f3) (hl : mx.length = x.f4.length)
    (he : ∀ (i : Nat) (h1 : i < x.f4.length) (h2 : i < mx.length), AnyF w (Qx (mx[i]'h2).1) (x.f4[i]'h1) (mx[i]'h2).2) (hp : placeB kReq x.f3 = false) (hm3 : TMap w3 bx AV.enc (put mx kReq (.bool true))) (hg : w.grownBy w3 (some bx)) : ∀ W', Stays R w3 W' → FromIs W' (.map bx) (reqI x) := fun W' hW => by
  have ha := fine_asc hf h5
  have hlx := fine_lens hf h5
  have hkk : SM.keys mx = x.f3 := hk
  have hnr : kReq ∉ x.f3 := fun h => by rw [(place_mem ha).2 h] at hp; cases hp
  have hbl : bx < w3.heap.size := hm3.lt
  have hm' : TMap W' bx AV.enc (put mx kReq (.bool true)) := SMap.move hm3 (hW bx hRb hbl)
  have hst : ∀ k, Stays (Qx k) w W' := fun k n hn hlt => by
    have h1 : n ≠ bx := fun e => hbQ k (e ▸ hn)
    exact (hW n (hQ k n hn) (Nat.lt_of_lt_of_le hlt hg.size)).trans (hg.block n hlt (fun e => by injection e with e; exact h1 e))
  have e : reqI x = ⟨5, 0, be, withKs kReq x.f3, withL kReq x.f3 x.f4 trueI⟩ := by unfold reqI; rw [if_neg (by rw [hp]; decide)]
  rw [e]
  have l1 := withL_len kReq x.f3 x.f4 trueI hlx
  have hpm : (withKs kReq x.f3).Perm (SM.keys (put mx kReq (.bool true))) := by
    refine (List.perm_ext_iff_of_nodup (asc_nodup (withKs_asc ha)) hm3.nodup).2 (fun k => ?_)
    rw [withKs_iff ha, keys_put, hkk]
  refine .map hm' ?_ (Ord.sortS_unique (asc_srt (withKs_asc ha)) hpm) l1 (fun i h1 h2 v hv => ?_)
  · have := length_put mx kReq (.bool true)
    omega
  · have hv' := (look_some hv).1
    rcases with_pair hp hlx h1 h2 with ⟨q1, q2⟩ | ⟨j, h3, h4, q1, q2⟩
    · rw [q2]
      rw [q1] at hv'
      rcases (mem_put _).1 hv' with q | ⟨q, _⟩
      · injection q with _ q
        rw [q]; exact FromIs.bool true
      · exact absurd rfl q
    · rw [← q2]
      rw [← q1] at hv'
      have j2 : j < mx.length := by omega
      have ej : (mx[j]'j2).1 = x.f3[j]'h3 := by
        have := congrArg (fun l => l[j]?) hk
        simp only [List.getElem?_map, List.getElem?_eq_getElem j2, List.getElem?_eq_getElem h3, Option.map_some, Option.some.injEq] at this
        exact this
      rcases (mem_put _).1 hv' with q | ⟨_, q⟩
      · injection q with q _
        exact absurd (q ▸ List.getElem_mem h3) hnr
      · have hlk := look_mem (hkk ▸ asc_nodup ha : (SM.keys mx).Nodup) q
        have hlk2 := look_mem (hkk ▸ asc_nodup ha : (SM.keys mx).Nodup) (List.getElem_mem j2)
        rw [ej] at hlk2
        have ev : v = (mx[j]'j2).2 := by
          have := hlk.symm.trans hlk2
          injection this
        rw [ev]
        exact (((he j h4 j2).kept (hst _)).toIs).told (fine_sub hf (List.getElem_mem h4))
/-! ### the list's loop -/
structure LstL (ss : List ByteArray) (w wr : World) (bd j : Nat) (mm : List (ByteArray × AV)) : Prop where
  map : TMap wr bd AV.enc mm
  keys : ∀ k, k ∈ SM.keys mm ↔ k ∈ ss.take j
  vals : ∀ p ∈ mm, ∃ bj, p.2 = .map bj ∧ bj ≠ bd ∧ TMap wr bj AV.enc stdM
  bel : Below w.heap.size w wr
  lo : w.heap.size ≤ bd
  len : mm.length ≤ j
theorem LstL.end_ {ss : List ByteArray} {w wr : World} {bd : Nat} {mm : List (ByteArray × AV)} (h : LstL ss w wr bd ss.length mm) (hb : ss.length ≤ 1048576) : FromIs wr (.map bd) ⟨5, 0, be, namesK ss, (namesK ss).map fun _ => stdI⟩ := by
  obtain ⟨ha, hmem⟩ := namesK_spec ss
  refine .map h.map (by have := h.len; omega) (Ord.sortS_unique (asc_srt ha) ((List.perm_ext_iff_of_nodup (asc_nodup ha) h.map.nodup).2 (fun k => ?_))) (by simp) (fun i h1 h2 v hv => ?_)
  · rw [hmem, h.keys, List.take_length]
  · obtain ⟨bj, e, _, hm⟩ := h.vals _ (look_some hv).1
    have e' : v = .map bj := e
    rw [e', List.getElem_map]
    exact from_std hm
end Go.Proofs.Ytgeamhmenmomhaa.A
/- The walk of transform.transformDependsOn (printed by gen_need.py). -/
namespace Go.Proofs.Ytgeamhmenmomhaa.A
set_option linter.unusedVariables false
set_option linter.unusedSimpArgs false
set_option linter.unusedSectionVars false
open Go.RowKit Go.Proofs.YtgeamhmenmomhaaW.PrintWords Go.Proofs.YtgeamhmenmomhaaW.PrintLast Go.Proofs.YtgeamhmenmomhaaW.PrintMore Go.Proofs.Ytgeamhmenmomhaa.PT Go.Proofs.Ytgeamhmenmomhaa.L Go.Proofs.Ytgeamhmenmomhaa.SM

def AnsL (lo : Nat) (w : World) (y : IV) (e : Ending) (w' : World) : Prop := ∃ v : AV, e = .returned (.tuple #[v.enc, .nilIface]) ∧ FromIs w' v y ∧ Below lo w w'
set_option maxHeartbeats 4000000 in
set_option maxRecDepth 100000 in
theorem need_map {y : IV} (hn : NeedI y) {P : Nat → Prop} {w : World} {v : AV} (ha : AnyF w P y v) (lo : Nat) (hP : ∀ n, P n → lo ≤ n ∧ n < w.heap.size) (hlo : lo ≤ w.heap.size) (p : ByteArray) (g : Bool) :
    Calls Try.prog 33 #[v.enc, .string p, .bool g] w (AnsL lo w (allI reqI y)) := by
  obtain ⟨b, m, Q, rfl, hm, hPb, hbQ, hQP, hd, hk, hl, he⟩ := any_isMap ha hn.map
  have hPw : ∀ n, P n → n < w.heap.size := fun n h => (hP n h).2
  have e1 := as_map 20 w (.map (some b))
  have HM := Aside0.mk hm
  have HBL : Hid (b < w.heap.size) := Lib.hid hm.lt
  have HN := Lib.hid hn
  have HPW := Lib.hid hPw
  have HPLO : Hid (∀ n, P n → lo ≤ n) := Lib.hid (fun n h => (hP n h).1)
  have HLO := Lib.hid hlo
  have HBQ := Lib.hid hbQ
  have HQP := Lib.hid hQP
  have HD := Lib.hid hd
  have HL := Lib.hid hl
  have HEND : Hid (∀ (r : Nat) (wr : World), ReqL y P Q b r w wr m [] → FromIs wr (.map b) (allI reqI y)) := Lib.hid (fun r wr h => h.end_ hn.fine hn.map hk hl)
  have HST : Hid (∀ (r : Nat) (w1 : World), TRng w1 b r AV.enc m m → w.grownBy w1 none → ReqL y P Q b r w w1 m m) := Lib.hid (fun r w1 ht hg => ⟨ht, fun i h1 h2 _ => (he i h1 h2).kept (fun q _ hlt => hg.block q hlt (fun e => by cases e)), fun i h1 h2 hh => absurd hh (by rw [has_iff.2 (List.mem_map_of_mem (f := fun q : ByteArray × AV => q.1) (List.getElem_mem h2))]; decide), ⟨hg.os, hg.tape, hg.output, hg.size, fun q hq _ => hg.block q hq (fun e => by cases e)⟩⟩)
  clear hm hn hP hlo hPb hbQ hQP hd hk hl he ha hPw
  unfold AV.enc
  go_enter Try.func33, Try.ntmps33
  go_wp2_with (at_range; refine wp_range rfl _ rfl Try.underlying63 rfl HM.out (w0 := w) (B := w.heap.size) (Below.refl _ _) (Nat.le_refl _) ?_; intro w1 r hr ht hb2 hg2 hs2; have HT := Aside0.mk ht; have HG1 := Aside0.mk hg2; have HR := Lib.hid hr; clear ht hb2 hg2 hr hs2)
  clear e1
  go_frame
  go_loopw [] (fun wr => ∃ rm : List (ByteArray × AV), Aside0 (ReqL y P Q b r w wr m rm)) (fun wr => wr.rangeLeft b r)
  case atStart => exact ⟨m, ⟨HST.out r w1 HT.out HG1.out⟩⟩
  case round =>
    obtain ⟨rm, HF⟩ := hrel
    obtain ⟨wo, hwo⟩ : ∃ wo, wo = wr := ⟨_, rfl⟩
    subst hwo
    go_wp2_with (at_next; (refine wp_next rfl _ rfl rfl ?n1 HF.out.rng (w0 := wo) (B := r) (Below.refl _ _) (Nat.le_refl _) ?_ ?_; (case n1 => have := HR.out; have := HBL.out; omega)))
    · intro hrm
      subst hrm
      go_wp2
      refine bodyPost_ret (v := .tuple #[.iface 63 (.map (some b)), .nilIface]) (by simp [results, Try.results33, go_sem, *]) rfl ?_
      exact ⟨.map b, rfl, HEND.out r wo HF.out, HF.out.only.toBelow HPLO.out HLO.out⟩
    · intro qk qv w2 hq ht2 hb2 hg2 hs2 hen
      obtain ⟨i, hi2, hiq⟩ := List.mem_iff_getElem.1 (rng_mem_of HF.out.rng hq)
      have hi1 : i < y.f4.length := by rw [← HL.out]; exact hi2
      have hhas : SM.has rm qk = true := has_iff.2 (List.mem_map_of_mem (f := fun q : ByteArray × AV => q.1) hq)
      have hiq1 : (m[i]'hi2).1 = qk := by rw [hiq]
      have hkid := HF.out.kid i hi1 hi2 (by rw [hiq1]; exact hhas)
      rw [hiq] at hkid
      dsimp only at hkid
      have hym := List.getElem_mem hi1
      have hfx := fine_sub HN.out.fine hym
      obtain ⟨hx5, hxc, hxb⟩ := HN.out.kid _ hym
      obtain ⟨x, hx⟩ : ∃ x, x = y.f4[i]'hi1 := ⟨_, rfl⟩
      rw [← hx] at hkid hfx hx5 hxc hxb
      have hQr : ∀ q, Q qk q → q ≠ r := fun q h e => by have h1 := HPW.out q (HQP.out _ _ h); have h2 := HR.out; omega
      have hk2 := hkid.kept (w' := w2) (fun q hq' hlt => hg2.block q hlt (fun e => by injection e with e; exact hQr _ hq' e))
      obtain ⟨bx, mx, Qx, rfl, hmx, hRb, hbxQ, hQx, hdx, hkx, hlx, hex⟩ := any_isMap hk2 hx5
      have hkk : SM.keys mx = x.f3 := hkx
      have hax := fine_asc hfx hx5
      have hwo : w.heap.size ≤ wo.heap.size := HF.out.only.size
      have HSTEP : Hid (∀ w6 : World, TRng w6 b r AV.enc m (del rm qk) → Only (fun q => q = r ∨ Q qk q) wo w6 → (∀ W', Stays (Q qk) w6 W' → FromIs W' (.map bx) (reqI x)) → ReqL y P Q b r w w6 m (del rm qk)) := Lib.hid (fun w6 a1 a2 a3 => HF.out.step HR.out HQP.out HPW.out HD.out hi1 hi2 hiq1 a1 a2 (by rw [hiq]; rw [← hx]; exact a3))
      have HHAD : Hid (placeB kReq x.f3 = true → ∀ W', Stays (Q qk) w2 W' → FromIs W' (.map bx) (reqI x)) := Lib.hid (fun hp => req_had hk2 hfx hp)
      have HPUT : Hid (placeB kReq x.f3 = false → ∀ w3, TMap w3 bx AV.enc (put mx kReq (.bool true)) → w2.grownBy w3 (some bx) → ∀ W', Stays (Q qk) w3 W' → FromIs W' (.map bx) (reqI x)) := Lib.hid (fun hp w3 a1 a2 => req_put hfx hx5 hxb hRb hbxQ hQx (fun n hn => by have h1 := HPW.out n (HQP.out _ _ hn); rw [hs2]; omega) hkx hlx hex hp a1 a2)
      have hcin : kCond ∈ SM.keys mx := by rw [hkk]; exact hxc
      obtain ⟨vc, hlc⟩ := keys_lookB hcin
      have hhc := (look_some hlc).2
      have HQB : Hid (Q qk bx) := Lib.hid hRb
      have HBXB : Hid (bx ≠ b) := Lib.hid (fun e => HBQ.out qk (e ▸ hRb))
      have HBXR : Hid (bx ≠ r) := Lib.hid (hQr _ hRb)
      have HPL : Hid (placeB kReq x.f3 = true ↔ kReq ∈ SM.keys mx) := Lib.hid (by rw [hkk]; exact place_mem hax)
      have HT2 := Aside0.mk ht2
      have HG2 := Aside0.mk hg2
      have HMX := Aside0.mk hmx
      have HLL := Lib.hid (show (del rm qk).length < rm.length from Nat.lt_of_lt_of_eq (Nat.lt_succ_self _) (length_del (p := (qk, .map bx)) HF.out.rng.nodup hq))
      have a5 := as_map 20 w2 (.map (some bx))
      have hze := zeroA w2
      clear hq ht2 hb2 hg2 hs2 hiq hhas hiq1 hkid hym hfx hx5 hxc hxb hQr hk2 hmx hRb hbxQ hQx hdx hkx hlx hex hkk hax hwo hcin hx
      unfold AV.enc at hen
      unfold AV.enc
      cases hlr : SM.look mx kReq with
      | none =>
        have hhr := look_none.1 hlr
        have HPF : Hid (placeB kReq x.f3 = false) := Lib.hid (by
          cases hp : placeB kReq x.f3 with
          | false => rfl
          | true => exact absurd (HPL.out.1 hp) (has_false.1 hhr))
        go_wp2_with (first
          | (at_lookup; refine wp_look rfl _ _ true rfl Try.underlying63 Try.underlying9 rfl HMX.out kCond rfl hze ?_; rw [if_pos rfl, hhc, hlc]; simp only [Option.map_some, Option.getD_some])
          | (at_lookup; refine wp_look rfl _ _ true rfl Try.underlying63 Try.underlying9 rfl HMX.out kReq rfl hze ?_; rw [if_pos rfl, hhr, hlr]; simp only [Option.map_none, Option.getD_none])
          | (at_mapUpdate; refine wp_put rfl _ _ _ rfl Try.underlying63 Try.underlying9 rfl HMX.out kReq (.bool true) rfl rfl (w0 := w2) (B := 0) (Below.refl _ _) (Nat.zero_le _) ?_; intro w3 hm3 hb3 hg3 hs3; have HM3 := Aside0.mk hm3; have HG3 := Aside0.mk hg3; clear hm3 hb3 hg3 hs3))
        (first | go_frame | skip)
        have HT3 : Aside0 (TRng w3 b r AV.enc m (del rm qk)) := ⟨HT2.out.grown HG3.out (fun e => by injection e with e; exact HBXB.out e.symm) (fun e => by injection e with e; exact HBXR.out e.symm)⟩
        go_roundw
        case rel => exact ⟨del rm qk, ⟨HSTEP.out w3 HT3.out ((Only.of_grown (P := fun q => q = r ∨ Q qk q) HG2.out (.inl rfl)).trans (Only.of_grown (P := fun q => q = r ∨ Q qk q) HG3.out (.inr HQB.out)) (fun q hq _ => hq)) (HPUT.out HPF.out w3 HM3.out HG3.out)⟩⟩
        case measure => rw [HT3.out.left_eq, HF.out.rng.left_eq]; exact HLL.out
      | some vr =>
        have hhr := (look_some hlr).2
        have HPT : Hid (placeB kReq x.f3 = true) := Lib.hid (HPL.out.2 (has_iff.1 hhr))
        go_wp2_with (first
          | (at_lookup; refine wp_look rfl _ _ true rfl Try.underlying63 Try.underlying9 rfl HMX.out kCond rfl hze ?_; rw [if_pos rfl, hhc, hlc]; simp only [Option.map_some, Option.getD_some])
          | (at_lookup; refine wp_look rfl _ _ true rfl Try.underlying63 Try.underlying9 rfl HMX.out kReq rfl hze ?_; rw [if_pos rfl, hhr, hlr]; simp only [Option.map_some, Option.getD_some]))
        (first | go_frame | skip)
        go_roundw
        case rel => exact ⟨del rm qk, ⟨HSTEP.out w2 HT2.out (Only.of_grown (P := fun q => q = r ∨ Q qk q) HG2.out (.inl rfl)) (HHAD.out HPT.out)⟩⟩
        case measure => rw [HT2.out.left_eq, HF.out.rng.left_eq]; exact HLL.out
theorem as_stringF (xT : TypeId) (w : World) (s : ByteArray) : (Instr.typeAssert (.iface 9 (.string s)) xT 9 false).run Try.prog w = .ok (.string s) w := by simp [Instr.typeAssert, run_underlying Try.underlying9, go_sem, Result.andThen]
theorem run_mk (w : World) : (Instr.makeMap 63 none).run Try.prog w = .ok (.map (some w.heap.size)) (w.alloc (.map #[] 0)) := run_makeMap _ _
theorem put_av {W : World} {b : Nat} {m : List (ByteArray × AV)} (h : TMap W b AV.enc m) (k : ByteArray) (v : AV) : ∃ W', (Instr.mapUpdate 63 (.map (some b)) (.string k) v.enc).run Try.prog W = .ok () W' ∧ TMap W' b AV.enc (put m k v) ∧ W.grownBy W' (some b) := by
  obtain ⟨o, hrun, hs⟩ := run_put (P := Try.prog) Try.underlying63 Try.underlying9 h k v.enc
  refine ⟨_, hrun, ?_, setBlock_grown _ _ o⟩
  have e : put (mapE AV.enc m) k v.enc = mapE AV.enc (put m k v) := put_mapE AV.enc m k v
  rw [e] at hs
  exact hs
theorem std_put : put (put ([] : List (ByteArray × AV)) kCond (.text startB)) kReq (.bool true) = stdM := by kernel_rfl
theorem LstL.step {ss : List ByteArray} {w wr Wa Wb Wc : World} {bd j : Nat} {mm : List (ByteArray × AV)} (h : LstL ss w wr bd j mm) (hj : j < ss.length) (ga : (wr.alloc (.map #[] 0)).grownBy Wa (some wr.heap.size)) (gb : Wa.grownBy Wb (some wr.heap.size)) (hmb : TMap Wb wr.heap.size AV.enc stdM) (gc : Wb.grownBy Wc (some bd)) (hmc : TMap Wc bd AV.enc (put mm (ss[j]'hj) (.map wr.heap.size))) : LstL ss w Wc bd (j + 1) (put mm (ss[j]'hj) (.map wr.heap.size)) := by
  have hbl := h.map.lt
  have hsz := h.bel.size
  have hbn : Below wr.heap.size wr Wb := (((Below.refl _ _).alloc (Nat.le_refl _) _).grown ga (by simp) (fun k e => by injection e with e; omega)).grown gb (Nat.le_trans (by simp) ga.size) (fun k e => by injection e with e; omega)
  refine ⟨hmc, fun k => ?_, fun p hp => ?_, ?_, h.lo, ?_⟩
  · rw [keys_put, h.keys, List.take_succ_eq_append_getElem hj, List.mem_append, List.mem_singleton]
    exact or_comm
  · rcases (mem_put p).1 hp with rfl | ⟨_, hp⟩
    · exact ⟨wr.heap.size, rfl, by omega, hmb.grown gc (fun e => by injection e with e; omega)⟩
    · obtain ⟨bj, e, hne, hmj⟩ := h.vals p hp
      have hjl := hmj.lt
      exact ⟨bj, e, hne, (hmj.below hbn).grown gc (fun e => by injection e with e; exact hne e)⟩
  · exact (h.bel.trans (hbn.mono hsz)).grown gc (Nat.le_trans hsz hbn.size) (fun k e => by injection e with e; have := h.lo; omega)
  · have := length_put mm (ss[j]'hj) (.map wr.heap.size)
    have := h.len
    omega
set_option maxHeartbeats 4000000 in
set_option maxRecDepth 100000 in
theorem need_list {ss : List ByteArray} (hb : ss.length ≤ 1048576) {w : World} {v : AV} (ha : AnyIs 0 w ⟨4, 0, be, [], ss.map tIx⟩ v) (p : ByteArray) (g : Bool) :
    Calls Try.prog 33 #[v.enc, .string p, .bool g] w (AnsL w.heap.size w ⟨5, 0, be, namesK ss, (namesK ss).map fun _ => stdI⟩) := by
  obtain ⟨A, c, rfl, hr⟩ := any_listx ha
  obtain ⟨n, hn⟩ : ∃ n, n = ss.length := ⟨_, rfl⟩
  rw [← hn] at hr ⊢
  have HN := Lib.hid hn
  have HR := Aside0.mk hr
  have HBD : Hid (n ≤ 1048576) := Lib.hid (by omega)
  have e1 := no_map 20 w 62 (.slice A n c) (by decide)
  have e2 := as_list 20 w (.slice A n c)
  have e3 := run_mk w
  obtain ⟨w1, hw1⟩ : ∃ w1, w1 = w.alloc (.map #[] 0) := ⟨_, rfl⟩
  obtain ⟨bd, hbd⟩ : ∃ bd, bd = w.heap.size := ⟨_, rfl⟩
  rw [← hw1, ← hbd] at e3
  have HST : Aside0 (LstL ss w w1 bd 0 []) := ⟨by
    rw [hw1, hbd]
    exact ⟨TMap.made w AV.enc, fun k => by simp [SM.keys], fun p hp => by simp at hp, (Below.refl _ _).alloc (Nat.le_refl _) _, Nat.le_refl _, Nat.le_refl _⟩⟩
  have HB1 : Aside0 (Below w.heap.size w w1) := ⟨by rw [hw1]; exact (Below.refl _ _).alloc (Nat.le_refl _) _⟩
  clear hr ha hn hb hw1 hbd
  unfold AV.enc
  go_enter Try.func33, Try.ntmps33
  go_wp2
  clear e1 e2 e3
  go_loopw [68] (fun v68 wr => ∃ (j : Nat) (mm : List (ByteArray × AV)), j ≤ n ∧ v68 = .int .i64 j ∧ Aside0 (LstL ss w wr bd j mm)) (fun v68 _ => n - (intOf v68).toNat)
  case atStart => exact ⟨0, [], Nat.zero_le _, rfl, HST⟩
  case round =>
    obtain ⟨j, mm, hj, rfl, HF⟩ := hrel
    by_cases hlt : j < n
    · have i0 : (0 : Int) ≤ (j : Int) := Int.natCast_nonneg _
      have i1 : (j : Int) < (n : Int) := Int.ofNat_lt.2 hlt
      have hjs : j < ss.length := by rw [← HN.out]; exact hlt
      obtain ⟨adk, eA, hk0⟩ := at_A HR.out j hlt
      replace hk0 := (HF.out.bel.cell (World.block_lt_of_cell? w _ hk0)).trans hk0
      obtain ⟨t, ht⟩ : ∃ t, t = ss[j]'hjs := ⟨_, rfl⟩
      have het : (ss.map AV.text).getD j .nil = .text t := by rw [ht]; simp [List.getD_eq_getElem?_getD, List.getElem?_eq_getElem hjs]
      rw [het] at hk0
      unfold AV.enc at hk0
      have a13 := as_stringF 20 wr t
      have e3 := run_mk wr
      obtain ⟨Wa, e4, ma, ga⟩ := put_av (TMap.made wr AV.enc) kCond (.text startB)
      obtain ⟨Wb, e5, mb, gb⟩ := put_av ma kReq (.bool true)
      rw [std_put] at mb
      have hbn : Below wr.heap.size wr Wb := (((Below.refl _ _).alloc (Nat.le_refl _) _).grown ga (by simp) (fun k e => by injection e with e; omega)).grown gb (Nat.le_trans (by simp) ga.size) (fun k e => by injection e with e; omega)
      obtain ⟨Wc, e6, mc, gc⟩ := put_av (HF.out.map.below hbn) t (.map wr.heap.size)
      have HNX : Aside0 (LstL ss w Wc bd (j + 1) (put mm t (.map wr.heap.size))) := ⟨by
        rw [ht] at mc ⊢
        exact HF.out.step hjs ga gb mb gc mc⟩
      have wk := wrF hlt (by have := HBD.out; omega)
      unfold AV.enc at e4 e5 e6
      subst eA
      clear hjs ht het ma ga mb gb hbn mc gc
      go_wp2
      (first | go_frame | skip)
      go_roundw
      case rel => exact ⟨j + 1, _, hlt, by go_num, HNX⟩
      case measure => first | exact msF hlt | (rw [wk]; exact msF hlt)
    · obtain rfl : j = n := by omega
      have hlt0 : ¬ ((j : Int) < (j : Int)) := Int.lt_irrefl _
      go_wp2
      refine bodyPost_ret (v := .tuple #[.iface 63 (.map (some bd)), .nilIface]) (by simp [results, Try.results33, go_sem, *]) rfl ?_
      exact ⟨.map bd, rfl, LstL.end_ (by have := HF.out; rwa [HN.out] at this) (by have h1 := HN.out; have h2 := HBD.out; omega), HF.out.bel⟩
end Go.Proofs.Ytgeamhmenmomhaa.A
