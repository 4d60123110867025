/- Plain: the states of transformDependsOn's loops (printed by gen_need.py). -/
import Derived.Test.YtgeamhmenmomhaaNeedQ
import Derived.Test.YtgeamhmenmomhaaOnly
import Derived.Test.YtgeamhmenmomhaaFromA
namespace Go.Proofs.Ytgeamhmenmomhaa.A
set_option linter.unusedVariables false
set_option linter.unusedSimpArgs false
set_option linter.unusedSectionVars false
open Go.RowKit Go.Proofs.YtgeamhmenmomhaaW.PrintWords Go.Proofs.YtgeamhmenmomhaaW.PrintLast Go.Proofs.YtgeamhmenmomhaaW.PrintMore Go.Proofs.Ytgeamhmenmomhaa.PT Go.Proofs.Ytgeamhmenmomhaa.L Go.Proofs.Ytgeamhmenmomhaa.SM

theorem idx_key {m : List (ByteArray × AV)} (hn : (SM.keys m).Nodup) {i j : Nat} (hi : i < m.length) (hj : j < m.length) (h : (m[i]'hi).1 = (m[j]'hj).1) : i = j := by
  have h1 : i < (SM.keys m).length := by simpa [SM.keys] using hi
  have h2 : j < (SM.keys m).length := by simpa [SM.keys] using hj
  refine (List.getElem_inj (h₀ := h1) (h₁ := h2) hn).1 ?_
  simpa [SM.keys] using h
theorem any_isMap {w : World} {R : Nat → Prop} {x : IV} {v : AV} (h : AnyF w R x v) (h5 : x.f0 = 5) : ∃ (b : Nat) (m : List (ByteArray × AV)) (Qx : ByteArray → Nat → Prop), v = .map b ∧ TMap w b AV.enc m ∧ R b ∧ (∀ k, ¬ Qx k b) ∧ (∀ k n, Qx k n → R n) ∧ (∀ k k' n, Qx k n → Qx k' n → k = k') ∧ m.map (·.1) = x.f3 ∧ m.length = x.f4.length ∧ ∀ (i : Nat) (h1 : i < x.f4.length) (h2 : i < m.length), AnyF w (Qx (m[i]'h2).1) (x.f4[i]'h1) (m[i]'h2).2 := by
  cases h with
  | nil q => omega
  | bool q => omega
  | int q => omega
  | text q => omega
  | list Q q => omega
  | map Q h hm hb hbQ hQ hd hk hl he => exact ⟨_, _, Q, rfl, hm, hb, hbQ, hQ, hd, hk, hl, he⟩
theorem any_text {lo : Nat} {w : World} {s : ByteArray} {v : AV} (h : AnyIs lo w (tIx s) v) : v = .text s := by
  cases h with
  | text h => rfl
  | nil h => simp at h
  | bool h => simp at h
  | int h => simp at h
  | list h => simp at h
  | map h => simp at h
theorem any_listx {lo : Nat} {w : World} {ss : List ByteArray} {v : AV} (h : AnyIs lo w ⟨4, 0, be, [], ss.map tIx⟩ v) : ∃ A c, v = .sl A ss.length c ∧ kA.C w A ss.length (ss.map AV.text) := by
  cases h with
  | nil h => simp at h
  | text h => simp at h
  | bool h => simp at h
  | int h => simp at h
  | map h _ _ _ _ _ => simp at h
  | @list _ A c vs h hl hc hr hA he =>
    have hl' : vs.length = ss.length := by rw [hl]; simp
    have e : vs = ss.map AV.text := by
      apply List.ext_getElem (by simp [hl'])
      intro i h1 h2
      have h3 : i < (ss.map tIx).length := by rw [List.length_map]; omega
      have := he i h3 h1
      have e2 : (ss.map tIx)[i]'h3 = tIx (ss[i]'(by omega)) := by simp
      rw [e2] at this
      rw [any_text this, List.getElem_map]
    rw [hl'] at hr ⊢
    rw [e] at hr
    exact ⟨A, c, rfl, hr⟩
abbrev stdM : List (ByteArray × AV) := [(kCond, .text startB), (kReq, .bool true)]
theorem from_std {w : World} {b : Nat} (hm : TMap w b AV.enc stdM) : FromIs w (.map b) stdI := by
  refine .map hm (by simp) (Ord.sortS_unique ?_ (List.Perm.refl _)) rfl (fun i h1 h2 v hv => ?_)
  · exact asc_srt (List.pairwise_cons.2 ⟨fun k hk => by rw [List.mem_singleton.1 hk]; decide +kernel, List.pairwise_singleton _ _⟩)
  · rcases i with _ | _ | i
    · have hl : SM.look stdM kCond = some (.text startB) := by kernel_rfl
      have : v = .text startB := by
        have := hl.symm.trans hv
        injection this with this
        exact this.symm
      rw [this]; exact .text _
    · have hl : SM.look stdM kReq = some (.bool true) := by kernel_rfl
      have : v = .bool true := by
        have := hl.symm.trans hv
        injection this with this
        exact this.symm
      rw [this]; exact FromIs.bool true
    · exact absurd h1 (by simp)
theorem keys_put {β : Type} {m : List (ByteArray × β)} {k k' : ByteArray} {v : β} : k' ∈ SM.keys (put m k v) ↔ k' = k ∨ k' ∈ SM.keys m := by
  unfold SM.keys
  constructor
  · intro h
    obtain ⟨p, hp, rfl⟩ := List.mem_map.1 h
    rcases (mem_put p).1 hp with rfl | ⟨_, h⟩
    · exact .inl rfl
    · exact .inr (List.mem_map_of_mem h)
  · intro h
    by_cases e : k' = k
    · subst e
      exact List.mem_map.2 ⟨(k', v), (mem_put _).2 (.inl rfl), rfl⟩
    · rcases h with h | h
      · exact absurd h e
      · obtain ⟨p, hp, rfl⟩ := List.mem_map.1 h
        exact List.mem_map.2 ⟨p, (mem_put _).2 (.inr ⟨e, hp⟩), rfl⟩
/-! ### the map's loop -/
def Stays (R : Nat → Prop) (w w' : World) : Prop := ∀ k, R k → k < w.heap.size → w'.heap[k]? = w.heap[k]?
structure ReqL (y : IV) (P : Nat → Prop) (Q : ByteArray → Nat → Prop) (b r : Nat) (w wr : World) (m rm : List (ByteArray × AV)) : Prop where
  rng : TRng wr b r AV.enc m rm
  kid : ∀ (i : Nat) (h1 : i < y.f4.length) (h2 : i < m.length), SM.has rm (m[i]'h2).1 = true → AnyF wr (Q (m[i]'h2).1) (y.f4[i]'h1) (m[i]'h2).2
  done : ∀ (i : Nat) (h1 : i < y.f4.length) (h2 : i < m.length), SM.has rm (m[i]'h2).1 = false → ∀ W', Stays (Q (m[i]'h2).1) wr W' → FromIs W' (m[i]'h2).2 (reqI (y.f4[i]'h1))
  only : Only P w wr
/-- one round: the child's own map was written, or nothing -/
theorem ReqL.step {y : IV} {P : Nat → Prop} {Q : ByteArray → Nat → Prop} {b r : Nat} {w wr w6 : World} {m rm : List (ByteArray × AV)} (h : ReqL y P Q b r w wr m rm) (hr : r = w.heap.size) (hQP : ∀ k n, Q k n → P n) (hPw : ∀ n, P n → n < w.heap.size) (hd : ∀ k k' n, Q k n → Q k' n → k = k')
    {i : Nat} (hi1 : i < y.f4.length) (hi2 : i < m.length) {qk : ByteArray} (hq : (m[i]'hi2).1 = qk) (hrng : TRng w6 b r AV.enc m (del rm qk)) (ho : Only (fun q => q = r ∨ Q qk q) wr w6)
    (hnew : ∀ W', Stays (Q qk) w6 W' → FromIs W' (m[i]'hi2).2 (reqI (y.f4[i]'hi1))) : ReqL y P Q b r w w6 m (del rm qk) := by
  have hn := h.rng.map.nodup
  have hwr : w.heap.size ≤ wr.heap.size := h.only.size
  have hst : ∀ {k : ByteArray}, k ≠ qk → Stays (Q k) wr w6 := fun {k} hk n hq' hlt => ho.block n hlt (fun hc => by
    rcases hc with rfl | hc
    · have := hPw _ (hQP _ _ hq'); omega
    · exact hk (hd _ _ _ hq' hc))
  refine ⟨hrng, fun j h1 h2 hh => ?_, fun j h1 h2 hh W' hW => ?_, h.only.trans ho (fun q hq' hlt => ?_)⟩
  · have e : (m[j]'h2).1 ≠ qk := fun e => by rw [e, hd_same] at hh; cases hh
    rw [hd_other e] at hh
    exact (h.kid j h1 h2 hh).kept (hst e)
  · by_cases e : (m[j]'h2).1 = qk
    · have ej : j = i := idx_key hn h2 hi2 (by rw [hq]; exact e)
      subst ej
      exact hnew W' (by rw [e] at hW; exact hW)
    · rw [hd_other e] at hh
      refine h.done j h1 h2 hh W' (fun n hn' hlt => ?_)
      exact (hW n hn' (Nat.lt_of_lt_of_le hlt ho.size)).trans (hst e n hn' hlt)
  · rcases hq' with rfl | hc
    · omega
    · exact hQP _ _ hc
theorem ReqL.end_ {y : IV} {P : Nat → Prop} {Q : ByteArray → Nat → Prop} {b r : Nat} {w wr : World} {m : List (ByteArray × AV)} (h : ReqL y P Q b r w wr m []) (hf : Fine y) (h5 : y.f0 = 5) (hk : m.map (·.1) = y.f3) (hl : m.length = y.f4.length) : FromIs wr (.map b) (allI reqI y) := by
  have ha := fine_asc hf h5
  have hly := fine_lens hf h5
  have hkk : SM.keys m = y.f3 := hk
  have e : allI reqI y = ⟨5, 0, be, y.f3, y.f4.map reqI⟩ := by
    cases hf with
    | map _ _ _ _ => rfl
    | nil => cases h5
    | bool _ => cases h5
    | int _ => cases h5
    | text _ => cases h5
    | list _ _ => cases h5
  rw [e]
  refine .map h.rng.map (by rw [hl]; exact hf.canon.short) (Ord.sortS_unique (asc_srt ha) (by rw [hkk])) (by rw [List.length_map]; exact hly) (fun i h1 h2 v hv => ?_)
  have i2 : i < y.f4.length := by simpa using h2
  have i3 : i < m.length := by omega
  have em : (m[i]'i3).1 = y.f3[i]'h1 := by
    have := congrArg (fun l => l[i]?) hk
    simp only [List.getElem?_map, List.getElem?_eq_getElem i3, List.getElem?_eq_getElem h1, Option.map_some, Option.some.injEq] at this
    exact this
  have hlk := look_mem h.rng.map.nodup (List.getElem_mem i3)
  rw [em] at hlk
  have ev : v = (m[i]'i3).2 := by
    have := hlk.symm.trans hv
    injection this with this
    exact this.symm
  rw [ev, List.getElem_map]
  exact h.done i i2 i3 (by simp [SM.has]) wr (fun _ _ _ => rfl)
/-- a child with what is required already -/
theorem req_had {w : World} {R : Nat → Prop} {x : IV} {v : AV} (h : AnyF w R x v) (hf : Fine x) (hp : placeB kReq x.f3 = true) : ∀ W', Stays R w W' → FromIs W' v (reqI x) := fun W' hW => by
  rw [reqI_has hp]
  exact ((h.kept hW).toIs).told hf
theorem req_put {w w3 : World} {R : Nat → Prop} {x : IV} {bx : Nat} {mx : List (ByteArray × AV)} {Qx : ByteArray → Nat → Prop} (hf : Fine x) (h5 : x.f0 = 5) (hb : x.f4.length ≤ 1048577) (hRb : R bx) (hbQ : ∀ k, ¬ Qx k bx) (hQ : ∀ k n, Qx k n → R n) (hRw : ∀ n, R n → n < w.heap.size) (hk : mx.map (·.1) = x.f3) (hl : mx.length = x.f4.length)
    (he : ∀ (i : Nat) (h1 : i < x.f4.length) (h2 : i < mx.length), AnyF w (Qx (mx[i]'h2).1) (x.f4[i]'h1) (mx[i]'h2).2) (hp : placeB kReq x.f3 = false) (hm3 : TMap w3 bx AV.enc (put mx kReq (.bool true))) (hg : w.grownBy w3 (some bx)) : ∀ W', Stays R w3 W' → FromIs W' (.map bx) (reqI x) := fun W' hW => by
  have ha := fine_asc hf h5
  have hlx := fine_lens hf h5
  have hkk : SM.keys mx = x.f3 := hk
  have hnr : kReq ∉ x.f3 := fun h => by rw [(place_mem ha).2 h] at hp; cases hp
  have hbl : bx < w3.heap.size := hm3.lt
  have hm' : TMap W' bx AV.enc (put mx kReq (.bool true)) := SMap.move hm3 (hW bx hRb hbl)
  have hst : ∀ k, Stays (Qx k) w W' := fun k n hn hlt => by
    have h1 : n ≠ bx := fun e => hbQ k (e ▸ hn)
    exact (hW n (hQ k n hn) (Nat.lt_of_lt_of_le hlt hg.size)).trans (hg.block n hlt (fun e => by injection e with e; exact h1 e))
  have e : reqI x = ⟨5, 0, be, withKs kReq x.f3, withL kReq x.f3 x.f4 trueI⟩ := by unfold reqI; rw [if_neg (by rw [hp]; decide)]
  rw [e]
  have l1 := withL_len kReq x.f3 x.f4 trueI hlx
  have hpm : (withKs kReq x.f3).Perm (SM.keys (put mx kReq (.bool true))) := by
    refine (List.perm_ext_iff_of_nodup (asc_nodup (withKs_asc ha)) hm3.nodup).2 (fun k => ?_)
    rw [withKs_iff ha, keys_put, hkk]
  refine .map hm' ?_ (Ord.sortS_unique (asc_srt (withKs_asc ha)) hpm) l1 (fun i h1 h2 v hv => ?_)
  · have := length_put mx kReq (.bool true)
    omega
  · have hv' := (look_some hv).1
    rcases with_pair hp hlx h1 h2 with ⟨q1, q2⟩ | ⟨j, h3, h4, q1, q2⟩
    · rw [q2]
      rw [q1] at hv'
      rcases (mem_put _).1 hv' with q | ⟨q, _⟩
      · injection q with _ q
        rw [q]; exact FromIs.bool true
      · exact absurd rfl q
    · rw [← q2]
      rw [← q1] at hv'
      have j2 : j < mx.length := by omega
      have ej : (mx[j]'j2).1 = x.f3[j]'h3 := by
        have := congrArg (fun l => l[j]?) hk
        simp only [List.getElem?_map, List.getElem?_eq_getElem j2, List.getElem?_eq_getElem h3, Option.map_some, Option.some.injEq] at this
        exact this
      rcases (mem_put _).1 hv' with q | ⟨_, q⟩
      · injection q with q _
        exact absurd (q ▸ List.getElem_mem h3) hnr
      · have hlk := look_mem (hkk ▸ asc_nodup ha : (SM.keys mx).Nodup) q
        have hlk2 := look_mem (hkk ▸ asc_nodup ha : (SM.keys mx).Nodup) (List.getElem_mem j2)
        rw [ej] at hlk2
        have ev : v = (mx[j]'j2).2 := by
          have := hlk.symm.trans hlk2
          injection this
        rw [ev]
        exact (((he j h4 j2).kept (hst _)).toIs).told (fine_sub hf (List.getElem_mem h4))
/-! ### the list's loop -/
structure LstL (ss : List ByteArray) (w wr : World) (bd j : Nat) (mm : List (ByteArray × AV)) : Prop where
  map : TMap wr bd AV.enc mm
  keys : ∀ k, k ∈ SM.keys mm ↔ k ∈ ss.take j
  vals : ∀ p ∈ mm, ∃ bj, p.2 = .map bj ∧ bj ≠ bd ∧ TMap wr bj AV.enc stdM
  bel : Below w.heap.size w wr
  lo : w.heap.size ≤ bd
  len : mm.length ≤ j
theorem LstL.end_ {ss : List ByteArray} {w wr : World} {bd : Nat} {mm : List (ByteArray × AV)} (h : LstL ss w wr bd ss.length mm) (hb : ss.length ≤ 1048576) : FromIs wr (.map bd) ⟨5, 0, be, namesK ss, (namesK ss).map fun _ => stdI⟩ := by
  obtain ⟨ha, hmem⟩ := namesK_spec ss
  refine .map h.map (by have := h.len; omega) (Ord.sortS_unique (asc_srt ha) ((List.perm_ext_iff_of_nodup (asc_nodup ha) h.map.nodup).2 (fun k => ?_))) (by simp) (fun i h1 h2 v hv => ?_)
  · rw [hmem, h.keys, List.take_length]
  · obtain ⟨bj, e, _, hm⟩ := h.vals _ (look_some hv).1
    have e' : v = .map bj := e
    rw [e', List.getElem_map]
    exact from_std hm
end Go.Proofs.Ytgeamhmenmomhaa.A
