/- Joined texts. -/
import Derived.Test.YtgeamhmenmomhaaDoorEnvP
import Derived.Test.YtgeamhmenmomhaaDoorOnly
import Derived.Test.YtgeamhmenmomhaaDoorResI
import Derived.Test.YtgeamhmenmomhaaDoorSortC
import Derived.Test.YtgeamhmenmomhaaDoorTo
/- Plain: a service whose environment has been written anew, a model whose services have; the walks where a key is not there. -/
namespace Go.Proofs.YtgeamhmenmomhaaDoor.A
set_option linter.unusedVariables false
set_option linter.unusedSimpArgs false
set_option linter.unusedSectionVars false
open Go.RowKit Go.Proofs.YtgeamhmenmomhaaDoorW.PrintWords Go.Proofs.YtgeamhmenmomhaaDoorW.PrintLast Go.Proofs.YtgeamhmenmomhaaDoorW.PrintMore Go.Proofs.YtgeamhmenmomhaaDoor.PT Go.Proofs.YtgeamhmenmomhaaDoor.L Go.Proofs.YtgeamhmenmomhaaDoor.SM

theorem setI_same {k : ByteArray} {f : IV → IV} {x : IV} (hl : x.f4.length = x.f3.length) (hn : k ∉ x.f3) : setI k f x = x := by
  have e : (setI k f x).f4 = x.f4 := by
    apply List.ext_getElem (setI_len hl)
    intro i i1 i2
    have i3 : i < x.f3.length := by rw [← hl]; exact i2
    rw [setI_get i3 i2 i1, if_neg (fun h => hn (by rw [← h]; exact List.getElem_mem i3))]
  cases x with
  | mk a b c d g =>
    show (⟨a, b, c, d, (setI k f ⟨a, b, c, d, g⟩).f4⟩ : IV) = _
    rw [e]
theorem put_get {β : Type} {m : List (ByteArray × β)} {k : ByteArray} {v : β} (hk : k ∈ SM.keys m) : put m k v = m.map (fun p => if p.1 = k then (k, v) else p) := by
  unfold put
  rw [if_pos (has_iff.2 hk)]
theorem env_step {E : Env} {w w' : World} {R : Nat → Prop} {x : IV} {bx : Nat} {mx : List (ByteArray × AV)} {Qx : ByteArray → Nat → Prop} (h5 : x.f0 = 5) (hlen : x.f4.length = x.f3.length) (hbR : R bx) (hbQ : ∀ k, ¬ Qx k bx) (hQ : ∀ k n, Qx k n → R n) (hd : ∀ k k' n, Qx k n → Qx k' n → k = k') (hk : mx.map (·.1) = x.f3) (hl : mx.length = x.f4.length)
    (he : ∀ (i : Nat) (h1 : i < x.f4.length) (h2 : i < mx.length), AnyF w (Qx (mx[i]'h2).1) (x.f4[i]'h1) (mx[i]'h2).2) (hR : ∀ k, R k → k < w.heap.size) (hw : ∀ k, R k → k ≠ bx → w'.heap[k]? = w.heap[k]?) {v : AV} (hin : kEnv ∈ SM.keys mx) (hm' : TMap w' bx AV.enc (put mx kEnv v))
    {ss : List ByteArray} (hss : ∀ (i : Nat) (h1 : i < x.f3.length) (h2 : i < x.f4.length), x.f3[i]'h1 = kEnv → x.f4[i]'h2 = RD.I (.list ss)) (hnew : AnyF w' (fun q => w.heap.size ≤ q ∧ q < w'.heap.size) (RD.I (.list (ss.map (resX E)))) v) :
    AnyF w' (fun q => R q ∨ (w.heap.size ≤ q ∧ q < w'.heap.size)) (srvI E x) (.map bx) := by
  have hp := put_get (v := v) hin
  have hlp : (put mx kEnv v).length = mx.length := by rw [hp, List.length_map]
  have hset := setI_len (k := kEnv) (f := envI E) hlen
  have hget : ∀ (i : Nat) (h2 : i < mx.length) (h3 : i < (put mx kEnv v).length), (put mx kEnv v)[i]'h3 = if (mx[i]'h2).1 = kEnv then (kEnv, v) else mx[i]'h2 := by
    intro i h2 h3
    simp only [hp, List.getElem_map]
  refine .map (fun k q => if k = kEnv then (w.heap.size ≤ q ∧ q < w'.heap.size) else Qx k q) h5 hm' (.inl hbR) (fun k hq => ?_) (fun k n hq => ?_) (fun k k' n h1 h2 => ?_) ?_ (by rw [hlp, hl, hset]) (fun i h1 h2 => ?_)
  · replace hq : (if k = kEnv then (w.heap.size ≤ bx ∧ bx < w'.heap.size) else Qx k bx) := hq
    split at hq
    · have := hR _ hbR; omega
    · exact hbQ k hq
  · replace hq : (if k = kEnv then (w.heap.size ≤ n ∧ n < w'.heap.size) else Qx k n) := hq
    split at hq
    · exact .inr hq
    · exact .inl (hQ k n hq)
  · replace h1 : (if k = kEnv then (w.heap.size ≤ n ∧ n < w'.heap.size) else Qx k n) := h1
    replace h2 : (if k' = kEnv then (w.heap.size ≤ n ∧ n < w'.heap.size) else Qx k' n) := h2
    split at h1
    · rename_i e1
      split at h2
      · rename_i e2; rw [e1, e2]
      · have := hR _ (hQ _ _ h2); omega
    · split at h2
      · have := hR _ (hQ _ _ h1); omega
      · exact hd k k' n h1 h2
  · show _ = x.f3
    rw [hp, List.map_map, ← hk]
    apply List.map_congr_left
    intro p _
    show (if p.1 = kEnv then (kEnv, v) else p).1 = p.1
    split
    · rename_i e; exact e.symm
    · rfl
  · have i2 : i < mx.length := by rw [← hlp]; exact h2
    have i4 : i < x.f4.length := by rw [← hl]; exact i2
    have i3 : i < x.f3.length := by rw [← hlen]; exact i4
    have ek : (mx[i]'i2).1 = x.f3[i]'i3 := by
      have := congrArg (fun l => l[i]?) hk
      simp only [List.getElem?_map, List.getElem?_eq_getElem i2, List.getElem?_eq_getElem i3, Option.map_some, Option.some.injEq] at this
      exact this
    rw [hget i i2 h2, setI_get i3 i4 h1, ← ek]
    by_cases e : (mx[i]'i2).1 = kEnv
    · rw [if_pos e, if_pos e]
      have h6 := hss i i3 i4 (ek ▸ e)
      rw [h6, envI_list]
      refine hnew.imp (fun q hq => ?_)
      show if kEnv = kEnv then _ else _
      rw [if_pos rfl]; exact hq
    · rw [if_neg e, if_neg e]
      refine ((he i i4 i2).kept (fun q hq _ => hw q (hQ _ _ hq) (fun eb => hbQ _ (eb ▸ hq)))).imp (fun q hq => ?_)
      show if _ = kEnv then _ else _
      rw [if_neg e]; exact hq
/-- a model whose services are new -/
theorem top_step {E : Env} {w w' : World} {P : Nat → Prop} {y : IV} {b : Nat} {m : List (ByteArray × AV)} {Q : ByteArray → Nat → Prop} (h5 : y.f0 = 5) (hlen : y.f4.length = y.f3.length) (hbP : P b) (hbQ : ∀ k, ¬ Q k b) (hQ : ∀ k n, Q k n → P n) (hd : ∀ k k' n, Q k n → Q k' n → k = k') (hk : m.map (·.1) = y.f3) (hl : m.length = y.f4.length)
    (he : ∀ (i : Nat) (h1 : i < y.f4.length) (h2 : i < m.length), AnyF w (Q (m[i]'h2).1) (y.f4[i]'h1) (m[i]'h2).2) (hP : ∀ k, P k → k < w.heap.size) (hw : ∀ k, P k → ¬ Q kSrv k → k ≠ b → w'.heap[k]? = w.heap[k]?) (hm' : TMap w' b AV.enc m)
    (hnew : ∀ (i : Nat) (h1 : i < y.f4.length) (h2 : i < m.length), (m[i]'h2).1 = kSrv → AnyF w' (fun q => Q kSrv q ∨ (w.heap.size ≤ q ∧ q < w'.heap.size)) (allI (srvI E) (y.f4[i]'h1)) (m[i]'h2).2) :
    AnyF w' (fun q => P q ∨ (w.heap.size ≤ q ∧ q < w'.heap.size)) (topI E y) (.map b) := by
  have hset := setI_len (k := kSrv) (f := allI (srvI E)) hlen
  refine .map (fun k q => Q k q ∨ (k = kSrv ∧ w.heap.size ≤ q ∧ q < w'.heap.size)) h5 hm' (.inl hbP) (fun k hq => ?_) (fun k n hq => ?_) (fun k k' n h1 h2 => ?_) hk (by rw [hl, hset]) (fun i h1 h2 => ?_)
  · rcases hq with hq | hq
    · exact hbQ k hq
    · have := hP _ hbP; omega
  · rcases hq with hq | hq
    · exact .inl (hQ k n hq)
    · exact .inr hq.2
  · rcases h1 with h1 | h1
    · rcases h2 with h2 | h2
      · exact hd k k' n h1 h2
      · have := hP _ (hQ _ _ h1); omega
    · rcases h2 with h2 | h2
      · have := hP _ (hQ _ _ h2); omega
      · rw [h1.1, h2.1]
  · have i4 : i < y.f4.length := by rw [← hl]; exact h2
    have i3 : i < y.f3.length := by rw [← hlen]; exact i4
    have ek : (m[i]'h2).1 = y.f3[i]'i3 := by
      have := congrArg (fun l => l[i]?) hk
      simp only [List.getElem?_map, List.getElem?_eq_getElem h2, List.getElem?_eq_getElem i3, Option.map_some, Option.some.injEq] at this
      exact this
    rw [setI_get i3 i4 h1, ← ek]
    by_cases e : (m[i]'h2).1 = kSrv
    · rw [if_pos e]
      refine (hnew i i4 h2 e).imp (fun q hq => ?_)
      rw [e]
      rcases hq with hq | hq
      · exact .inl hq
      · exact .inr ⟨rfl, hq⟩
    · rw [if_neg e]
      exact ((he i i4 h2).kept (fun q hq _ => hw q (hQ _ _ hq) (fun hq' => e (hd _ _ _ hq hq')) (fun eb => hbQ _ (eb ▸ hq)))).imp (fun q hq => .inl hq)
/-! ### keys that are not there -/
theorem nil_map (w : World) : (Instr.typeAssert .nilIface 20 73 true).run Tryd.prog w = .ok (.tuple #[.map none, .bool false]) w := by
  have hz : (zeroValue 73).run Tryd.prog w = .ok (.map none) w := by kernel_rfl
  simp [Instr.typeAssert, run_underlying Tryd.underlying73, go_sem, Result.andThen, hz]
theorem nil_list (w : World) : (Instr.typeAssert .nilIface 20 81 true).run Tryd.prog w = .ok (.tuple #[.slice none 0 0, .bool false]) w := by
  have hz : (zeroValue 81).run Tryd.prog w = .ok (.slice none 0 0) w := by kernel_rfl
  simp [Instr.typeAssert, run_underlying Tryd.underlying81, go_sem, Result.andThen, hz]
set_option maxRecDepth 100000 in
theorem container_none (b be : Nat) (key : ByteArray) {m : List (ByteArray × AV)} {w : World} (hm : TMap w b AV.enc m) (hk : key ∉ SM.keys m) :
    Calls Tryd.prog 49 #[.map (some b), .string key, .map (some be)] w fun e w' => e = .returned (.tuple #[]) ∧ w = w' := by
  have HM := Aside0.mk hm
  have hhas := has_false.2 hk
  have hlook := look_none.2 hhas
  have hze := zeroA w
  have e1 := nil_map w
  clear hm hk
  go_enter Tryd.func49, Tryd.ntmps49
  go_wp2_with (at_lookup; refine wp_look rfl _ _ false rfl Tryd.underlying73 Tryd.underlying9 rfl HM.out key rfl hze ?_; rw [if_neg (by decide), hlook]; simp only [Option.map_none, Option.getD_none])
  refine bodyPost_ret (v := .tuple #[]) (by simp [results, Tryd.results49, go_sem]) rfl ?_
  exact ⟨rfl, rfl⟩
set_option maxRecDepth 100000 in
theorem secrets_none (b be : Nat) {m : List (ByteArray × AV)} {w : World} (hm : TMap w b AV.enc m) (hk : kSec ∉ SM.keys m) :
    Calls Tryd.prog 50 #[.map (some b), .map (some be)] w fun e w' => e = .returned (.tuple #[]) ∧ w = w' := by
  have HM := Aside0.mk hm
  have hhas := has_false.2 hk
  have hlook := look_none.2 hhas
  have hze := zeroA w
  have e1 := nil_map w
  clear hm hk
  go_enter Tryd.func50, Tryd.ntmps50
  go_wp2_with (at_lookup; refine wp_look rfl _ _ false rfl Tryd.underlying73 Tryd.underlying9 rfl HM.out kSec rfl hze ?_; rw [if_neg (by decide), hlook]; simp only [Option.map_none, Option.getD_none])
  refine bodyPost_ret (v := .tuple #[]) (by simp [results, Tryd.results50, go_sem]) rfl ?_
  exact ⟨rfl, rfl⟩
set_option maxRecDepth 100000 in
theorem configs_none (b be : Nat) {m : List (ByteArray × AV)} {w : World} (hm : TMap w b AV.enc m) (hk : kCfg ∉ SM.keys m) :
    Calls Tryd.prog 51 #[.map (some b), .map (some be)] w fun e w' => e = .returned (.tuple #[]) ∧ w = w' := by
  have HM := Aside0.mk hm
  have hhas := has_false.2 hk
  have hlook := look_none.2 hhas
  have hze := zeroA w
  have e1 := nil_map w
  clear hm hk
  go_enter Tryd.func51, Tryd.ntmps51
  go_wp2_with (at_lookup; refine wp_look rfl _ _ false rfl Tryd.underlying73 Tryd.underlying9 rfl HM.out kCfg rfl hze ?_; rw [if_neg (by decide), hlook]; simp only [Option.map_none, Option.getD_none])
  refine bodyPost_ret (v := .tuple #[]) (by simp [results, Tryd.results51, go_sem]) rfl ?_
  exact ⟨rfl, rfl⟩
end Go.Proofs.YtgeamhmenmomhaaDoor.A
/- The walk of loader.resolveContainerEnvironment on the services. -/
namespace Go.Proofs.YtgeamhmenmomhaaDoor.A
set_option linter.unusedVariables false
set_option linter.unusedSimpArgs false
set_option linter.unusedSectionVars false
open Go.RowKit Go.Proofs.YtgeamhmenmomhaaDoorW.PrintWords Go.Proofs.YtgeamhmenmomhaaDoorW.PrintLast Go.Proofs.YtgeamhmenmomhaaDoorW.PrintMore Go.Proofs.YtgeamhmenmomhaaDoor.PT Go.Proofs.YtgeamhmenmomhaaDoor.L Go.Proofs.YtgeamhmenmomhaaDoor.SM

structure SrvL (E : Env) (s : IV) (P : Nat → Prop) (Q : ByteArray → Nat → Prop) (bs r : Nat) (w wr : World) (ms rm : List (ByteArray × AV)) (G : ByteArray → Nat → Prop) : Prop where
  rng : TRng wr bs r AV.enc ms rm
  kid : ∀ (i : Nat) (h1 : i < s.f4.length) (h2 : i < ms.length), AnyF wr (G (ms[i]'h2).1) (if SM.has rm (ms[i]'h2).1 = true then s.f4[i]'h1 else srvI E (s.f4[i]'h1)) (ms[i]'h2).2
  foot : ∀ k q, G k q → q < wr.heap.size ∧ (Q k q ∨ w.heap.size < q)
  apart : ∀ k k' q, G k q → G k' q → k = k'
  only : Only P w wr
theorem idx_key {m : List (ByteArray × AV)} (hn : (SM.keys m).Nodup) {i j : Nat} (hi : i < m.length) (hj : j < m.length) (h : (m[i]'hi).1 = (m[j]'hj).1) : i = j := by
  have h1 : i < (SM.keys m).length := by simpa [SM.keys] using hi
  have h2 : j < (SM.keys m).length := by simpa [SM.keys] using hj
  refine (List.getElem_inj (h₀ := h1) (h₁ := h2) hn).1 ?_
  simpa [SM.keys] using h
theorem SrvL.step {E : Env} {s : IV} {P : Nat → Prop} {Q : ByteArray → Nat → Prop} {bs r : Nat} {w wr w6 : World} {ms rm : List (ByteArray × AV)} {G : ByteArray → Nat → Prop} (h : SrvL E s P Q bs r w wr ms rm G) (hr : r = w.heap.size) (hQP : ∀ k n, Q k n → P n) (hPw : ∀ n, P n → n < w.heap.size) (hbsQ : ∀ k, ¬ Q k bs) (hbs : P bs)
    {i : Nat} (hi1 : i < s.f4.length) (hi2 : i < ms.length) {qk : ByteArray} {bx : Nat} (hq : ms[i]'hi2 = (qk, .map bx)) (hbx : G qk bx) (hrng : TRng w6 bs r AV.enc ms (del rm qk)) (ho : Only (fun q => q = r ∨ q = bx ∨ q = bs) wr w6)
    (hnew : AnyF w6 (fun q => G qk q ∨ (wr.heap.size ≤ q ∧ q < w6.heap.size)) (srvI E (s.f4[i]'hi1)) (.map bx)) :
    SrvL E s P Q bs r w w6 ms (del rm qk) (fun k q => G k q ∨ (k = qk ∧ wr.heap.size ≤ q ∧ q < w6.heap.size)) := by
  have hwr : w.heap.size ≤ wr.heap.size := h.only.size
  have hn := h.rng.map.nodup
  refine ⟨hrng, fun j h1 h2 => ?_, fun k q hk => ?_, fun k k' q h1 h2 => ?_, h.only.trans ho (fun q hq' hlt => ?_)⟩
  · by_cases e : (ms[j]'h2).1 = qk
    · have ej : j = i := idx_key hn h2 hi2 (by rw [hq]; exact e)
      subst ej
      rw [if_neg (by rw [e, hd_same]; decide), hq]
      refine hnew.imp (fun q hq' => ?_)
      rcases hq' with hq' | hq'
      · exact .inl hq'
      · exact .inr ⟨rfl, hq'⟩
    · rw [hd_other e]
      refine ((h.kid j h1 h2).kept (fun q hq' hlt => ho.block q hlt (fun hc => ?_))).imp (fun q hq' => .inl hq')
      rcases hc with rfl | rfl | rfl
      · rcases (h.foot _ _ hq').2 with h3 | h3
        · have := hPw _ (hQP _ _ h3); omega
        · omega
      · exact e (h.apart _ _ _ hq' hbx)
      · rcases (h.foot _ _ hq').2 with h3 | h3
        · exact hbsQ _ h3
        · have := hPw _ hbs; omega
  · rcases hk with hk | ⟨_, hk⟩
    · obtain ⟨h3, h4⟩ := h.foot k q hk
      exact ⟨Nat.lt_of_lt_of_le h3 ho.size, h4⟩
    · have := h.rng.lt
      exact ⟨hk.2, .inr (by omega)⟩
  · rcases h1 with h1 | h1
    · rcases h2 with h2 | h2
      · exact h.apart k k' q h1 h2
      · have := (h.foot _ _ h1).1; omega
    · rcases h2 with h2 | h2
      · have := (h.foot _ _ h2).1; omega
      · rw [h1.1, h2.1]
  · rcases hq' with rfl | rfl | rfl
    · omega
    · rcases (h.foot _ _ hbx).2 with h3 | h3
      · exact hQP _ _ h3
      · omega
    · exact hbs
theorem SrvL.skip {E : Env} {s : IV} {P : Nat → Prop} {Q : ByteArray → Nat → Prop} {bs r : Nat} {w wr w2 : World} {ms rm : List (ByteArray × AV)} {G : ByteArray → Nat → Prop} (h : SrvL E s P Q bs r w wr ms rm G) (hr : r = w.heap.size) (hQP : ∀ k n, Q k n → P n) (hPw : ∀ n, P n → n < w.heap.size)
    {i : Nat} (hi1 : i < s.f4.length) (hi2 : i < ms.length) {qk : ByteArray} {qv : AV} (hq : ms[i]'hi2 = (qk, qv)) (hin : SM.has rm qk = true) (hrng : TRng w2 bs r AV.enc ms (del rm qk)) (ho : Only (fun q => q = r) wr w2) (hsame : srvI E (s.f4[i]'hi1) = s.f4[i]'hi1) :
    SrvL E s P Q bs r w w2 ms (del rm qk) G := by
  have hn := h.rng.map.nodup
  have hfar : ∀ k q, G k q → q ≠ r := fun k q hk e => by
    rcases (h.foot _ _ hk).2 with h3 | h3
    · have := hPw _ (hQP _ _ h3); omega
    · omega
  refine ⟨hrng, fun j h1 h2 => ?_, fun k q hk => ⟨Nat.lt_of_lt_of_le (h.foot k q hk).1 ho.size, (h.foot k q hk).2⟩, h.apart, h.only.trans ho (fun q hq' hlt => by omega)⟩
  have hk := (h.kid j h1 h2).kept (w' := w2) (fun q hq' hlt => ho.block q hlt (hfar _ _ hq'))
  by_cases e : (ms[j]'h2).1 = qk
  · have ej : j = i := idx_key hn h2 hi2 (by rw [hq]; exact e)
    subst ej
    rw [if_pos (by rw [e]; exact hin)] at hk
    rw [if_neg (by rw [e, hd_same]; decide), hsame]
    exact hk
  · rw [hd_other e]
    exact hk
theorem any_isMap {w : World} {R : Nat → Prop} {x : IV} {v : AV} (h : AnyF w R x v) (h5 : x.f0 = 5) : ∃ (b : Nat) (m : List (ByteArray × AV)) (Qx : ByteArray → Nat → Prop), v = .map b ∧ TMap w b AV.enc m ∧ R b ∧ (∀ k, ¬ Qx k b) ∧ (∀ k n, Qx k n → R n) ∧ (∀ k k' n, Qx k n → Qx k' n → k = k') ∧ m.map (·.1) = x.f3 ∧ m.length = x.f4.length ∧ ∀ (i : Nat) (h1 : i < x.f4.length) (h2 : i < m.length), AnyF w (Qx (m[i]'h2).1) (x.f4[i]'h1) (m[i]'h2).2 := by
  cases h with
  | nil q => omega
  | bool q => omega
  | int q => omega
  | text q => omega
  | list Q q => omega
  | map Q h hm hb hbQ hQ hd hk hl he => exact ⟨_, _, Q, rfl, hm, hb, hbQ, hQ, hd, hk, hl, he⟩
theorem fresh_list {E : Env} {w : World} {lo : Nat} {A : Option Addr} {c : Nat} {ss : List ByteArray} {vs : List AV} (hvs : vs = (ss.map (resX E)).map AV.text) (hr : kA.C w A vs.length vs) (hc : vs.length ≤ c) (hA : ∀ ad, A = some ad → lo ≤ ad.block) : AnyF w (fun q => lo ≤ q ∧ q < w.heap.size) (RD.I (.list (ss.map (resX E)))) (.sl A vs.length c) := by
  refine .list (fun _ _ => False) rfl (by rw [hvs]; simp [RD.I]) hc hr (fun hp ad e => ⟨⟨hA ad e, ?_⟩, fun _ h => h⟩) (fun _ _ h => h.elim) (fun _ _ _ h => h.elim) (fun i h1 h2 => ?_)
  · rw [e] at hr; exact C_lt hr (by decide) hp
  · have e1 : (RD.I (.list (ss.map (resX E)))).f4[i]'h1 = tI (resX E (ss[i]'(by simpa [RD.I] using h1))) := by simp [RD.I]
    have e2 : vs[i]'h2 = .text (resX E (ss[i]'(by simpa [RD.I] using h1))) := by simp [hvs]
    rw [e1, e2]
    exact .text (x := tI _) rfl
theorem env_src {w : World} {x : IV} {mx : List (ByteArray × AV)} {Qx : ByteArray → Nat → Prop} (ho : OkEnv x) (hlen : x.f4.length = x.f3.length) (hk : mx.map (·.1) = x.f3) (hl : mx.length = x.f4.length) (he : ∀ (i : Nat) (h1 : i < x.f4.length) (h2 : i < mx.length), AnyF w (Qx (mx[i]'h2).1) (x.f4[i]'h1) (mx[i]'h2).2) {v : AV} (hv : SM.look mx kEnv = some v) (hn : x.f3.Nodup) :
    ∃ (ss : List ByteArray) (A : Option Addr) (c : Nat), v = .sl A ss.length c ∧ kA.C w A ss.length (ss.map AV.text) ∧ ss.length ≤ 1048576 ∧ (∀ s ∈ ss, s.size ≤ 2147483647) ∧ ∀ (i : Nat) (h1 : i < x.f3.length) (h2 : i < x.f4.length), x.f3[i]'h1 = kEnv → x.f4[i]'h2 = RD.I (.list ss) := by
  obtain ⟨i, hi, hiv⟩ := List.mem_iff_getElem.1 (look_some hv).1
  have i4 : i < x.f4.length := by rw [← hl]; exact hi
  have i3 : i < x.f3.length := by rw [← hlen]; exact i4
  have ek : (mx[i]'hi).1 = x.f3[i]'i3 := by
    have := congrArg (fun l => l[i]?) hk
    simp only [List.getElem?_map, List.getElem?_eq_getElem hi, List.getElem?_eq_getElem i3, Option.map_some, Option.some.injEq] at this
    exact this
  rw [hiv] at ek
  obtain ⟨ss, hss, hb, hs⟩ := ho.env i i3 i4 ek.symm
  have ha := he i i4 hi
  rw [hss, hiv] at ha
  obtain ⟨A, c, e, hr⟩ := any_list ha.toIs
  refine ⟨ss, A, c, e, hr, hb, hs, fun j h1 h2 ej => ?_⟩
  have : j = i := (List.getElem_inj (h₀ := h1) (h₁ := i3) hn).1 (by rw [ej, ← ek])
  subst this
  exact hss
end Go.Proofs.YtgeamhmenmomhaaDoor.A
/- The walk of loader.resolveContainerEnvironment on the services. -/
namespace Go.Proofs.YtgeamhmenmomhaaDoor.A
set_option linter.unusedVariables false
set_option linter.unusedSimpArgs false
set_option linter.unusedSectionVars false
open Go.RowKit Go.Proofs.YtgeamhmenmomhaaDoorW.PrintWords Go.Proofs.YtgeamhmenmomhaaDoorW.PrintLast Go.Proofs.YtgeamhmenmomhaaDoorW.PrintMore Go.Proofs.YtgeamhmenmomhaaDoor.PT Go.Proofs.YtgeamhmenmomhaaDoor.L Go.Proofs.YtgeamhmenmomhaaDoor.SM

theorem zeroStrA (w : World) : (zeroValue 9).run Tryd.prog w = .ok (.string ⟨#[]⟩) w := by kernel_rfl
theorem resX_some {Em : List (ByteArray × ByteArray)} {s v : ByteArray} (h : SM.look Em s = some v) : resX (envM Em) s = s ++ eqB ++ v := by unfold resX envM; rw [h]
theorem resX_none {Em : List (ByteArray × ByteArray)} {s : ByteArray} (h : SM.look Em s = none) : resX (envM Em) s = s := by unfold resX envM; rw [h]
theorem cat_ok {s v : ByteArray} (hs : s.size ≤ 2147483647) (hv : v.size ≤ 1048576) : ¬ 9223372036854775807 < s.size + eqB.size ∧ ¬ 9223372036854775807 < (s ++ eqB).size + v.size ∧ ¬ 9223372036854775807 < s.size + eqB.size + v.size ∧ ¬ 9223372036854775807 < s.size + 1 + v.size := by
  have h2 : eqB.size = 1 := rfl
  rw [ByteArray.size_append]
  omega
theorem next_texts {E : Env} {ss : List ByteArray} {j : Nat} (h : j < ss.length) {vs : List AV} (hv : vs = ((ss.take j).map (resX E)).map AV.text) : vs ++ [.text (resX E (ss[j]'h))] = ((ss.take (j + 1)).map (resX E)).map AV.text := by
  rw [List.take_succ_eq_append_getElem h, List.map_append, List.map_append, hv]
  rfl
set_option maxHeartbeats 8000000 in
set_option maxRecDepth 100000 in
theorem container_srv {Em : List (ByteArray × ByteArray)} (hvs : ∀ k v, SM.look Em k = some v → v.size ≤ 1048576) (b bs be : Nat) {m ms : List (ByteArray × AV)} {s : IV} {P : Nat → Prop} {Q : ByteArray → Nat → Prop} {w : World} (hm : TMap w b AV.enc m) (hkm : (kSrv, AV.map bs) ∈ m) (hbe : TMap w be Value.string Em) (hms : TMap w bs AV.enc ms)
    (hPw : ∀ n, P n → n < w.heap.size) (hbP : ¬ P b) (hbeP : ¬ P be) (hbs : P bs) (hbsQ : ∀ k, ¬ Q k bs) (hQP : ∀ k n, Q k n → P n) (hd : ∀ k k' n, Q k n → Q k' n → k = k') (hk : ms.map (·.1) = s.f3) (hl : ms.length = s.f4.length) (he : ∀ (i : Nat) (h1 : i < s.f4.length) (h2 : i < ms.length), AnyF w (Q (ms[i]'h2).1) (s.f4[i]'h1) (ms[i]'h2).2)
    (h5 : s.f0 = 5) (hf : ∀ x ∈ s.f4, Fine x) (ho : ∀ x ∈ s.f4, OkEnv x) (hlen : s.f4.length = s.f3.length) :
    Calls Tryd.prog 49 #[.map (some b), .string kSrv, .map (some be)] w fun e w' => e = .returned (.tuple #[]) ∧ AnyF w' (fun q => P q ∨ (w.heap.size ≤ q ∧ q < w'.heap.size)) (allI (srvI (envM Em)) s) (.map bs) ∧ TMap w' b AV.enc m ∧ Only (fun q => P q ∨ q = b) w w' := by
  have HM := Aside0.mk hm
  have hlook := look_mem hm.nodup hkm
  replace hlook : SM.look m kSrv = some (.map bs) := hlook
  have hbl := hm.lt
  have hbsl := hms.lt
  have hbel := hbe.lt
  have hze := zeroA w
  have e1 := as_map 20 w (.map (some bs))
  have HMS := Aside0.mk hms
  have HBE := Aside0.mk hbe
  have HBL := Lib.hid hbl
  have HBSL := Lib.hid hbsl
  have HBEL := Lib.hid hbel
  have HVS := Lib.hid hvs
  have HPW := Lib.hid hPw
  have HBP := Lib.hid hbP
  have HBEP := Lib.hid hbeP
  have HBS := Lib.hid hbs
  have HBSQ := Lib.hid hbsQ
  have HQP := Lib.hid hQP
  have HSF := Lib.hid hf
  have HSO := Lib.hid ho
  have HKM := Lib.hid hkm
  have HL := Lib.hid hl
  have HFIN : Hid (∀ (r : Nat) (wr : World) (G : ByteArray → Nat → Prop), SrvL (envM Em) s P Q bs r w wr ms [] G → r = w.heap.size → AnyF wr (fun q => P q ∨ (w.heap.size ≤ q ∧ q < wr.heap.size)) (allI (srvI (envM Em)) s) (.map bs)) := Lib.hid (fun r wr G h hr => by
    refine .map G h5 h.rng.map (.inl hbs) (fun k hq => ?_) (fun k n hq => ?_) h.apart hk (by simp [allI, hl]) (fun i h1 h2 => ?_)
    · rcases (h.foot _ _ hq).2 with h3 | h3
      · exact hbsQ _ h3
      · omega
    · obtain ⟨h3, h4⟩ := h.foot _ _ hq
      rcases h4 with h4 | h4
      · exact .inl (hQP _ _ h4)
      · exact .inr ⟨by omega, h3⟩
    · have h3 : i < s.f4.length := by simpa [allI] using h1
      have := h.kid i h3 h2
      rw [if_neg (by simp [SM.has])] at this
      simpa [allI] using this)
  have HST : Hid (∀ (r : Nat) (w1 : World), TRng w1 bs r AV.enc ms ms → w.grownBy w1 none → SrvL (envM Em) s P Q bs r w w1 ms ms Q) := Lib.hid (fun r w1 ht hg => ⟨ht, fun i h1 h2 => by
      rw [if_pos (has_iff.2 (List.mem_map_of_mem (f := fun q : ByteArray × AV => q.1) (List.getElem_mem h2)))]
      exact (he i h1 h2).kept (fun q _ hlt => hg.block q hlt (fun e => by cases e)), fun k q hq => ⟨Nat.lt_of_lt_of_le (hPw _ (hQP _ _ hq)) hg.size, .inl hq⟩, hd, ⟨hg.os, hg.tape, hg.output, hg.size, fun q hq _ => hg.block q hq (fun e => by cases e)⟩⟩)
  clear hm hms hbe hvs hPw hbP hbeP hbs hbsQ hQP hd hk hl he hf ho hlen h5 hkm hbl hbsl hbel
  go_enter Tryd.func49, Tryd.ntmps49
  go_upto_region 2 with (at_lookup; refine wp_look rfl _ _ false rfl Tryd.underlying73 Tryd.underlying9 rfl HM.out kSrv rfl hze ?_; rw [if_neg (by decide), hlook]; simp only [Option.map_some, Option.getD_some]; unfold AV.enc)
  clear hlook hze e1
  go_wp2_with (at_range; refine wp_range rfl _ rfl Tryd.underlying73 rfl HMS.out (w0 := w) (B := w.heap.size) (Below.refl _ _) (Nat.le_refl _) ?_; intro w1 r hr ht hb2 hg2 hs2; have HT := Aside0.mk ht; have HG1 := Aside0.mk hg2; have HR := Lib.hid hr; clear ht hb2 hg2 hr hs2)
  go_frame
  go_loopw [] (fun wr => ∃ (rm : List (ByteArray × AV)) (G : ByteArray → Nat → Prop), Aside0 (SrvL (envM Em) s P Q bs r w wr ms rm G)) (fun wr => wr.rangeLeft bs r)
  case atStart => exact ⟨ms, Q, ⟨HST.out r w1 HT.out HG1.out⟩⟩
  case round =>
    obtain ⟨rm, G, HF⟩ := hrel
    obtain ⟨wo, hwo⟩ : ∃ wo, wo = wr := ⟨_, rfl⟩
    subst hwo
    have HWR : Hid (w.heap.size < wo.heap.size) := Lib.hid (by have := HF.out.rng.lt; have := HR.out; omega)
    go_wp2_with (at_next; (refine wp_next rfl _ rfl rfl ?n1 HF.out.rng (w0 := wo) (B := r) (Below.refl _ _) (Nat.le_refl _) ?_ ?_; (case n1 => have := HR.out; have := HBSL.out; omega)))
    · intro hrm
      subst hrm
      have HMB : Aside0 (TMap wo b AV.enc m) := ⟨SMap.move HM.out (HF.out.only.block b HBL.out HBP.out)⟩
      go_wp2_with (at_mapUpdate; refine wp_put rfl _ _ _ rfl Tryd.underlying73 Tryd.underlying9 rfl HMB.out kSrv (.map bs) rfl rfl (w0 := wo) (B := 0) (Below.refl _ _) (Nat.zero_le _) ?_; intro w3 hm3 hb3 hg3 hs3; rw [put_same HMB.out.nodup HKM.out] at hm3; have HM3 := Aside0.mk hm3; have HG3 := Aside0.mk hg3; have HS3 := Lib.hid hs3; clear hm3 hb3 hg3 hs3)
      (first | go_frame | skip)
      refine bodyPost_end (v := .tuple #[]) (by simp [results, Tryd.results49, go_sem]) rfl ?_
      have hfin := HFIN.out r wo G HF.out HR.out
      have hon : Only (fun q => P q ∨ q = b) w wo := ⟨HF.out.only.os, HF.out.only.tape, HF.out.only.output, HF.out.only.size, fun k hk hn => HF.out.only.block k hk (fun h => hn (.inl h))⟩
      refine ⟨rfl, (hfin.kept (fun q hq hlt => HG3.out.block q hlt (fun e => ?_))).imp (fun q hq => ?_), HM3.out, hon.trans (Only.of_grown HG3.out (P := fun q => P q ∨ q = b) (.inr rfl)) (fun q hq _ => hq)⟩
      · injection e with e
        subst e
        rcases hq with hq | hq
        · exact HBP.out hq
        · have := HBL.out; omega
      · rw [HS3.out]; exact hq
    · intro qk qv w2 hq ht2 hb2 hg2 hs2 hen
      obtain ⟨i, hi2, hiq⟩ := List.mem_iff_getElem.1 (rng_mem_of HF.out.rng hq)
      have hi1 : i < s.f4.length := by rw [← HL.out]; exact hi2
      have hhas : SM.has rm qk = true := has_iff.2 (List.mem_map_of_mem (f := fun q : ByteArray × AV => q.1) hq)
      have hkid := HF.out.kid i hi1 hi2
      have hfar : ∀ q, G qk q → q ≠ r := fun q hk e => by
        have h1 := HR.out
        rcases (HF.out.foot _ _ hk).2 with h3 | h3
        · have := HPW.out _ (HQP.out _ _ h3); omega
        · omega
      rw [hiq] at hkid
      dsimp only at hkid
      rw [if_pos hhas] at hkid
      have hox := HSO.out _ (List.getElem_mem hi1)
      have hfx := HSF.out _ (List.getElem_mem hi1)
      obtain ⟨x, hx⟩ : ∃ x, x = s.f4[i]'hi1 := ⟨_, rfl⟩
      rw [← hx] at hkid hox hfx
      have hk2 := hkid.kept (w' := w2) (fun q hq' hlt => hg2.block q hlt (fun e => by injection e with e; exact hfar _ hq' e))
      obtain ⟨bx, mx, Qx, rfl, hmx, hRb, hbQ, hQ, hdx, hkx, hlx, hex⟩ := any_isMap hk2 hox.map
      have hlenx := fine_lens hfx hox.map
      have HIQ : Hid (∀ h : i < ms.length, ms[i]'h = (qk, .map bx)) := Lib.hid (fun _ => hiq)
      have HX : Hid (∀ h : i < s.f4.length, x = s.f4[i]'h) := Lib.hid (fun _ => hx)
      have HI1 := Lib.hid hi1
      have HI2 := Lib.hid hi2
      have HHAS := Lib.hid hhas
      have HT2 := Aside0.mk ht2
      have HG2 := Aside0.mk hg2
      have HS2 := Lib.hid hs2
      have HMX := Aside0.mk hmx
      have HRB := Lib.hid hRb
      have HLL := Lib.hid (show (del rm qk).length < rm.length from Nat.lt_of_lt_of_eq (Nat.lt_succ_self _) (length_del (p := (qk, .map bx)) HF.out.rng.nodup hq))
      have HSTEP : Hid (∀ (w' : World) (v : AV) (ss : List ByteArray), (∀ k, G qk k → k ≠ bx → w'.heap[k]? = w2.heap[k]?) → kEnv ∈ SM.keys mx → TMap w' bx AV.enc (put mx kEnv v) → (∀ (i : Nat) (h1 : i < x.f3.length) (h2 : i < x.f4.length), x.f3[i]'h1 = kEnv → x.f4[i]'h2 = RD.I (.list ss)) → AnyF w' (fun q => w2.heap.size ≤ q ∧ q < w'.heap.size) (RD.I (.list (ss.map (resX (envM Em))))) v → AnyF w' (fun q => G qk q ∨ (w2.heap.size ≤ q ∧ q < w'.heap.size)) (srvI (envM Em) x) (.map bx)) :=
        Lib.hid (fun w' v ss a1 a2 a3 a4 a5 => env_step hox.map hlenx hRb hbQ hQ hdx hkx hlx hex (fun k hk => by rw [hs2]; exact (HF.out.foot _ _ hk).1) a1 a2 a3 a4 a5)
      have HSRC : Hid (∀ v, SM.look mx kEnv = some v → ∃ (ss : List ByteArray) (A : Option Addr) (c : Nat), v = .sl A ss.length c ∧ kA.C w2 A ss.length (ss.map AV.text) ∧ ss.length ≤ 1048576 ∧ (∀ s ∈ ss, s.size ≤ 2147483647) ∧ ∀ (i : Nat) (h1 : i < x.f3.length) (h2 : i < x.f4.length), x.f3[i]'h1 = kEnv → x.f4[i]'h2 = RD.I (.list ss)) := Lib.hid (fun v hv => env_src hox hlenx hkx hlx hex hv (asc_nodup (fine_asc hfx hox.map)))
      have HSAME : Hid (SM.look mx kEnv = none → srvI (envM Em) x = x) := Lib.hid (fun hv => setI_same hlenx (by rw [← hkx]; exact has_false.1 (look_none.1 hv)))
      have HBXR : Hid (bx ≠ r) := Lib.hid (hfar _ hRb)
      have HBXL : Hid (bx < wo.heap.size) := Lib.hid (HF.out.foot _ _ hRb).1
      have HBXS : Hid (bx ≠ bs) := Lib.hid (fun e => by
        rcases (HF.out.foot _ _ hRb).2 with h3 | h3
        · exact HBSQ.out _ (e ▸ h3)
        · have := HBSL.out; omega)
      have a5 := as_map 20 w2 (.map (some bx))
      have hze := zeroA w2
      clear hq ht2 hb2 hg2 hs2 hkid hfar hox hfx hx hk2 hmx hRb hbQ hQ hdx hkx hlx hex hlenx hiq hhas
      unfold AV.enc at hen
      unfold AV.enc
      cases hlk : SM.look mx kEnv with
      | none =>
        have n7 := nil_list w2
        have HSM := Lib.hid (HSAME.out hlk)
        go_wp2_with (at_lookup; refine wp_look rfl _ _ false rfl Tryd.underlying73 Tryd.underlying9 rfl HMX.out kEnv rfl hze ?_; rw [if_neg (by decide), hlk]; simp only [Option.map_none, Option.getD_none])
        go_roundw
        case rel => exact ⟨del rm qk, G, ⟨HF.out.skip HR.out HQP.out HPW.out HI1.out HI2.out (HIQ.out _) HHAS.out HT2.out (Only.of_grown HG2.out rfl) (by rw [← HX.out]; exact HSM.out)⟩⟩
        case measure => rw [HT2.out.left_eq, HF.out.rng.left_eq]; exact HLL.out
      | some v =>
        obtain ⟨ss, A, c, rfl, hr, hb, hs, hss⟩ := HSRC.out v hlk
        obtain ⟨n, hn⟩ : ∃ n, n = ss.length := ⟨_, rfl⟩
        have HN := Lib.hid hn
        rw [← hn] at hr hlk
        have n7 := as_list 20 w2 (.slice A n c)
        have HSRCR := Aside0.mk hr
        have HBD : Hid (n ≤ 1048576) := Lib.hid (by omega)
        have HSZ := Lib.hid hs
        have HSS := Lib.hid hss
        have HIN : Hid (kEnv ∈ SM.keys mx) := Lib.hid (has_iff.1 (look_some hlk).2)
        have HBE2 : Aside0 (TMap w2 be Value.string Em) := ⟨SMap.move HBE.out ((HG2.out.block be (by have := HBEL.out; have := HWR.out; omega) (fun e => by injection e with e; have := HBEL.out; have := HR.out; omega)).trans (HF.out.only.block be HBEL.out HBEP.out))⟩
        clear hr hb hs hss hn
        go_upto_region 9 with (at_lookup; refine wp_look rfl _ _ false rfl Tryd.underlying73 Tryd.underlying9 rfl HMX.out kEnv rfl hze ?_; rw [if_neg (by decide), hlk]; simp only [Option.map_some, Option.getD_some]; unfold AV.enc)
        clear hze a5 n7 hen hlk
        go_wp2_with (refine Kd.R_lit kA (w0 := w2) w2.heap.size 20 rfl (N := 51) rfl (xs := []) (inner := []) (ok := fun _ => True) (okp := fun _ => False) ?hr ?hp (fun _ h => h.elim) ?hf ?hB ?hS (by simp) ?_; (case hr => first | (go_simp; done) | (go_simp; rfl)); (case hp => exact Reps.none _ _); (case hf => trivial); (case hB => exact Below.refl _ _); (case hS => exact Nat.le_refl _); intro v5 w5 ho5 hb5 hg5 hn5; obtain ⟨A5, c5, eo5⟩ := Kd.R_slice ho5; subst eo5; have HO5 := Aside0.mk ho5; have HB5 := Aside0.mk hb5; clear ho5 hb5 hg5 hn5)
        go_loopw [13, 54] (fun v13 v54 wr => ∃ (j : Nat) (vs : List AV) (A' : Option Addr) (c' : Nat), j ≤ n ∧ v54 = .int .i64 j ∧ v13 = .slice A' vs.length c' ∧ Hid (vs = ((ss.take j).map (resX (envM Em))).map AV.text) ∧ Aside0 (Kd.R kA 20 wr w2.heap.size (fun _ => True) (.slice A' vs.length c') vs) ∧ Aside0 (Below w2.heap.size w2 wr)) (fun _ v54 _ => n - (intOf v54).toNat)
        case atStart => exact ⟨0, [], _, _, Nat.zero_le _, rfl, rfl, Lib.hid (by simp), HO5, HB5⟩
        case round =>
          obtain ⟨j, vs, A', c', hj, rfl, rfl, HVL, HRW, HB⟩ := hrel
          by_cases hlt : j < n
          · have i0 : (0 : Int) ≤ (j : Int) := Int.natCast_nonneg _
            have i1 : (j : Int) < (n : Int) := Int.ofNat_lt.2 hlt
            have hjs : j < ss.length := by rw [← HN.out]; exact hlt
            obtain ⟨adk, eA, hk0⟩ := at_A HSRCR.out j hlt
            replace hk0 := (HB.out.cell (World.block_lt_of_cell? w2 _ hk0)).trans hk0
            obtain ⟨t, ht⟩ : ∃ t, t = ss[j]'hjs := ⟨_, rfl⟩
            have het : (ss.map AV.text).getD j .nil = .text t := by rw [ht]; simp [List.getD_eq_getElem?_getD, List.getElem?_eq_getElem hjs]
            rw [het] at hk0
            unfold AV.enc at hk0
            have a13 := as_string 20 wr t
            have HNX : Hid (vs ++ [.text (resX (envM Em) t)] = ((ss.take (j + 1)).map (resX (envM Em))).map AV.text) := Lib.hid (by rw [ht]; exact next_texts hjs HVL.out)
            have HTS : Hid (t.size ≤ 2147483647) := Lib.hid (by rw [ht]; exact HSZ.out _ (List.getElem_mem hjs))
            have HVN : Hid (vs.length ≤ j) := Lib.hid (by rw [HVL.out]; simp; omega)
            have HVB : Hid ((vs.length + 1) * 16 ≤ 140737488355328) := Lib.hid (by have h1 := HVN.out; have h2 := HBD.out; omega)
            have wk := wrF hlt (by have := HBD.out; omega)
            have HBEI : Aside0 (TMap wr be Value.string Em) := ⟨HBE2.out.below HB.out⟩
            have hzs := zeroStrA wr
            subst eA
            clear hjs ht het
            cases hlk2 : SM.look Em t with
            | none =>
              have hhs := look_none.1 hlk2
              have HRX : Hid (resX (envM Em) t = t) := Lib.hid (resX_none hlk2)
              go_wp2_with (first
                | (at_lookup; refine wp_look rfl _ _ true rfl Tryd.underlying84 Tryd.underlying9 rfl HBEI.out t rfl hzs ?_; rw [if_pos rfl, hhs, hlk2]; simp only [Option.map_none, Option.getD_none])
                | (at_builtin; refine Kd.R_append kA (w0 := w2) w2.heap.size rfl _ _ 81 20 .nilIface 16 rfl Tryd.underlying81 infoA rfl (by decide) (by decide) (.slice A' vs.length c') vs (.text t) [.iface 9 (.string t)] (fun _ => True) (fun _ => False) rfl rfl ?hp (fun _ h => h.elim) (fun _ _ => trivial) ?hO ?hB ?hS ?hL ?_; (case hp => rfl); (case hO => first | exact HRW.out | exact Kd.R_alloc HRW.out _); (case hB => first | exact HB.out | exact HB.out.alloc HB.out.size _); (case hS => first | exact HB.out.size | (have := HB.out.size; simp; omega)); (case hL => exact HVB.out); intro v6 w6 ho6 hb6 hg6 hat6; obtain ⟨A6, c6, eo⟩ := Kd.R_slice ho6; subst eo; have HO6 := Aside0.mk ho6; have HK6 := Aside0.mk hb6; clear ho6 hb6 hg6 hat6))
              go_roundw
              case rel => exact ⟨j + 1, vs ++ [.text t], A6, c6, hlt, by go_num, by first | rfl | simp, Lib.hid (by have := HNX.out; rwa [HRX.out] at this), HO6, HK6⟩
              case measure => first | exact msF hlt | (rw [wk]; exact msF hlt)
            | some u =>
              have hhs := (look_some hlk2).2
              have HRX : Hid (resX (envM Em) t = t ++ eqB ++ u) := Lib.hid (resX_some hlk2)
              obtain ⟨hcat1, hcat2, hcat3, hcat4⟩ := cat_ok HTS.out (HVS.out _ _ hlk2)
              go_wp2_with (first
                | (at_lookup; refine wp_look rfl _ _ true rfl Tryd.underlying84 Tryd.underlying9 rfl HBEI.out t rfl hzs ?_; rw [if_pos rfl, hhs, hlk2]; simp only [Option.map_some, Option.getD_some])
                | (at_builtin; refine Kd.R_append kA (w0 := w2) w2.heap.size rfl _ _ 81 20 .nilIface 16 rfl Tryd.underlying81 infoA rfl (by decide) (by decide) (.slice A' vs.length c') vs (.text (t ++ eqB ++ u)) [.iface 9 (.string (t ++ eqB ++ u))] (fun _ => True) (fun _ => False) rfl rfl ?hp (fun _ h => h.elim) (fun _ _ => trivial) ?hO ?hB ?hS ?hL ?_; (case hp => rfl); (case hO => first | exact HRW.out | exact Kd.R_alloc HRW.out _); (case hB => first | exact HB.out | exact HB.out.alloc HB.out.size _); (case hS => first | exact HB.out.size | (have := HB.out.size; simp; omega)); (case hL => exact HVB.out); intro v6 w6 ho6 hb6 hg6 hat6; obtain ⟨A6, c6, eo⟩ := Kd.R_slice ho6; subst eo; have HO6 := Aside0.mk ho6; have HK6 := Aside0.mk hb6; clear ho6 hb6 hg6 hat6))
              go_roundw
              case rel => exact ⟨j + 1, vs ++ [.text (t ++ eqB ++ u)], A6, c6, hlt, by go_num, by first | rfl | simp, Lib.hid (by have := HNX.out; rwa [HRX.out] at this), HO6, HK6⟩
              case measure => first | exact msF hlt | (rw [wk]; exact msF hlt)
          · obtain rfl : j = n := by omega
            have HMXI : Aside0 (TMap wr bx AV.enc mx) := ⟨HMX.out.below HB.out⟩
            have HTI : Aside0 (TRng wr bs r AV.enc ms (del rm qk)) := ⟨HT2.out.below HB.out⟩
            have HKIN : Hid (qk ∈ SM.keys ms) := Lib.hid (by rw [show qk = (ms[i]'HI2.out).1 by rw [HIQ.out]]; exact List.mem_map_of_mem (f := fun q : ByteArray × AV => q.1) (List.getElem_mem HI2.out))
            have HMEM : Hid ((qk, AV.map bx) ∈ ms) := Lib.hid (by rw [← HIQ.out HI2.out]; exact List.getElem_mem HI2.out)
            go_wp2_with (first
              | (at_mapUpdate; refine wp_put rfl _ _ _ rfl Tryd.underlying73 Tryd.underlying9 rfl HMXI.out kEnv (.sl A' vs.length c') rfl rfl (w0 := wr) (B := 0) (Below.refl _ _) (Nat.zero_le _) ?_; intro w6 hm6 hb6 hg6 hs6; have HM6 := Aside0.mk hm6; have HG6 := Aside0.mk hg6; have HS6 := Lib.hid hs6; have HT6 := Aside0.mk (HTI.out.grown hg6 (fun e => by injection e with e; exact HBXS.out e.symm) (fun e => by injection e with e; exact HBXR.out e.symm)); clear hm6 hb6 hg6 hs6)
              | (at_mapUpdate; refine wp_putR rfl _ _ _ rfl Tryd.underlying73 Tryd.underlying9 rfl HT6.out (by have := HR.out; have := HBSL.out; omega) qk (.map bx) HKIN.out (fun h => (mem_keys_del.1 h).1 rfl) rfl rfl ?_; intro w7 ht7 hg7 hs7; rw [put_same HT6.out.map.nodup HMEM.out] at ht7; have HT7 := Aside0.mk ht7; have HG7 := Aside0.mk hg7; have HS7 := Lib.hid hs7; clear ht7 hg7 hs7))
            (first | go_frame | skip)
            go_roundw
            case rel =>
              have hs2i := HB.out.size
              have hso : ∀ k, k < w2.heap.size → k ≠ bx → k ≠ bs → w7.heap[k]? = w2.heap[k]? := fun k hk h1 h2 => (HG7.out.block k (by rw [HS6.out]; omega) (fun e => by injection e with e; exact h2 e)).trans ((HG6.out.block k (by omega) (fun e => by injection e with e; exact h1 e)).trans (HB.out.block k hk))
              have honly : Only (fun q => q = r ∨ q = bx ∨ q = bs) wo w7 :=
                (((Only.of_grown (P := fun q => q = r ∨ q = bx ∨ q = bs) HG2.out (.inl rfl)).trans (P' := fun q => q = r ∨ q = bx ∨ q = bs) ⟨HB.out.os, HB.out.tape, HB.out.output, HB.out.size, fun k hk _ => HB.out.block k hk⟩ (fun q hq _ => hq)).trans (Only.of_grown (P := fun q => q = r ∨ q = bx ∨ q = bs) HG6.out (.inr (.inl rfl))) (fun q hq _ => hq)).trans (Only.of_grown (P := fun q => q = r ∨ q = bx ∨ q = bs) HG7.out (.inr (.inr rfl))) (fun q hq _ => hq)
              obtain ⟨A'', c'', eo, hlc, hC⟩ := Kd.R_reads HRW.out
              injection eo with eo1 _ eo2
              subst eo1 eo2
              have hbase : ∀ ad, A' = some ad → w2.heap.size ≤ ad.block := fun ad e => fr_own HRW.out (Nat.le_refl _) ad e
              have hC7 : kA.C w7 A' vs.length vs := kA_move hC (fun ad e hlt => (HG7.out.block _ (by rw [HS6.out]; exact hlt) (fun q => by injection q with q; have h1 := hbase ad e; have h2 := HBSL.out; have h3 := HWR.out; have h4 := HS2.out; omega)).trans (HG6.out.block _ hlt (fun q => by injection q with q; have h1 := hbase ad e; have h2 := HBXL.out; have h4 := HS2.out; omega)))
              have hvs : vs = (ss.map (resX (envM Em))).map AV.text := by have := HVL.out; rwa [HN.out, List.take_length] at this
              have hm7 : TMap w7 bx AV.enc (put mx kEnv (.sl A' vs.length c')) := HM6.out.grown HG7.out (fun e => by injection e with e; exact HBXS.out e)
              have hnew := HSTEP.out w7 (.sl A' vs.length c') ss (fun k hk hne => hso k (by rw [HS2.out]; exact (HF.out.foot _ _ hk).1) hne (fun e => by
                rcases (HF.out.foot _ _ hk).2 with h3 | h3
                · exact HBSQ.out _ (e ▸ h3)
                · have := HBSL.out; omega)) HIN.out hm7 HSS.out (fresh_list hvs hC7 hlc hbase)
              rw [HS2.out] at hnew
              exact ⟨del rm qk, _, ⟨HF.out.step HR.out HQP.out HPW.out HBSQ.out HBS.out HI1.out HI2.out (HIQ.out _) HRB.out HT7.out honly (by rw [← HX.out]; exact hnew)⟩⟩
            case measure => rw [HT7.out.left_eq, HF.out.rng.left_eq]; exact HLL.out
end Go.Proofs.YtgeamhmenmomhaaDoor.A
/- The walks of loader.ResolveEnvironment, impl.ResolveEnvironment. -/
namespace Go.Proofs.YtgeamhmenmomhaaDoor.A
set_option linter.unusedVariables false
set_option linter.unusedSimpArgs false
set_option linter.unusedSectionVars false
open Go.RowKit Go.Proofs.YtgeamhmenmomhaaDoorW.PrintWords Go.Proofs.YtgeamhmenmomhaaDoorW.PrintLast Go.Proofs.YtgeamhmenmomhaaDoorW.PrintMore Go.Proofs.YtgeamhmenmomhaaDoor.PT Go.Proofs.YtgeamhmenmomhaaDoor.L Go.Proofs.YtgeamhmenmomhaaDoor.SM
open Go.Proofs.YtgeamhmenmomhaaDoor.U (IP putsP impl_pairs)

theorem to_map {x : IV} (hc : Canon x) (h5 : x.f0 = 5) {v : Value} {w : World} (hv : MadeI x w v) : Calls Tryd.prog 38 #[v] w fun e w' => ∃ b, e = .returned (.map (some b)) ∧ AnyF w' (fun k => w.heap.size ≤ k ∧ k < w'.heap.size) x (.map b) ∧ Below w.heap.size w w' := by
  obtain ⟨A3, c3, A4, c4, rfl, h3, g3, h4, g4⟩ := hv
  refine (toMapF x hc h5 A3 c3 A4 c4 w g3 g4 (fun y hy W _ => toAnyF _ y (Nat.le_refl _) (hc.sub hy) W)).mono ?_
  rintro e w' ⟨rfl, ⟨m, Q, hm, hmk, hqb, hqd, hme⟩, hb⟩
  have hlt := hm.lt
  have hlen := (hc.keys h5).2
  refine ⟨_, rfl, .map Q h5 hm ⟨by omega, hlt⟩ (fun k hk => by have := (hqb k _ hk).1; omega) (fun k q hk => by have := hqb k q hk; exact ⟨by omega, this.2.1⟩) hqd (by rw [hmk, List.take_length]) ?_ hme, hb⟩
  have := congrArg List.length hmk
  rw [List.length_map, List.take_length] at this
  omega
theorem from_map_ {b : Nat} {y : IV} {w : World} (h : FromIs w (.map b) y) : Calls Tryd.prog 41 #[.map (some b)] w (Told y w) := by
  cases h with
  | map hm hb hk hl he => exact impl_fromMap sortC b _ _ _ w hm hb hk hl (fun i h1 h2 v hv W hW => impl_fromAny sortC (he i h1 h2 v hv) W hW)
set_option maxRecDepth 100000 in
theorem services_as {b be : Nat} {w : World} {R : Ending → World → Prop} (h : Calls Tryd.prog 49 #[.map (some b), .string kSrv, .map (some be)] w R) (hr : ∀ e w', R e w' → e = .returned (.tuple #[])) :
    Calls Tryd.prog 48 #[.map (some b), .map (some be)] w R := by
  have H := Lib.hid h
  have HR := Lib.hid hr
  clear h hr
  go_enter Tryd.func48, Tryd.ntmps48
  go_wp2_with fail
  refine H.out.mono ?_
  intro e w1 h1
  obtain rfl := HR.out e w1 h1
  have H1 := Aside0.mk h1
  clear h1
  go_wp2
  first
    | (refine bodyPost_end (v := .tuple #[]) (by simp [results, Tryd.results48, go_sem]) rfl ?_; exact H1.out)
    | (refine bodyPost_ret (v := .tuple #[]) (by simp [results, Tryd.results48, go_sem]) rfl ?_; exact H1.out)
set_option maxRecDepth 100000 in
theorem loader_ResolveEnvironment {Em : List (ByteArray × ByteArray)} (hvs : ∀ k v, SM.look Em k = some v → v.size ≤ 1048576) {y : IV} {P : Nat → Prop} {b be : Nat} {w : World} (h : AnyF w P y (.map b)) (hf : Fine y) (ho : OkTop y) (hP : ∀ k, P k → k < w.heap.size) (hbe : TMap w be Value.string Em) (hbeP : ¬ P be) :
    Calls Tryd.prog 39 #[.map (some b), .map (some be)] w fun e w' => e = .returned (.tuple #[]) ∧ AnyF w' (fun q => P q ∨ (w.heap.size ≤ q ∧ q < w'.heap.size)) (topI (envM Em) y) (.map b) ∧ Only P w w' := by
  obtain ⟨b', m, Q, eb, hm, hPb, hbQ, hQP, hd, hk, hl, he⟩ := any_isMap h ho.map
  injection eb with eb
  subst eb
  have hlen := fine_lens hf ho.map
  have hkeys : SM.keys m = y.f3 := hk
  obtain ⟨i, hi, hie⟩ := List.mem_iff_getElem.1 ho.has
  have i2 : i < m.length := by rw [hl, hlen]; exact hi
  have i4 : i < y.f4.length := by rw [hlen]; exact hi
  have ek : (m[i]'i2).1 = kSrv := by
    have := congrArg (fun l => l[i]?) hk
    simp only [List.getElem?_map, List.getElem?_eq_getElem i2, List.getElem?_eq_getElem hi, Option.map_some, Option.some.injEq] at this
    exact this.trans hie
  obtain ⟨h5, hox⟩ := ho.srv i hi i4 hie
  have hs := he i i4 i2
  rw [ek] at hs
  obtain ⟨bs, ms, Qs, ev, hms, hbs, hbsQ, hQsP, hds, hks, hls, hes⟩ := any_isMap hs h5
  have hmem : (kSrv, AV.map bs) ∈ m := by
    have : m[i]'i2 = (kSrv, AV.map bs) := Prod.ext ek ev
    rw [← this]; exact List.getElem_mem i2
  have hfs := fine_sub hf (List.getElem_mem i4)
  have hcall := container_srv hvs b bs be hm hmem hbe hms (fun n hn => hP _ (hQP _ _ hn)) (hbQ kSrv) (fun hn => hbeP (hQP _ _ hn)) hbs hbsQ hQsP hds hks hls hes h5 (fun x hx => fine_sub hfs hx) hox (fine_lens hfs h5)
  have HC := Lib.hid (services_as hcall (fun e w' h => h.1))
  have HEND : Hid (∀ w' : World, AnyF w' (fun q => Q kSrv q ∨ (w.heap.size ≤ q ∧ q < w'.heap.size)) (allI (srvI (envM Em)) (y.f4[i]'i4)) (.map bs) → TMap w' b AV.enc m → Only (fun q => Q kSrv q ∨ q = b) w w' → AnyF w' (fun q => P q ∨ (w.heap.size ≤ q ∧ q < w'.heap.size)) (topI (envM Em) y) (.map b) ∧ Only P w w') := Lib.hid (fun w' a1 a2 a3 => by
    refine ⟨top_step ho.map hlen hPb hbQ hQP hd hk hl he hP (fun k hk' hn hne => a3.block k (hP _ hk') (fun hc => hc.elim hn hne)) a2 (fun j j1 j2 ej => ?_), ⟨a3.os, a3.tape, a3.output, a3.size, fun k hk' hn => a3.block k hk' (fun hc => hn (hc.elim (fun h => hQP _ _ h) (fun e => e ▸ hPb)))⟩⟩
    have : j = i := idx_key hm.nodup j2 i2 (by rw [ej, ek])
    subst this
    rw [show (m[j]'j2).2 = AV.map bs from ev]
    exact a1)
  have HJ : Hid (kJobs ∉ SM.keys m) := Lib.hid (by rw [hkeys]; exact ho.jobs)
  have HSEC : Hid (kSec ∉ SM.keys m) := Lib.hid (by rw [hkeys]; exact ho.sec)
  have HCFG : Hid (kCfg ∉ SM.keys m) := Lib.hid (by rw [hkeys]; exact ho.cfg)
  clear h hf ho hP hbe hbeP hm hPb hbQ hQP hd hk hl he hlen hkeys hie i2 ek h5 hox hs ev hms hbs hbsQ hQsP hds hks hls hes hmem hfs hcall hvs
  go_enter Tryd.func39, Tryd.ntmps39
  go_wp2_with fail
  refine HC.out.mono ?_
  rintro e w1 ⟨rfl, ha, hm1, ho1⟩
  have HA := Aside0.mk ha
  have HM1 := Aside0.mk hm1
  have HO1 := Aside0.mk ho1
  clear ha hm1 ho1
  go_wp2_with fail
  refine (container_none b be kJobs HM1.out HJ.out).mono ?_
  rintro e w2 ⟨rfl, rfl⟩
  go_wp2_with fail
  refine (secrets_none b be HM1.out HSEC.out).mono ?_
  rintro e w2 ⟨rfl, rfl⟩
  go_wp2_with fail
  refine (configs_none b be HM1.out HCFG.out).mono ?_
  rintro e w2 ⟨rfl, rfl⟩
  go_wp2
  have hfin := HEND.out w1 HA.out HM1.out HO1.out
  first
    | (refine bodyPost_end (v := .tuple #[]) (by simp [results, Tryd.results39, go_sem]) rfl ?_; exact ⟨rfl, hfin⟩)
    | (refine bodyPost_ret (v := .tuple #[]) (by simp [results, Tryd.results39, go_sem]) rfl ?_; exact ⟨rfl, hfin⟩)
/-- a value whose rows this call has made -/
def FreshI (z : IV) (w w' : World) (u : Value) : Prop := ∃ B3 d3 B4 d4, u = cellsI z B3 d3 B4 d4 ∧ Kd.R Kd.string 9 w' w.heap.size (fun _ => True) (.slice B3 z.f3.length d3) z.f3 ∧ Kd.R kI 36 w' w.heap.size (fun _ => True) (.slice B4 z.f4.length d4) z.f4
theorem fresh_kept {z : IV} {w w' W' : World} {B3 : Option Addr} {d3 : Nat} {B4 : Option Addr} {d4 : Nat} (p3 : Kd.R Kd.string 9 w' w.heap.size (fun _ => True) (.slice B3 z.f3.length d3) z.f3) (p4 : Kd.R kI 36 w' w.heap.size (fun _ => True) (.slice B4 z.f4.length d4) z.f4) (hW : ∀ k, w.heap.size ≤ k → k < w'.heap.size → W'.heap[k]? = w'.heap[k]?) : MadeI z W' (cellsI z B3 d3 B4 d4) := by
  have q3 := Kd.R_reads' (Kd.R_step (Kd.R_bound p3) (fun k hk hlt => hW k hk.2.1 hlt))
  have q4 := Kd.R_reads' (Kd.R_step (Kd.R_bound p4) (fun k hk hlt => hW k hk.2.1 hlt))
  exact ⟨B3, d3, B4, d4, rfl, q3.2.1, q3.2.2, q4.2.1, q4.2.2⟩
theorem FreshI.made {z : IV} {w w' : World} {u : Value} (h : FreshI z w w' u) : MadeI z w' u := by
  obtain ⟨B3, d3, B4, d4, rfl, p3, p4⟩ := h
  exact fresh_kept p3 p4 (fun _ _ _ => rfl)
set_option maxHeartbeats 4000000 in
set_option maxRecDepth 100000 in
theorem impl_ResolveEnvironment (l : List IP) (hl : l.length ≤ 1048576) (hvs : ∀ k v, SM.look (putsP l) k = some v → v.size ≤ 1048576) {x : IV} (hf : Fine x) (ho : OkTop x) {v : Value} {w : World} (hv : MadeI x w v) (A0 : Option Addr) (c0 : Nat) (hr0 : Kd.C k69 w A0 l.length l) (hc0 : l.length ≤ c0) :
    Calls Tryd.prog 17 #[v, .slice A0 l.length c0] w fun e w' => (∃ u, e = .returned u ∧ FreshI (topI (envM (putsP l)) x) w w' u) ∧ Below w.heap.size w w' := by
  obtain ⟨A3, c3, A4, c4, rfl, h3, g3, h4, g4⟩ := hv
  obtain ⟨W0, hW0⟩ : ∃ W0 : World, W0 = (w.alloc (Obj.cells #[.int .i64 x.f0, .int .i64 x.f1, .string x.f2, .slice A3 x.f3.length c3, .slice A4 x.f4.length c4] 36)).alloc (Obj.cells #[.int .i64 0, .int .i64 0, .string ⟨#[]⟩, .slice none 0 0, .slice none 0 0] 36) := ⟨_, rfl⟩
  have hb0 : Below w.heap.size w W0 := by rw [hW0]; exact ((Below.refl _ _).alloc (Nat.le_refl _) _).alloc (by simp) _
  have hbx : W0.heap[w.heap.size]? = some (.cells #[.int .i64 x.f0, .int .i64 x.f1, .string x.f2, .slice A3 x.f3.length c3, .slice A4 x.f4.length c4] 36 (0, 0)) := by rw [hW0]; exact heap_oldI (new_atI rfl)
  have HRE : Aside0 (W0.heap[w.heap.size + 1]? = some (.cells zV 36 (0, 0))) := ⟨by rw [hW0]; exact new_atI (by simp)⟩
  have HT := Lib.hid (to_map hf.canon ho.map (w := W0) (v := cellsI x A3 c3 A4 c4) ⟨A3, c3, A4, c4, rfl, h3, Kd.C_below g3 hb0, h4, Kd.C_below g4 hb0⟩)
  have HB0 := Aside0.mk hb0
  have HR0 := Aside0.mk hr0
  have HS0 : Hid (W0.heap.size = w.heap.size + 2) := Lib.hid (by rw [hW0]; simp)
  have HW0 := Lib.hid hW0
  have HPR := Lib.hid (fun (W : World) (h : Kd.C k69 W A0 l.length l) => impl_pairs A0 c0 l W h hc0 (by omega))
  have HL := Lib.hid (fun (W : World) (P : Nat → Prop) (b be : Nat) (h : AnyF W P x (.map b)) (hlt : ∀ k, P k → k < W.heap.size) (hbe : TMap W be Value.string (putsP l)) (hbeP : ¬ P be) => loader_ResolveEnvironment hvs h hf ho hlt hbe hbeP)
  have HZ := Lib.hid (fine_top (E := envM (putsP l)) hf ho)
  have m0 : W0.cell? ⟨w.heap.size, 0, none⟩ = some (.int .i64 x.f0) := (blk_cell hbx 0).trans rfl
  have m1 : W0.cell? ⟨w.heap.size, 1, none⟩ = some (.int .i64 x.f1) := (blk_cell hbx 1).trans rfl
  have m2 : W0.cell? ⟨w.heap.size, 2, none⟩ = some (.string x.f2) := (blk_cell hbx 2).trans rfl
  have m3 : W0.cell? ⟨w.heap.size, 3, none⟩ = some (.slice A3 x.f3.length c3) := (blk_cell hbx 3).trans rfl
  have m4 : W0.cell? ⟨w.heap.size, 4, none⟩ = some (.slice A4 x.f4.length c4) := (blk_cell hbx 4).trans rfl
  clear hb0 hW0 hbx h3 g3 h4 g4 hf ho hvs hr0 hc0
  go_enter Tryd.func17, Tryd.ntmps17
  go_upto_region 1 with fail
  rw [← HW0.out]
  go_wp2_with fail
  refine HT.out.mono ?_
  clear m0 m1 m2 m3 m4
  rintro e w1 ⟨b, rfl, ha, hb1⟩
  have HA := Aside0.mk ha
  have H1 := Aside0.mk hb1
  clear ha hb1
  go_wp2_with fail
  refine (HPR.out w1 (Kd.C_below (Kd.C_below HR0.out HB0.out) H1.out)).mono ?_
  rintro e w2 ⟨be_, rfl, hbe, hbl, hb2⟩
  have HBE := Aside0.mk hbe
  have HBL := Lib.hid hbl
  have HA2 := Aside0.mk (HA.out.below_ hb2)
  have H2 := Aside0.mk (below_then H1.out H1.out.size hb2)
  have HS2 : Hid (w1.heap.size ≤ w2.heap.size) := Lib.hid hb2.size
  clear hbe hbl hb2
  go_wp2_with fail
  refine (HL.out w2 _ b be_ HA2.out (fun k hk => Nat.lt_of_lt_of_le hk.2 HS2.out) HBE.out (fun hk => by have h1 := HBL.out; have h2 := hk.2; omega)).mono ?_
  rintro e w3 ⟨rfl, ha2, ho3⟩
  have H3 : Aside0 (Below W0.heap.size W0 w3) := ⟨H2.out.trans (ho3.toBelow (fun k hk => hk.1) H2.out.size)⟩
  have HF2 := Aside0.mk (ha2.toIs.told HZ.out)
  clear ha2 ho3
  go_wp2_with fail
  refine (from_map_ HF2.out).mono ?_
  obtain ⟨z, hz⟩ : ∃ z, z = topI (envM (putsP l)) x := ⟨_, rfl⟩
  rw [← hz]
  have HZZ := Lib.hid hz
  clear hz
  rintro e w4 ⟨B3, d3, B4, d4, rfl, k3, k4, hb4⟩
  obtain ⟨W5, hW5⟩ : ∃ W5 : World, W5 = w4.alloc (Obj.cells #[.int .i64 z.f0, .int .i64 z.f1, .string z.f2, .slice B3 z.f3.length d3, .slice B4 z.f4.length d4] 36) := ⟨_, rfl⟩
  have hb5 : Below w3.heap.size w3 W5 := by rw [hW5]; exact hb4.alloc hb4.size _
  have hre : W5.heap[w.heap.size + 1]? = some (.cells zV 36 (0, 0)) := blk_below (blk_below HRE.out H3.out) hb5
  have h5 : W5.heap[w4.heap.size]? = some (.cells #[.int .i64 z.f0, .int .i64 z.f1, .string z.f2, .slice B3 z.f3.length d3, .slice B4 z.f4.length d4] 36 (0, 0)) := by rw [hW5]; exact new_atI rfl
  have H5 := Aside0.mk (below_then H3.out H3.out.size hb5)
  have K3 : Aside0 (Kd.R Kd.string 9 W5 w3.heap.size (fun k => k < w4.heap.size) (.slice B3 z.f3.length d3) z.f3) := ⟨by rw [hW5]; exact Kd.R_alloc (Kd.R_mono (Kd.R_bound k3) (fun k hk => hk.2.2.1)) _⟩
  have K4 : Aside0 (Kd.R kI 36 W5 w3.heap.size (fun k => k < w4.heap.size) (.slice B4 z.f4.length d4) z.f4) := ⟨by rw [hW5]; exact Kd.R_alloc (Kd.R_mono (Kd.R_bound k4) (fun k hk => hk.2.2.1)) _⟩
  obtain ⟨g, hg⟩ : ∃ g, g = w4.heap.size := ⟨_, rfl⟩
  have hs2 : w.heap.size + 2 ≤ w3.heap.size := by have h1 := H3.out.size; have h2 := HS0.out; omega
  have hs4 : w3.heap.size ≤ g := by rw [hg]; exact hb4.size
  rw [← hg] at h5 K3 K4
  have HG := Lib.hid hg
  have HS3 := Lib.hid hs2
  have HS4 := Lib.hid hs4
  have HW5 := Lib.hid hW5
  have HNE : Hid (w.heap.size + 1 ≠ g) := Lib.hid (by omega)
  clear k3 k4 hb4 hb5 hW5 hg hs2 hs4
  have n0 : W5.cell? ⟨w.heap.size + 1, 0, none⟩ = some (.int .i64 0) := (blk_cell hre 0).trans rfl
  have n1 : W5.cell? ⟨w.heap.size + 1, 1, none⟩ = some (.int .i64 0) := (blk_cell hre 1).trans rfl
  have n2 : W5.cell? ⟨w.heap.size + 1, 2, none⟩ = some (.string ⟨#[]⟩) := (blk_cell hre 2).trans rfl
  have n3 : W5.cell? ⟨w.heap.size + 1, 3, none⟩ = some (.slice none 0 0) := (blk_cell hre 3).trans rfl
  have n4 : W5.cell? ⟨w.heap.size + 1, 4, none⟩ = some (.slice none 0 0) := (blk_cell hre 4).trans rfl
  have f0 := blk_frozen hre 0
  have f1 := blk_frozen hre 1
  have f2 := blk_frozen hre 2
  have f3 := blk_frozen hre 3
  have f4 := blk_frozen hre 4
  have l0 : W5.cell? ⟨g, 0, none⟩ = some (.int .i64 z.f0) := (blk_cell h5 0).trans rfl
  have l1 : W5.cell? ⟨g, 1, none⟩ = some (.int .i64 z.f1) := (blk_cell h5 1).trans rfl
  have l2 : W5.cell? ⟨g, 2, none⟩ = some (.string z.f2) := (blk_cell h5 2).trans rfl
  have l3 : W5.cell? ⟨g, 3, none⟩ = some (.slice B3 z.f3.length d3) := (blk_cell h5 3).trans rfl
  have l4 : W5.cell? ⟨g, 4, none⟩ = some (.slice B4 z.f4.length d4) := (blk_cell h5 4).trans rfl
  clear hre h5
  unfold cellsI
  go_upto_region 4 with fail
  rw [← HW5.out, ← HG.out]
  go_wp2
  refine bodyPost_ret (v := cellsI z B3 d3 B4 d4) (by unfold cellsI; simp [results, Tryd.results17, go_sem, *]) rfl ?_
  have hne : ∀ k, w3.heap.size ≤ k → k ≠ w.heap.size + 1 := fun k hk e => by have h1 := HS3.out; omega
  have hle : w.heap.size ≤ w3.heap.size := by have h1 := HS3.out; omega
  have q3 := Kd.R_lower (Kd.R_mono (R_far5 (Kd.R_bound K3.out) (w.heap.size + 1) (fun k hk => hne k hk.2.1) (.int .i64 z.f0) (.int .i64 z.f1) (.string z.f2) (.slice B3 z.f3.length d3) (.slice B4 z.f4.length d4)) (fun _ _ => trivial)) hle
  have q4 := Kd.R_lower (Kd.R_mono (R_far5 (Kd.R_bound K4.out) (w.heap.size + 1) (fun k hk => hne k hk.2.1) (.int .i64 z.f0) (.int .i64 z.f1) (.string z.f2) (.slice B3 z.f3.length d3) (.slice B4 z.f4.length d4)) (fun _ _ => trivial)) hle
  have hzz := HZZ.out
  subst hzz
  exact ⟨⟨_, rfl, B3, d3, B4, d4, rfl, q3, q4⟩, below5 (HB0.out.trans (H5.out.mono HB0.out.size)) _ (Nat.le_succ _) _ _ _ _ _⟩
end Go.Proofs.YtgeamhmenmomhaaDoor.A
