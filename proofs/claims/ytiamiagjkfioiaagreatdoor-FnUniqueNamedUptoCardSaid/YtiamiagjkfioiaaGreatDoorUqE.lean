/- The walks of override.zzUnique at an environment, override.enforceUnicity of a map with one key and of a list of texts, override.EnforceUnicity. -/
import Derived.Test.YtiamiagjkfioiaaGreatDoorUqW
import Derived.Test.YtiamiagjkfioiaaGreatDoorMgI
import Derived.Test.YtiamiagjkfioiaaGreatDoorFF
import Derived.Test.YtiamiagjkfioiaaGreatDoorFitD
namespace Go.Proofs.YtiamiagjkfioiaaGreatDoor.A
set_option linter.unusedVariables false
set_option linter.unusedSimpArgs false
set_option linter.unusedSectionVars false
open Go.RowKit Go.Proofs.YtiamiagjkfioiaaGreatDoorW.PrintWords Go.Proofs.YtiamiagjkfioiaaGreatDoorW.PrintLast Go.Proofs.YtiamiagjkfioiaaGreatDoorW.PrintMore Go.Proofs.YtiamiagjkfioiaaGreatDoor.PT Go.Proofs.YtiamiagjkfioiaaGreatDoor.L Go.Proofs.YtiamiagjkfioiaaGreatDoor.SM

abbrev kServ : ByteArray := ⟨#[115, 101, 114, 118, 105, 99, 101, 115]⟩
abbrev kS1 : ByteArray := ⟨#[115]⟩
abbrev kEnvi : ByteArray := ⟨#[101, 110, 118, 105, 114, 111, 110, 109, 101, 110, 116]⟩
abbrev pEnv : ByteArray := ⟨#[115, 101, 114, 118, 105, 99, 101, 115, 46, 115, 46, 101, 110, 118, 105, 114, 111, 110, 109, 101, 110, 116]⟩
theorem matches_is {p : ByteArray} (pat : ByteArray) (w : World) (b : Bool) (hb : matchesB p pat = b) (hs : p.size ≤ 2147483647) (hp : pat.size ≤ 2147483647) :
    Calls Tryz.prog 73 #[.string p, .string pat] w fun e w' => e = .returned (.bool b) ∧ Below w.heap.size w w' := by
  have := tree_Matches p pat w hs hp
  rw [hb] at this
  exact this
abbrev kvi : Value := .func (.func 95) #[] #[]
set_option maxHeartbeats 4000000 in
set_option maxRecDepth 100000 in
theorem override_zzUnique (w : World) : Calls Tryz.prog 70 #[.string pEnv] w fun e w' => e = .returned (.tuple #[kvi, .bool true]) ∧ Below w.heap.size w w' := by
  have HB := Aside0.mk (Below.refl w.heap.size w)
  go_enter Tryz.func70, Tryz.ntmps70
  go_upto_region 33 with (go_at_call 73; refine (matches_is _ _ false (by kernel_rfl) (by decide) (by decide)).mono ?_; rintro e w' ⟨rfl, hb'⟩; replace HB := Aside0.mk (below_then HB.out HB.out.size hb'); clear hb')
  go_wp2_with (go_at_call 73; refine (matches_is _ _ true (by kernel_rfl) (by decide) (by decide)).mono ?_; rintro e w' ⟨rfl, hb'⟩; replace HB := Aside0.mk (below_then HB.out HB.out.size hb'); clear hb')
  go_ret2
  exact ⟨rfl, HB.out⟩
/-- enforceUnicity of y at a path makes z -/
def EU (p : ByteArray) (y z : IV) : Prop := ∀ (w : World) (v : AV) (P : Nat → Prop), FromF w P v y → (∀ n, P n → n < w.heap.size) → Tab w → Calls Tryz.prog 48 #[v.enc, .string p] w fun e w' =>
  ∃ v' : AV, e = .returned (.tuple #[v'.enc, .nilIface]) ∧ FromF w' (fun n => P n ∨ (w.heap.size ≤ n ∧ n < w'.heap.size)) v' z ∧ Only P w w'
theorem EU.use {p : ByteArray} {y z : IV} (h : EU p y z) {w : World} {v : AV} {P : Nat → Prop} (hf : FromF w P v y) (hl : ∀ n, P n → n < w.heap.size) (ht : Tab w) : Calls Tryz.prog 48 #[v.enc, .string p] w fun e w' =>
  ∃ v' : AV, e = .returned (.tuple #[v'.enc, .nilIface]) ∧ FromF w' (fun n => P n ∨ (w.heap.size ≤ n ∧ n < w'.heap.size)) v' z ∧ Only P w w' := h w v P hf hl ht
abbrev tIx (s : ByteArray) : IV := ⟨3, 0, s, [], []⟩
def textsI (ss : List ByteArray) : IV := ⟨4, 0, be, [], ss.map tIx⟩
theorem list_of {w : World} {P : Nat → Prop} {v : AV} {ss : List ByteArray} (h : FromF w P v (textsI ss)) : ∃ A c, v = .sl A ss.length c ∧ ss.length ≤ c ∧ kA.C w A ss.length (ss.map AV.text) := by
  unfold textsI at h
  cases h with
  | @list _ A c vs ys Q hl hc hb hr hA hQ hd he =>
    rw [List.length_map] at hl
    have e : vs = ss.map AV.text := by
      apply List.ext_getElem (by simp [hl])
      intro i h1 h2
      have h3 := he i h1 (by simp at h2 ⊢; exact h2)
      rw [List.getElem_map] at h3 ⊢
      generalize vs[i]'h1 = u at h3
      cases h3
      rfl
    subst e
    rw [List.length_map] at hc hr
    exact ⟨A, c, by rw [List.length_map], hc, hr⟩
theorem texts_from {w : World} {P : Nat → Prop} {A : Option Addr} {c : Nat} {ss : List ByteArray} (hb : ss.length ≤ 1099511627776) (hc : ss.length ≤ c) (hr : kA.C w A ss.length (ss.map AV.text)) (hA : 0 < ss.length → ∀ ad, A = some ad → P ad.block) : FromF w P (.sl A ss.length c) (textsI ss) := by
  have h := FromF.list (w := w) (P := P) (A := A) (c := c) (vs := ss.map AV.text) (ys := ss.map tIx) (fun _ _ => False) (by simp) (by rw [List.length_map]; exact hc) (by rw [List.length_map]; exact hb) (by rw [List.length_map]; exact hr) (fun hp ad e => ⟨hA (by simpa using hp) ad e, fun _ h => h⟩) (fun _ _ h => h.elim) (fun _ _ _ h => h.elim) (fun i h1 h2 => by
    rw [List.getElem_map, List.getElem_map]
    exact .text _)
  rwa [List.length_map] at h
set_option maxRecDepth 100000 in
theorem eu_list (ss : List ByteArray) (hn : ss.length ≤ 1048576) (hss : ∀ s ∈ ss, s.size ≤ 2147483647) : EU pEnv (textsI ss) (textsI (uniqL ss)) := by
  intro w v P hf hl ht
  obtain ⟨A, c, rfl, hc, hr⟩ := list_of hf
  have HU := Lib.hid (fun (W : World) (hW : Below w.heap.size w W) => override_uniqueEntries ss hn hss A c hc pEnv (by decide) W (Kd.C_below hr hW) (ht.on_ hW))
  have HLN : Hid ((uniqL ss).length ≤ 1099511627776) := Lib.hid (by have := uniqL_len ss; omega)
  have a1 := no_map (w := w) (xT := 20) 48 (.slice A ss.length c) (by decide)
  have a2 := as_list 20 w (.slice A ss.length c)
  clear hf hl ht hc hr hn hss
  unfold AV.enc
  go_enter Tryz.func48, Tryz.ntmps48
  go_wp2_with fail
  refine (override_zzUnique w).mono ?_
  rintro e w1 ⟨rfl, hb1⟩
  have HB1 := Aside0.mk hb1
  clear hb1 a1 a2
  go_wp2_with fail
  refine (HU.out w1 HB1.out).mono ?_
  rintro e w2 ⟨⟨B, d, rfl, hd, hC, hA⟩, hb2⟩
  have HC := Aside0.mk hC
  have HD := Lib.hid hd
  have HA := Lib.hid hA
  have HB2 := Aside0.mk hb2
  clear hd hC hA hb2
  go_wp2
  go_ret2
  have h2 := below_then HB1.out HB1.out.size HB2.out
  exact ⟨.sl B (uniqL ss).length d, rfl, texts_from HLN.out HD.out HC.out (fun hp ad e => .inr ⟨Nat.le_trans HB1.out.size (HA.out ad e hp), by have hc := HC.out; rw [e] at hc; exact C_lt hc (by decide) hp⟩), Only.of_below h2⟩
/-- a map with one key -/
def oneI (k : ByteArray) (c : IV) : IV := ⟨5, 0, be, [k], [c]⟩
theorem fine_one {k : ByteArray} {c : IV} (h : Fine c) : Fine (oneI k c) := .map (List.pairwise_singleton _ _) rfl (by show 1 ≤ _; omega) (fun y hy => by rw [List.mem_singleton.1 hy]; exact h)
theorem kid_one (k : ByteArray) (c : IV) (k' : ByteArray) (x : IV) : kidI (oneI k c) k' = some x ↔ k' = k ∧ x = c := by
  unfold kidI oneI SM.look
  simp only [List.zip_cons_cons, List.zip_nil_right, List.find?_cons, List.find?_nil]
  by_cases e : k = k'
  · subst e; simp [eq_comm]
  · simp [e, Ne.symm e, eq_comm]
theorem keys_one {m : List (ByteArray × AV)} {k : ByteArray} (hn : (SM.keys m).Nodup) (h : ∀ k', k' ∈ SM.keys m ↔ k' ∈ [k]) : ∃ u, m = [(k, u)] := by
  cases m with
  | nil => have := (h k).2 (by simp); simp [SM.keys] at this
  | cons q l =>
    have hq : q.1 = k := by have := (h q.1).1 (by simp [SM.keys]); simpa using this
    cases l with
    | nil => exact ⟨q.2, by rw [← hq]⟩
    | cons r l =>
      have hr : r.1 = k := by have := (h r.1).1 (by simp [SM.keys]); simpa using this
      simp [SM.keys] at hn
      exact absurd (hq.trans hr.symm) (fun e => hn.1.1 e)
/-- the loop's state: ahead of the one key, or behind it -/
def EoL (c' : IV) (P : Nat → Prop) (Q : ByteArray → Nat → Prop) (k : ByteArray) (u : AV) (b r : Nat) (w wr : World) (m rm : List (ByteArray × AV)) : Prop :=
  TRng wr b r AV.enc m rm ∧ ((rm = [(k, u)] ∧ m = [(k, u)] ∧ wr.heap.size = w.heap.size + 1 ∧ ∀ n, n < w.heap.size → wr.heap[n]? = w.heap[n]?) ∨ (rm = [] ∧ ∃ u', m = [(k, u')] ∧ FromF wr (fun n => Q k n ∨ (r < n ∧ n < wr.heap.size)) u' c')) ∧ Only P w wr
set_option maxHeartbeats 4000000 in
set_option maxRecDepth 100000 in
theorem eu_one {p k : ByteArray} {c c' : IV} (hc : Fine c') (hp : p.size ≤ 2147483647) (hk : k.size ≤ 2147483647) (hE : EU (nextP p k) c c') : EU p (oneI k c) (oneI k c') := by
  intro w v P hf hl ht
  obtain ⟨b, m, Q, rfl, hm, hP, hbQ, hQ, hd, hmk, he⟩ := hf.unmap rfl
  obtain ⟨u, rfl⟩ := keys_one hm.nodup hmk
  have hfu : FromF w (Q k) u c := by
    obtain ⟨x, hx, hfx⟩ := he k u (by simp [SM.look])
    obtain ⟨-, rfl⟩ := (kid_one k c k x).1 hx
    exact hfx
  have hbl := hm.lt
  have HM := Aside0.mk hm
  have HBL := Lib.hid hbl
  have HFU := Aside0.mk hfu
  have HP := Lib.hid hP
  have HBQ := Lib.hid hbQ
  have HQ := Lib.hid hQ
  have HL := Lib.hid hl
  have HT := Lib.hid ht
  have HC := Lib.hid hc
  have HPS := Lib.hid hp
  have HKS := Lib.hid hk
  have HE := Lib.hid hE
  have e1 := as_map 20 w (.map (some b))
  clear hm hfu hP hbQ hQ hd hmk he hl ht hc hp hk hE hf
  unfold AV.enc
  go_enter Tryz.func48, Tryz.ntmps48
  go_wp2_with (at_range; go_loud (refine wp_range rfl _ rfl Tryz.underlying55 rfl HM.out (w0 := w) (B := w.heap.size) (Below.refl _ _) (Nat.le_refl _) ?_; intro w1 r hr ht _ hg hs1; have HT1 := Aside0.mk ht; have HG := Aside0.mk hg; have HR := Lib.hid hr; have HS1 := Lib.hid hs1; clear ht hg hr hs1))
  clear e1
  go_frame
  go_loopw [] (fun wr => ∃ (m rm : List (ByteArray × AV)), Aside0 (EoL c' P Q k u b r w wr m rm)) (fun wr => wr.rangeLeft b r)
  case atStart => exact ⟨[(k, u)], [(k, u)], ⟨HT1.out, .inl ⟨rfl, rfl, HS1.out, fun n hn => HG.out.block n hn (fun e => by cases e)⟩, ⟨HG.out.os, HG.out.tape, HG.out.output, HG.out.size, fun n hn _ => HG.out.block n hn (fun e => by cases e)⟩⟩⟩
  case round =>
    obtain ⟨m, rm, H⟩ := hrel
    have HNE : Hid (b ≠ r) := Lib.hid (by have h1 := HR.out; have h2 := HBL.out; omega)
    go_wp2_with (at_next; refine wp_next rfl _ rfl rfl HNE.out H.out.1 (w0 := wr) (B := 0) (Below.refl _ _) (Nat.zero_le _) ?_ ?_)
    · intro hrm
      subst hrm
      go_wp2
      go_ret2
      obtain ⟨hrng, hst, ho⟩ := H.out
      rcases hst with ⟨h1, _⟩ | ⟨_, u', rfl, hf'⟩
      · cases h1
      · refine ⟨.map b, rfl, FromF.mapK (fine_one HC.out) rfl (fun k' n => k' = k ∧ (Q k n ∨ (r < n ∧ n < wr.heap.size))) hrng.map (.inl HP.out) (fun k' hq => ?_) (fun k' n hq => ?_) (fun k1 k2 n h1 h2 => by rw [h1.1, h2.1]) (fun k' => by simp [SM.keys, oneI]) (fun k' v' hv' => ?_), ho⟩
        · rcases hq.2 with h | h
          · exact HBQ.out _ h
          · have h1 := HR.out; have h2 := HBL.out; omega
        · rcases hq.2 with h | h
          · exact .inl (HQ.out _ _ h)
          · exact .inr ⟨by have h1 := HR.out; omega, h.2⟩
        · have hm2 := (look_some hv').1
          rw [List.mem_singleton] at hm2
          injection hm2 with hk' hv2
          subst hk' hv2
          exact ⟨c', (kid_one _ _ _ _).2 ⟨rfl, rfl⟩, hf'.imp (fun n hn => ⟨rfl, hn⟩)⟩
    · intro qk qv w2 hq ht2 _ hg2 hs2 hen
      obtain ⟨hrng, hst, ho⟩ := H.out
      rcases hst with ⟨h1, hme, hsz, hsame⟩ | ⟨h1, _⟩
      rotate_left
      · rw [h1] at hq; cases hq
      subst h1
      subst hme
      rw [List.mem_singleton] at hq
      injection hq with hqk hqv
      subst hqk
      subst hqv
      have HT2 := Aside0.mk ht2
      have HG2 := Aside0.mk hg2
      have HO := Aside0.mk ho
      have HLF : Hid (wr.rangeLeft b r = 1) := Lib.hid (by rw [hrng.left_eq]; rfl)
      have HF2 : Aside0 (FromF w2 (Q qk) qv c) := ⟨(HFU.out.kept (fun n hn hlt => (hg2.block n (Nat.lt_of_lt_of_le hlt (by omega)) (fun e => by injection e with e; have h1 := HR.out; omega)).trans (hsame n hlt)))⟩
      have HSW : Hid (w.heap.size < w2.heap.size) := Lib.hid (by have := hg2.size; omega)
      have HTB : Hid (Tab w2) := Lib.hid (HT.out.on_ ⟨(hg2.os).trans ho.os, hg2.tape.trans ho.tape, hg2.output.trans ho.output, by have := hg2.size; omega, fun n hn => (hg2.block n (by omega) (fun e => by injection e with e; have h1 := HR.out; omega)).trans (hsame n hn)⟩)
      clear ht2 hg2 hs2 ho hrng hsame hsz
      go_wp2_with fail
      refine (tree_NextG p qk w2 HPS.out HKS.out).mono ?_
      rintro e w3 ⟨rfl, hb3⟩
      have HB3 := Aside0.mk hb3
      have HF3 := Aside0.mk (HF2.out.below_ hb3)
      have HTB3 := Lib.hid (HTB.out.on_ hb3)
      clear hb3
      have hl3 : ∀ n, Q qk n → n < w3.heap.size := fun n hn => by have h1 := HL.out _ (HQ.out _ _ hn); have h2 := HSW.out; have h3 := HB3.out.size; omega
      have HCC := Lib.hid (EU.use HE.out HF3.out hl3 HTB3.out)
      clear hl3
      go_wp2_with fail
      refine HCC.out.mono ?_
      rintro e w6 ⟨v6, rfl, hv6, ho6⟩
      have HV6 := Aside0.mk hv6
      have HO6 := Aside0.mk ho6
      have HT6 := Aside0.mk ((HT2.out.below HB3.out).move (ho6.block b (HT2.out.below HB3.out).map.lt (fun h => HBQ.out _ h)) (ho6.block r (HT2.out.below HB3.out).lt (fun h => by have h1 := HL.out _ (HQ.out _ _ h); have h2 := HR.out; omega)))
      clear hv6 ho6
      go_wp2_with (at_mapUpdate; refine wp_putR rfl _ _ _ rfl Tryz.underlying55 Tryz.underlying9 rfl HT6.out HNE.out qk v6 (by simp [SM.keys]) (fun h => (mem_keys_del.1 h).1 rfl) rfl rfl ?_; intro w7 ht7 hg7 hs7; have HT7 := Aside0.mk ht7; have HG7 := Aside0.mk hg7; have HS7 := Lib.hid hs7; clear ht7 hg7 hs7)
      go_frame
      have hdel : del [(qk, qv)] qk = [] := by simp [del]
      have hput : put [(qk, qv)] qk v6 = [(qk, v6)] := by simp [put, SM.has]
      go_roundw
      case rel =>
        have h7 := HT7.out
        rw [hdel, hput] at h7
        refine ⟨[(qk, v6)], [], ⟨h7, .inr ⟨rfl, v6, rfl, (HV6.out.kept (fun n hn hlt => HG7.out.block n hlt (fun e => ?_))).imp (fun n hn => ?_)⟩, ?_⟩⟩
        · injection e with e
          subst e
          rcases hn with h | h
          · exact HBQ.out _ h
          · have h1 := HBL.out; have h2 := HSW.out; have h3 := HB3.out.size; omega
        · rcases hn with h | h
          · exact .inl h
          · exact .inr ⟨by have h1 := HR.out; have h2 := HSW.out; have h3 := HB3.out.size; omega, by rw [HS7.out]; exact h.2⟩
        · have o1 := HO.out.trans (⟨HG2.out.os, HG2.out.tape, HG2.out.output, HG2.out.size, fun n hn e => HG2.out.block n hn (fun e' => by injection e' with e'; exact e e')⟩ : Only (fun n => n = r) wr w2) (fun n e hn => by have h1 := HR.out; omega)
          have o2 := o1.trans (Only.of_below (P := fun _ => False) HB3.out) (fun n e _ => e.elim)
          exact (o2.trans HO6.out (fun n hn _ => HQ.out _ _ hn)).trans (Only.of_grown HG7.out (P := fun n => n = b) rfl) (fun n e _ => e ▸ HP.out)
      case measure =>
        rw [HT7.out.left_eq, HLF.out, hdel]
        decide
set_option maxRecDepth 100000 in
theorem override_EnforceUnicity {y z : IV} (h : EU be y z) (h5 : z.f0 = 5) {w : World} {b : Nat} {P : Nat → Prop} (hf : FromF w P (.map b) y) (hl : ∀ n, P n → n < w.heap.size) (ht : Tab w) :
    Calls Tryz.prog 34 #[.map (some b)] w fun e w' => ∃ b', e = .returned (.tuple #[.map (some b'), .nilIface]) ∧ FromF w' (fun n => P n ∨ (w.heap.size ≤ n ∧ n < w'.heap.size)) (.map b') z ∧ Only P w w' := by
  have HC := Lib.hid (EU.use h hf hl ht)
  have H5 := Lib.hid h5
  unfold AV.enc at HC
  clear h h5 hf hl ht
  go_enter Tryz.func34, Tryz.ntmps34
  go_wp2_with fail
  refine (tree_NewPath0 w).mono ?_
  rintro e w1 ⟨rfl, rfl⟩
  go_wp2_with fail
  refine HC.out.mono ?_
  rintro e w2 ⟨v, rfl, hv, ho⟩
  obtain ⟨b', _, _, rfl, _⟩ := hv.unmap H5.out
  have HV := Aside0.mk hv
  have HO := Aside0.mk ho
  clear hv ho
  have e1 := as_map1 (.map (some b')) w2
  dsimp only
  go_wp2
  go_ret2
  exact ⟨b', rfl, HV.out, HO.out⟩
end Go.Proofs.YtiamiagjkfioiaaGreatDoor.A
