/- Joined texts. -/
import Derived.Test.YtgeamhmenmomhaaDoorEnvT
import Derived.Test.YtgeamhmenmomhaaDoorEnvL
import Derived.Test.YtgeamhmenmomhaaDoorNameL
/- Plain: what the law on ResolveEnvironment rests on. -/
namespace Go.Proofs.YtgeamhmenmomhaaDoor.A
set_option linter.unusedVariables false
set_option linter.unusedSimpArgs false
set_option linter.unusedSectionVars false
open Go.RowKit Go.Proofs.YtgeamhmenmomhaaDoorW.PrintWords Go.Proofs.YtgeamhmenmomhaaDoorW.PrintLast Go.Proofs.YtgeamhmenmomhaaDoorW.PrintMore Go.Proofs.YtgeamhmenmomhaaDoor.PT Go.Proofs.YtgeamhmenmomhaaDoor.L Go.Proofs.YtgeamhmenmomhaaDoor.SM

theorem twin_f {x : SV} {y : IV} (h : Twin x y) : x.f0 = y.f0 ∧ x.f1 = y.f1 ∧ x.f2 = y.f2 ∧ x.f3 = y.f3 ∧ x.f4.length = y.f4.length := by
  cases h with
  | mk e0 e1 e2 e3 el _ _ _ => exact ⟨e0, e1, e2, e3, el⟩
theorem twin_tS {s : ByteArray} {y : IV} (h : Twin (tS s) y) : y = tI s := by
  obtain ⟨e0, e1, e2, e3, el⟩ := twin_f h
  have h4 : y.f4 = [] := List.eq_nil_of_length_eq_zero el.symm
  cases y with
  | mk a b c d g =>
    have q0 : (3 : Int) = a := e0
    have q1 : (0 : Int) = b := e1
    have q2 : s = c := e2
    have q3 : [] = d := e3
    have q4 : g = [] := h4
    subst q0 q1 q2 q3 q4
    rfl
theorem twin_listS {ss : List ByteArray} {y : IV} (h : Twin (RD.S (.list ss)) y) : y = RD.I (.list ss) := by
  obtain ⟨e0, e1, e2, e3, el⟩ := twin_f h
  have hl : y.f4.length = ss.length := by rw [← el]; simp [RD.S]
  have h4 : y.f4 = ss.map tI := by
    apply List.ext_getElem (by simp [hl])
    intro i h1 h2
    have i1 : i < (RD.S (.list ss)).f4.length := by rw [el]; exact h1
    have ht := twin_get h i1 h1
    have e : (RD.S (.list ss)).f4[i]'i1 = tS (ss[i]'(by omega)) := by simp [RD.S]
    rw [e] at ht
    rw [twin_tS ht, List.getElem_map]
  cases y with
  | mk a b c d g =>
    have q0 : (4 : Int) = a := e0
    have q1 : (0 : Int) = b := e1
    have q2 : be = c := e2
    have q3 : [] = d := e3
    have q4 : g = ss.map tI := h4
    subst q0 q1 q2 q3 q4
    rfl
theorem wt_mem {x y : SV} (h : y ∈ x.f4) : wt y ≤ wt x := by
  have h1 : wt y ≤ (x.f4.map wt).sum := sum_mem (List.mem_map_of_mem h)
  have h2 := wt_eq x
  omega
theorem srv_list {z : SV} (hf : FineS z) (hw : wt z ≤ 1048576) (h4 : z.f0 = 4) (ha : allT z.f4 = true) : ∃ ss, z = RD.S (.list ss) ∧ ss.length ≤ 1048576 ∧ ∀ s ∈ ss, s.size ≤ 1048576 := by
  have hd : descr z = some (.list (z.f4.map (·.f2))) := by unfold descr; rw [if_neg (by omega), if_pos h4, ha]; rfl
  obtain ⟨h1, h2⟩ := descr_ok hf hw hd
  exact ⟨_, descr_tree hf hd, h1, h2⟩
theorem okTop_of {x : SV} (hf : FineS x) (hw : wt x ≤ 1048576) (ho : OkV x) {y : IV} (ht : Twin x y) : OkTop y ∧ ∀ (i : Nat) (h1 : i < y.f3.length) (h2 : i < y.f4.length), y.f3[i]'h1 = kSrv → ∀ z ∈ (y.f4[i]'h2).f4, ∀ (j : Nat) (j1 : j < z.f3.length) (j2 : j < z.f4.length), z.f3[j]'j1 = kEnv → ∀ ss, z.f4[j]'j2 = RD.I (.list ss) → ∀ s ∈ ss, s.size ≤ 1048576 := by
  obtain ⟨e0, _, _, e3, el⟩ := twin_f ht
  obtain ⟨_, _, hxl, _, hxfe⟩ := fineS_map hf ho.map
  have core : ∀ (i : Nat) (h1 : i < y.f3.length) (h2 : i < y.f4.length), y.f3[i]'h1 = kSrv → (y.f4[i]'h2).f0 = 5 ∧ ∀ z ∈ (y.f4[i]'h2).f4, z.f0 = 5 ∧ ∀ (j : Nat) (j1 : j < z.f3.length) (j2 : j < z.f4.length), z.f3[j]'j1 = kEnv → ∃ ss, z.f4[j]'j2 = RD.I (.list ss) ∧ ss.length ≤ 1048576 ∧ ∀ s ∈ ss, s.size ≤ 1048576 := by
    intro i h1 h2 e
    have i4 : i < x.f4.length := by rw [el]; exact h2
    have i3 : i < x.f3.length := by rw [e3]; exact h1
    obtain ⟨h5, hs⟩ := ho.srv i i3 i4 (by rw [← e]; simp only [e3])
    have hts := twin_get ht i4 h2
    have hfs := hxfe i i4
    obtain ⟨_, _, _, _, hsfe⟩ := fineS_map hfs h5
    have hws := wt_mem (List.getElem_mem i4)
    obtain ⟨s0, _, _, _, sl⟩ := twin_f hts
    refine ⟨s0.symm.trans h5, fun z hz => ?_⟩
    obtain ⟨k, k2, rfl⟩ := List.mem_iff_getElem.1 hz
    have k1 : k < (x.f4[i]'i4).f4.length := by rw [sl]; exact k2
    have hk := hs _ (List.getElem_mem k1)
    have htk := twin_get hts k1 k2
    have hfk := hsfe k k1
    have hwk := wt_mem (List.getElem_mem k1)
    obtain ⟨z0, _, _, z3, zl⟩ := twin_f htk
    obtain ⟨_, _, hkl, _, hkfe⟩ := fineS_map hfk hk.map
    refine ⟨z0.symm.trans hk.map, fun j j1 j2 ej => ?_⟩
    have q4 : j < ((x.f4[i]'i4).f4[k]'k1).f4.length := by rw [zl]; exact j2
    have q3 : j < ((x.f4[i]'i4).f4[k]'k1).f3.length := by rw [z3]; exact j1
    obtain ⟨a4, at4⟩ := hk.env j q3 q4 (by rw [← ej]; simp only [z3])
    have hwj := wt_mem (List.getElem_mem q4)
    obtain ⟨ss, hss, hb, hsz⟩ := srv_list (hkfe j q4) (by omega) a4 at4
    have htj := twin_get htk q4 j2
    rw [hss] at htj
    exact ⟨ss, twin_listS htj, hb, hsz⟩
  have hnk : ∀ k, ¬ topKey k → k ∉ y.f3 := fun k hk hm => hk (ho.keys k (by rw [e3]; exact hm))
  refine ⟨⟨e0.symm.trans ho.map, fun i h1 h2 e => ?_, by rw [← e3]; exact ho.has, hnk _ (topKey_not (by decide) (by decide)), hnk _ (topKey_not (by decide) (by decide)), hnk _ (topKey_not (by decide) (by decide))⟩, fun i h1 h2 e z hz j j1 j2 ej ss hss => ?_⟩
  · obtain ⟨h5, hz⟩ := core i h1 h2 e
    refine ⟨h5, fun z hzm => ?_⟩
    obtain ⟨z5, hj⟩ := hz z hzm
    exact ⟨z5, fun j j1 j2 ej => by
      obtain ⟨ss, a1, a2, a3⟩ := hj j j1 j2 ej
      exact ⟨ss, a1, a2, fun s hs => Nat.le_trans (a3 s hs) (by decide)⟩⟩
  · obtain ⟨_, hz'⟩ := core i h1 h2 e
    obtain ⟨_, hj⟩ := hz' z hz
    obtain ⟨ss', a1, a2, a3⟩ := hj j j1 j2 ej
    rw [a1] at hss
    have : ss'.map tI = ss.map tI := congrArg S36.f4 hss
    have e : ss' = ss := by
      have := congrArg (List.map (fun t : IV => t.f2)) this
      simpa [List.map_map, Function.comp_def, tI] using this
    rw [← e]
    exact a3
theorem last_key {l : List U.SP} {n : ByteArray} {x : U.SP} (h : U.lastP l n = some x) : x.f0 = n := by
  revert h
  induction l using Ord.snocRec with
  | nil => intro h; simp [Ord.lastOf] at h
  | snoc l y ih =>
    intro h
    unfold U.lastP at h
    rw [Ord.lastOf_snoc] at h
    split at h
    · rename_i e; injection h with h; rw [← h]; exact e
    · exact ih h
theorem env_names {l : List U.SP} (h : ∀ p ∈ l, noQ p.f0) (k v : ByteArray) (hv : envE l k = some v) : noQ k := by
  unfold envE at hv
  obtain ⟨p, hp, _⟩ := Option.map_eq_some_iff.1 hv
  rw [← last_key hp]
  exact h p (U.last_mem hp)
/-- the thin package's call, from one tree to another -/
def RenC (t z : IV) (l : List U.SP) : Prop := ∀ (v : Value) (W : World) (A : Option Addr) (c : Nat), MadeI t W v → (l.map U.sI).length ≤ c → Kd.C k69 W A (l.map U.sI).length (l.map U.sI) → Calls Tryd.prog 17 #[v, .slice A l.length c] W fun e w' => (∃ u, e = .returned u ∧ FreshI z W w' u) ∧ Below W.heap.size W w'
theorem RenC.use {t z : IV} {l : List U.SP} (h : RenC t z l) {v : Value} {W : World} {A : Option Addr} {c : Nat} (hv : MadeI t W v) (hc : (l.map U.sI).length ≤ c) (hr : Kd.C k69 W A (l.map U.sI).length (l.map U.sI)) : Calls Tryd.prog 17 #[v, .slice A l.length c] W fun e w' => (∃ u, e = .returned u ∧ FreshI z W w' u) ∧ Below W.heap.size W w' := h v W A c hv hc hr
theorem env_putsE (l : List U.SP) : envM (U.putsP (l.map U.sI)) = envE l := by
  funext k
  exact U.look_puts l k
theorem ren_c {t : IV} (hf : Fine t) (ho : OkTop t) (l : List U.SP) (hl : l.length ≤ 1048576) (hvs : ∀ k v, envE l k = some v → v.size ≤ 1048576) : RenC t (topI (envE l) t) l := by
  intro v W A c hv hc hr
  have e := env_putsE l
  have := impl_ResolveEnvironment (l.map U.sI) (by simpa using hl) (fun k v hv => hvs k v (by rw [← e]; exact hv)) hf ho hv A c hr hc
  rw [e, List.length_map] at this
  exact this
theorem ren_facts {y : SV} (hfy : FineS y) (hw : wt y ≤ 1048576) (l : List U.SP) (hl : l.length ≤ 1048576) (hvs : ∀ k v, envE l k = some v → v.size ≤ 1048576) (ho : OkV y) (hn : ∀ p ∈ l, noQ p.f0) : ∃ y0 t : IV, Twin y y0 ∧ Twin (topS (envE l) y) t ∧ RenC y0 t l ∧ RenC t t l := by
  obtain ⟨y0, ht, hf⟩ := hfy.twin
  obtain ⟨hok, hsz⟩ := okTop_of hfy hw ho ht
  have hok2 := okTop_top (E := envE l) hvs hf hok hsz
  have hf2 := fine_top (E := envE l) hf hok
  refine ⟨y0, topI (envE l) y0, ht, twin_top ht hf hok, ren_c hf hok l hl hvs, ?_⟩
  have := ren_c hf2 hok2 l hl hvs
  rwa [topI_twice (env_names hn) hf hok] at this
theorem fits3_keys0 (l : List U.SP) (hl : l.length ≤ 2147483647) : ∀ n i, n = l.length - i → i ≤ l.length → laws_zzFits3.l0 (n + 1) l (l.length : Int) (i : Int) = some true → ∀ x ∈ l.drop i, x.f0.size ≤ 2147483647
  | 0, i, h, hi, _, x, hx => by
    rw [List.drop_of_length_le (by omega)] at hx; cases hx
  | n + 1, i, h, hi, hf, x, hx => by
    have hlt : i < l.length := by omega
    rw [laws_zzFits3.l0, if_pos (by omega), if_pos (by omega), if_pos (by omega), wrapT1 i (by omega), M.rd_get hlt] at hf
    cases h4 : laws_zzFits4.f l[i].f0 l[i].f1 with
    | none => rw [h4] at hf; cases hf
    | some b =>
      rw [h4] at hf
      cases b with
      | false => cases hf
      | true =>
        rw [List.drop_eq_getElem_cons hlt] at hx
        rcases List.mem_cons.1 hx with rfl | hx
        · exact (U.fits4_ok _ _ h4).1
        · exact fits3_keys0 l hl n (i + 1) (by omega) (by omega) (by simpa using hf) x hx
theorem law_fits3K (l : List U.SP) (hl : l.length ≤ 2147483647) (A0 : Option Addr) (c0 : Nat) (w : World) (hr : Kd.C k51 w A0 l.length l) (hc : l.length ≤ c0) : Calls Tryd.prog 6 #[.slice A0 l.length c0] w fun e w' => (∃ r, e = .returned (.bool r) ∧ (r = true → ∀ p ∈ l, p.f0.size ≤ 2147483647)) ∧ Below w.heap.size w w' := by
  obtain ⟨r, h⟩ := fits3_l0 l hl l.length 0 (by omega) (by omega)
  refine (laws_zzFits3.calls (l.length + 1) A0 c0 l r w hr hc ?_).mono ?_
  · unfold laws_zzFits3.f
    rw [if_neg (by omega)]
    exact h
  · rintro e w' ⟨rfl, hb⟩
    refine ⟨⟨r, rfl, fun hrt => ?_⟩, hb⟩
    subst hrt
    have := fits3_keys0 l hl l.length 0 (by omega) (by omega) h
    simpa using this
end Go.Proofs.YtgeamhmenmomhaaDoor.A
/- The walk of the law on ResolveEnvironment (printed by gen_envlaw.py). -/
namespace Go.Proofs.YtgeamhmenmomhaaDoor.A
set_option linter.unusedVariables false
set_option linter.unusedSimpArgs false
set_option linter.unusedSectionVars false
open Go.RowKit Go.Proofs.YtgeamhmenmomhaaDoorW.PrintWords Go.Proofs.YtgeamhmenmomhaaDoorW.PrintLast Go.Proofs.YtgeamhmenmomhaaDoorW.PrintMore Go.Proofs.YtgeamhmenmomhaaDoor.PT Go.Proofs.YtgeamhmenmomhaaDoor.L Go.Proofs.YtgeamhmenmomhaaDoor.SM

theorem env_valE {l : List U.SP} (h : ∀ p ∈ l, p.f1.size ≤ 1048576) (k v : ByteArray) (hv : envE l k = some v) : v.size ≤ 1048576 := by
  unfold envE at hv
  obtain ⟨p, hp, rfl⟩ := Option.map_eq_some_iff.1 hv
  exact h p (U.last_mem hp)
set_option maxHeartbeats 4000000 in
set_option maxRecDepth 100000 in
theorem law_ResolveEnvironment {x : SV} (hx : Bnd x) (hw : wt x ≤ 1048576) {v : Value} {w : World} (hv : MadeS x w v) (l : List U.SP) (A0 : Option Addr) (c0 : Nat) (hr0 : Kd.C k51 w A0 l.length l) (hc0 : l.length ≤ c0) (hl : l.length ≤ 1048576) (hvs : ∀ p ∈ l, p.f1.size ≤ 1048576) :
    Calls Tryd.prog 4 #[v, .slice A0 l.length c0] w fun e w' => e = .returned (.bool true) ∧ Below w.heap.size w w' := by
  obtain ⟨A3, c3, A4, c4, rfl, p3, g3, p4, g4⟩ := hv
  obtain ⟨W0, hW0⟩ : ∃ W0 : World, W0 = w.alloc (Obj.cells #[.int .i64 x.f0, .int .i64 x.f1, .string x.f2, .slice A3 x.f3.length c3, .slice A4 x.f4.length c4] 25) := ⟨_, rfl⟩
  have hb0 : Below w.heap.size w W0 := by rw [hW0]; exact (Below.refl _ _).alloc (Nat.le_refl _) _
  have hbx : W0.heap[w.heap.size]? = some (.cells #[.int .i64 x.f0, .int .i64 x.f1, .string x.f2, .slice A3 x.f3.length c3, .slice A4 x.f4.length c4] 25 (0, 0)) := by rw [hW0]; exact new_atI rfl
  have HX : Aside0 (MadeS x W0 (cellsS x A3 c3 A4 c4)) := ⟨A3, c3, A4, c4, rfl, p3, Kd.C_below g3 hb0, p4, Kd.C_below g4 hb0⟩
  have HR0 := Aside0.mk hr0
  have HF3 := Lib.hid (fun (W : World) (h : Kd.C k51 W A0 l.length l) => law_fits3K l (by omega) A0 c0 W h hc0)
  have HFP := Lib.hid (fun (W : World) (h : Kd.C k51 W A0 l.length l) => law_fitP l hl A0 c0 W h hc0)
  obtain ⟨l', hl'⟩ : ∃ l', l' = M.fitP l := ⟨_, rfl⟩
  have HSUB : Hid (∀ p ∈ l', p ∈ l) := Lib.hid (fun p hp => U.fitP_sub l p (by rw [← hl']; exact hp))
  have HLL : Hid (l'.length ≤ 1048576) := Lib.hid (by rw [hl']; exact Nat.le_trans (Ord.fit_length _) hl)
  have HVS : Hid (∀ k v, envE l' k = some v → v.size ≤ 1048576) := Lib.hid (fun k v hv => env_valE (fun p hp => hvs p (U.fitP_sub l p (by rw [← hl']; exact hp))) k v hv)
  rw [← hl'] at HFP
  have HB0 := Aside0.mk hb0
  have HBX := Aside0.mk hbx
  have HW0 := Lib.hid hW0
  have HS0 : Hid (w.heap.size < W0.heap.size) := Lib.hid (by rw [hW0]; simp)
  have HBN := Lib.hid hx
  have HWT := Lib.hid hw
  have m0 : W0.cell? ⟨w.heap.size, 0, none⟩ = some (.int .i64 x.f0) := (blk_cell hbx 0).trans rfl
  have m1 : W0.cell? ⟨w.heap.size, 1, none⟩ = some (.int .i64 x.f1) := (blk_cell hbx 1).trans rfl
  have m2 : W0.cell? ⟨w.heap.size, 2, none⟩ = some (.string x.f2) := (blk_cell hbx 2).trans rfl
  have m3 : W0.cell? ⟨w.heap.size, 3, none⟩ = some (.slice A3 x.f3.length c3) := (blk_cell hbx 3).trans rfl
  have m4 : W0.cell? ⟨w.heap.size, 4, none⟩ = some (.slice A4 x.f4.length c4) := (blk_cell hbx 4).trans rfl
  clear hb0 hW0 hbx p3 g3 p4 g4 hx hw hr0 hc0 hl hvs hl'
  go_enter Tryd.func4, Tryd.ntmps4
  go_upto_region 1 with fail
  rw [← HW0.out]
  go_wp2_with fail
  refine (law_fits1 (v := cellsS x A3 c3 A4 c4) HX.out).mono ?_
  clear m0 m1 m2 m3 m4
  rintro e w1 ⟨⟨r, rfl⟩, hb1⟩
  have HX1 := Aside0.mk (HX.out.below_ hb1)
  have HB1 := Aside0.mk (HB0.out.trans (hb1.mono HB0.out.size))
  have HBX1 := Aside0.mk (blk_below HBX.out hb1)
  have HS1 : Hid (w.heap.size < w1.heap.size) := Lib.hid (Nat.lt_of_lt_of_le HS0.out hb1.size)
  clear hb1
  cases r with
  | false =>
    go_wp2
    go_ret
    exact ⟨rfl, HB1.out⟩
  | true =>
    go_wp2_with fail
    refine (HF3.out w1 (Kd.C_below HR0.out HB1.out)).mono ?_
    rintro e w2 ⟨⟨r, rfl, hkz⟩, hb2⟩
    have HKZ : Hid (r = true → ∀ p ∈ l', p.f0.size ≤ 2147483647) := Lib.hid (fun h p hp => hkz h p (HSUB.out p hp))
    clear hkz
    have HX2 := Aside0.mk (HX1.out.below_ hb2)
    have HB2 := Aside0.mk (HB1.out.trans (hb2.mono HB1.out.size))
    have hbx2 := blk_below HBX1.out hb2
    have HBX2 := Aside0.mk hbx2
    have HS2 : Hid (w.heap.size < w2.heap.size) := Lib.hid (Nat.lt_of_lt_of_le HS1.out hb2.size)
    have m0 : w2.cell? ⟨w.heap.size, 0, none⟩ = some (.int .i64 x.f0) := (blk_cell hbx2 0).trans rfl
    have m1 : w2.cell? ⟨w.heap.size, 1, none⟩ = some (.int .i64 x.f1) := (blk_cell hbx2 1).trans rfl
    have m2 : w2.cell? ⟨w.heap.size, 2, none⟩ = some (.string x.f2) := (blk_cell hbx2 2).trans rfl
    have m3 : w2.cell? ⟨w.heap.size, 3, none⟩ = some (.slice A3 x.f3.length c3) := (blk_cell hbx2 3).trans rfl
    have m4 : w2.cell? ⟨w.heap.size, 4, none⟩ = some (.slice A4 x.f4.length c4) := (blk_cell hbx2 4).trans rfl
    clear hb2 hbx2
    cases r with
    | false =>
      go_wp2
      go_ret
      exact ⟨rfl, HB2.out⟩
    | true =>
      go_wp2_with fail
      refine (law_fit HBN.out (v := cellsS x A3 c3 A4 c4) HX2.out).mono ?_
      clear m0 m1 m2 m3 m4
      rintro e w3 ⟨y, u, rfl, hfy, hwy, hmy, hky, hb3⟩
      obtain ⟨B3, d3, B4, d4, rfl, _, _, _, _⟩ := hmy
      have HB3 := Aside0.mk (HB2.out.trans (hb3.mono HB2.out.size))
      have HBX3 := Aside0.mk (blk_below HBX2.out hb3)
      have HKY := Lib.hid hky
      have HFY := Lib.hid hfy
      have HWY : Hid (wt y ≤ 1048576) := Lib.hid (Nat.le_trans hwy HWT.out)
      have HS3 : Hid (w2.heap.size ≤ w3.heap.size) := Lib.hid hb3.size
      clear hfy hwy hky hb3
      go_wp2_with fail
      refine (HFP.out w3 (Kd.C_below HR0.out HB3.out)).mono ?_
      rintro e w4 ⟨A1, c1, rfl, hR, hb4⟩
      have hbx4 := blk_below HBX3.out hb4
      obtain ⟨W5, hW5⟩ : ∃ W5 : World, W5 = (((((w4.setCell ⟨w.heap.size, 0, none⟩ (.int .i64 y.f0)).setCell ⟨w.heap.size, 1, none⟩ (.int .i64 y.f1)).setCell ⟨w.heap.size, 2, none⟩ (.string y.f2)).setCell ⟨w.heap.size, 3, none⟩ (.slice B3 y.f3.length d3)).setCell ⟨w.heap.size, 4, none⟩ (.slice B4 y.f4.length d4)) := ⟨_, rfl⟩
      have hbx5 : W5.heap[w.heap.size]? = some (.cells #[.int .i64 y.f0, .int .i64 y.f1, .string y.f2, .slice B3 y.f3.length d3, .slice B4 y.f4.length d4] 25 (0, 0)) := by rw [hW5]; exact box5 hbx4 _ _ _ _ _
      have HY5 : Aside0 (MadeS y W5 (cellsS y B3 d3 B4 d4)) := ⟨HKY.out _ (fun k hk hlt => by
        rw [hW5, far5 (by have := HS2.out; omega)]
        exact hb4.block k hlt)⟩
      have HR5 : Aside0 (l'.length ≤ c1 ∧ Kd.C k51 W5 A1 l'.length l') := ⟨by
        rw [hW5]
        have := Kd.R_reads' (R_far5 (Kd.R_bound hR) w.heap.size (fun k hk => by have h1 := hk.2.1; have h2 := HS2.out; have h3 := HS3.out; omega) (.int .i64 y.f0) (.int .i64 y.f1) (.string y.f2) (.slice B3 y.f3.length d3) (.slice B4 y.f4.length d4))
        exact ⟨this.2.1, this.2.2⟩⟩
      have HB5 : Aside0 (Below w.heap.size w W5) := ⟨by rw [hW5]; exact below5 (HB3.out.trans (hb4.mono HB3.out.size)) _ (Nat.le_refl _) _ _ _ _ _⟩
      have HBX5 := Aside0.mk hbx5
      have HW5 := Lib.hid hW5
      have n0 : w4.cell? ⟨w.heap.size, 0, none⟩ = some (.int .i64 x.f0) := (blk_cell hbx4 0).trans rfl
      have n1 : w4.cell? ⟨w.heap.size, 1, none⟩ = some (.int .i64 x.f1) := (blk_cell hbx4 1).trans rfl
      have n2 : w4.cell? ⟨w.heap.size, 2, none⟩ = some (.string x.f2) := (blk_cell hbx4 2).trans rfl
      have n3 : w4.cell? ⟨w.heap.size, 3, none⟩ = some (.slice A3 x.f3.length c3) := (blk_cell hbx4 3).trans rfl
      have n4 : w4.cell? ⟨w.heap.size, 4, none⟩ = some (.slice A4 x.f4.length c4) := (blk_cell hbx4 4).trans rfl
      have f0 := blk_frozen hbx4 0
      have f1 := blk_frozen hbx4 1
      have f2 := blk_frozen hbx4 2
      have f3 := blk_frozen hbx4 3
      have f4 := blk_frozen hbx4 4
      clear hR hb4 hbx4 hW5 hbx5
      unfold cellsS
      go_upto_region 4 with fail
      rw [← HW5.out]
      clear n0 n1 n2 n3 n4 f0 f1 f2 f3 f4
      have q0 : W5.cell? ⟨w.heap.size, 0, none⟩ = some (.int .i64 y.f0) := (blk_cell HBX5.out 0).trans rfl
      have q1 : W5.cell? ⟨w.heap.size, 1, none⟩ = some (.int .i64 y.f1) := (blk_cell HBX5.out 1).trans rfl
      have q2 : W5.cell? ⟨w.heap.size, 2, none⟩ = some (.string y.f2) := (blk_cell HBX5.out 2).trans rfl
      have q3 : W5.cell? ⟨w.heap.size, 3, none⟩ = some (.slice B3 y.f3.length d3) := (blk_cell HBX5.out 3).trans rfl
      have q4 : W5.cell? ⟨w.heap.size, 4, none⟩ = some (.slice B4 y.f4.length d4) := (blk_cell HBX5.out 4).trans rfl
      go_wp2_with fail
      refine (spec_ResolveEnvironment HFY.out HWY.out l' A1 c1 HLL.out HVS.out (HKZ.out (by first | rfl | trivial)) HY5.out HR5.out.2 HR5.out.1).mono ?_
      clear q0 q1 q2 q3 q4
      rintro e w6 ⟨r, said, rfl, hb6, hs⟩
      have HB6 := Aside0.mk (HB5.out.trans (hb6.mono HB5.out.size))
      have HBX6 := Aside0.mk (blk_below HBX5.out hb6)
      have HY6 := Aside0.mk (HY5.out.below_ hb6)
      have HR6 := Aside0.mk (Kd.C_below HR5.out.2 hb6)
      unfold RV.val
      cases said with
      | false =>
        clear hs hb6
        go_wp2_with fail
        refine (normAwake _).mono ?_
        rintro e w7 ⟨rfl, hb7⟩
        have HB7 := Aside0.mk (below_then (HB6.out.alloc HB6.out.size _) (HB6.out.alloc HB6.out.size _).size hb7)
        go_wp2
        go_ret
        exact ⟨rfl, HB7.out⟩
      | true =>
        obtain ⟨hok, hnm, hmade⟩ := hs rfl
        obtain ⟨y0, t, htw, htt, hc1, hc2⟩ := ren_facts HFY.out HWY.out l' HLL.out HVS.out hok hnm
        obtain ⟨z, hz⟩ : ∃ z, z = topS (envE l') y := ⟨_, rfl⟩
        rw [← hz] at hmade htt
        have HTW := Lib.hid htw
        have HTT := Lib.hid htt
        have HC1 := Lib.hid hc1
        have HC2 := Lib.hid hc2
        have HMD := Aside0.mk hmade
        obtain ⟨W7, hW7⟩ : ∃ W7 : World, W7 = w6.alloc (Obj.cells #[.int .i64 r.n0, .int .i64 r.n1, .string r.t, .slice r.A r.an r.ac, .slice r.B r.bn r.bc] 25) := ⟨_, rfl⟩
        have hb7 : Below w6.heap.size w6 W7 := by rw [hW7]; exact (Below.refl _ _).alloc (Nat.le_refl _) _
        obtain ⟨b7, hb7e⟩ : ∃ b7, b7 = w6.heap.size := ⟨_, rfl⟩
        have hw7 : W7.heap[b7]? = some (.cells #[.int .i64 r.n0, .int .i64 r.n1, .string r.t, .slice r.A r.an r.ac, .slice r.B r.bn r.bc] 25 (0, 0)) := by rw [hW7, hb7e]; exact new_atI rfl
        have HB7 := Aside0.mk (below_then HB6.out HB6.out.size hb7)
        have HWB7 := Aside0.mk hw7
        have HW7 := Lib.hid hW7
        have HE7 := Lib.hid hb7e
        have HY7 := Aside0.mk (HY6.out.below_ hb7)
        have HR7 := Aside0.mk (Kd.C_below HR6.out hb7)
        have HMD7 := Aside0.mk (HMD.out.below_ hb7)
        have hbx7 := blk_below HBX6.out hb7
        have q0 : W7.cell? ⟨w.heap.size, 0, none⟩ = some (.int .i64 y.f0) := (blk_cell hbx7 0).trans rfl
        have q1 : W7.cell? ⟨w.heap.size, 1, none⟩ = some (.int .i64 y.f1) := (blk_cell hbx7 1).trans rfl
        have q2 : W7.cell? ⟨w.heap.size, 2, none⟩ = some (.string y.f2) := (blk_cell hbx7 2).trans rfl
        have q3 : W7.cell? ⟨w.heap.size, 3, none⟩ = some (.slice B3 y.f3.length d3) := (blk_cell hbx7 3).trans rfl
        have q4 : W7.cell? ⟨w.heap.size, 4, none⟩ = some (.slice B4 y.f4.length d4) := (blk_cell hbx7 4).trans rfl
        clear hs hok hnm hmade htw htt hc1 hc2 hz hb6 hW7 hb7 hb7e hw7 hbx7
        go_upto_region 5 with fail
        rw [← HW7.out, ← HE7.out]
        go_wp2_with fail
        refine (law_to HTW.out HY7.out).mono ?_
        clear q0 q1 q2 q3 q4
        rintro e w8 ⟨⟨u8, rfl, hu8⟩, hb8⟩
        have HK8 := Aside0.mk hb8
        have HU8 := Aside0.mk hu8
        clear hb8 hu8
        go_wp2_with fail
        refine (law_pairsTo l' HLL.out A1 c1 w8 (Kd.C_below HR7.out HK8.out) HR5.out.1).mono ?_
        rintro e w9 ⟨A9, c9, rfl, hc9, hr9, hb9⟩
        have HK9 := Aside0.mk (below_then HK8.out HK8.out.size hb9)
        have HU9 := Aside0.mk (HU8.out.below_ hb9)
        have HR9 := Aside0.mk (And.intro hc9 hr9)
        clear hb9 hc9 hr9
        go_wp2_with fail
        refine (HC1.out.use HU9.out HR9.out.1 HR9.out.2).mono ?_
        rintro e w10 ⟨⟨u10, rfl, hu10⟩, hb10⟩
        obtain ⟨E3, a3, E4, a4, rfl, i3, j3, i4, j4⟩ := hu10.made
        obtain ⟨W11, hW11⟩ : ∃ W11 : World, W11 = w10.alloc (Obj.cells #[.int .i64 t.f0, .int .i64 t.f1, .string t.f2, .slice E3 t.f3.length a3, .slice E4 t.f4.length a4] 36) := ⟨_, rfl⟩
        have hk11 : Below W7.heap.size W7 W11 := by rw [hW11]; exact (below_then HK9.out HK9.out.size hb10).alloc (Nat.le_trans HK9.out.size hb10.size) _
        obtain ⟨b11, hb11e⟩ : ∃ b11, b11 = w10.heap.size := ⟨_, rfl⟩
        have hg11 : W11.heap[b11]? = some (.cells #[.int .i64 t.f0, .int .i64 t.f1, .string t.f2, .slice E3 t.f3.length a3, .slice E4 t.f4.length a4] 36 (0, 0)) := by rw [hW11, hb11e]; exact new_atI rfl
        have HT11 : Aside0 (MadeI t W11 (cellsI t E3 a3 E4 a4)) := ⟨MadeI.below_ ⟨E3, a3, E4, a4, rfl, i3, j3, i4, j4⟩ (by rw [hW11]; exact (Below.refl _ _).alloc (Nat.le_refl _) _)⟩
        have hw11 := blk_below HWB7.out hk11
        have HR11 := Aside0.mk (Kd.C_below HR7.out hk11)
        have HMD11 := Aside0.mk (HMD7.out.below_ hk11)
        have HB11 := Aside0.mk (below_then HB7.out HB7.out.size hk11)
        have HGX11 := Aside0.mk hg11
        have HWX11 := Aside0.mk hw11
        have HW11 := Lib.hid hW11
        have HE11 := Lib.hid hb11e
        have o0 : W11.cell? ⟨b11, 0, none⟩ = some (.int .i64 t.f0) := (blk_cell hg11 0).trans rfl
        have o1 : W11.cell? ⟨b11, 1, none⟩ = some (.int .i64 t.f1) := (blk_cell hg11 1).trans rfl
        have o2 : W11.cell? ⟨b11, 2, none⟩ = some (.string t.f2) := (blk_cell hg11 2).trans rfl
        have o3 : W11.cell? ⟨b11, 3, none⟩ = some (.slice E3 t.f3.length a3) := (blk_cell hg11 3).trans rfl
        have o4 : W11.cell? ⟨b11, 4, none⟩ = some (.slice E4 t.f4.length a4) := (blk_cell hg11 4).trans rfl
        clear hb10 i3 j3 i4 j4 hW11 hk11 hb11e hg11 hw11
        unfold cellsI
        go_upto_region 8 with fail
        rw [← HW11.out, ← HE11.out]
        have HT11u : Aside0 (MadeI t W11 (.agg #[.int .i64 t.f0, .int .i64 t.f1, .string t.f2, .slice E3 t.f3.length a3, .slice E4 t.f4.length a4])) := HT11
        refine start_ (n := 6) (S := fun w' => w'.cell? ⟨b11, 0, none⟩ = some (.int .i64 t.f0) ∧ w'.cell? ⟨b11, 1, none⟩ = some (.int .i64 t.f1) ∧ w'.cell? ⟨b11, 2, none⟩ = some (.string t.f2) ∧ w'.cell? ⟨b11, 3, none⟩ = some (.slice E3 t.f3.length a3) ∧ w'.cell? ⟨b11, 4, none⟩ = some (.slice E4 t.f4.length a4)) (ds := [5]) #[false, false, false, false, false, false] (by kernel_rfl) rfl rfl ⟨o0, o1, o2, o3, o4⟩ (fun hHeld => ?_)
        refine pure_ (i := 1) (N := some 36) (v := ?_) (a' := ?_) #[false, true, false, false, false, false] rfl rfl (by kernel_rfl) (fun _ _ _ h => h) (Or.inl ⟨by rfl, ?_⟩) ?_ ?_
        rotate_left
        · intro w'
          go_simp
          with_reducible rfl
        rotate_left
        · simp only [Act.put, List.setIfInBounds_toArray, List.set_cons_zero, List.set_cons_succ, i64_w, i32_w]
          rfl
        refine take_ (i := 0) (N := some 35) (v := ?_) (a' := ?_) #[true, true, false, false, false, false] rfl rfl (by kernel_rfl) (fun _ _ _ h => h) (Or.inl ⟨by rfl, ?_⟩) hHeld ?_ ?_
        rotate_left
        · rintro w' ⟨s0, s1, s2, s3, s4⟩
          go_simp
          with_reducible rfl
        rotate_left
        · simp only [Act.put, List.setIfInBounds_toArray, List.set_cons_zero, List.set_cons_succ, i64_w, i32_w]
          rfl
        refine join_ (σ := (Option Addr × Nat) × (Option Addr × Nat) × (Option Addr × Nat) × Nat) 1 #[true, true, true, true, true, false] (fun s => [(37, .slice s.1.1 l'.length s.1.2), (38, .agg #[.int .i64 t.f0, .int .i64 t.f1, .string t.f2, .slice s.2.1.1 t.f3.length s.2.1.2, .slice s.2.2.1.1 t.f4.length s.2.2.1.2]), (8, .pointer (some ⟨s.2.2.2, 0, none⟩))]) (fun s w' => Below W11.heap.size W11 w' ∧ w'.heap[s.2.2.2]? = some (Obj.cells zV 36 (0, 0)) ∧ (∀ W' : World, w'.grownBy W' (some s.2.2.2) → MadeI t W' (.agg #[.int .i64 t.f0, .int .i64 t.f1, .string t.f2, .slice s.2.1.1 t.f3.length s.2.1.2, .slice s.2.2.1.1 t.f4.length s.2.2.1.2])) ∧ W11.heap.size ≤ s.2.2.2) ?_ ?_
        rotate_left
        · intro hCont
          refine two_ (i := 2) (j := 4) (Ni := some 37) (Nj := some 8) #[true, true, true, false, false, false] #[true, true, false, false, true, false] rfl rfl rfl rfl (by kernel_rfl) (by decide) (by decide) (fun K hK => ?_) (fun K hK => ?_)
          · skip
            refine goes_ Tryd.func13 (by kernel_rfl) rfl #[.slice A1 l'.length c1] (by rfl) rfl rfl (by simp only [List.map_toArray, List.map_cons, List.map_nil]; rfl) ?_
            with_reducible refine (law_pairsTo l' HLL.out A1 c1 W11.drew (Kd.C_below HR11.out (below_drew1 (Below.refl W11.heap.size W11))) HR5.out.1).mono ?_
            rintro e w12 ⟨A12, c12, rfl, hc12, hr12, hb12⟩
            refine ⟨_, rfl, ?_⟩
            have hbb12 : Below W11.heap.size W11 w12 := below_un hb12
            have HC12 := Aside0.mk hbb12
            have HRR := Aside0.mk (And.intro hc12 hr12)
            clear hb12 hbb12 hc12 hr12
            refine hK.out _ _ ⟨(HC12.out.cell (World.block_lt_of_cell? W11 _ o0)).trans o0, (HC12.out.cell (World.block_lt_of_cell? W11 _ o1)).trans o1, (HC12.out.cell (World.block_lt_of_cell? W11 _ o2)).trans o2, (HC12.out.cell (World.block_lt_of_cell? W11 _ o3)).trans o3, (HC12.out.cell (World.block_lt_of_cell? W11 _ o4)).trans o4⟩ (fun hHeld => ?_)
            clear hK K
            refine norm_ (a' := ?_) ?_ ?_
            rotate_left
            · show Act.put _ (some 37) _ = _
              simp only [Act.put, List.setIfInBounds_toArray, List.set_cons_zero, List.set_cons_succ, i64_w, i32_w]
              rfl
            refine two_ (i := 3) (j := 4) (Ni := some 38) (Nj := some 8) #[true, true, true, true, false, false] #[true, true, true, false, true, false] rfl rfl rfl rfl (by kernel_rfl) (by decide) (by decide) (fun K hK => ?_) (fun K hK => ?_)
            · skip
              refine goes_ Tryd.func17 (by kernel_rfl) rfl #[.agg #[.int .i64 t.f0, .int .i64 t.f1, .string t.f2, .slice E3 t.f3.length a3, .slice E4 t.f4.length a4], .slice A12 l'.length c12] (by rfl) rfl rfl (by simp only [List.map_toArray, List.map_cons, List.map_nil]; rfl) ?_
              with_reducible refine (HC2.out.use (W := w12) (HT11u.out.below_ HC12.out) HRR.out.1 HRR.out.2).mono ?_
              rintro e w13 ⟨⟨_, rfl, F3, b3, F4, b4, rfl, p3, p4⟩, hb13⟩
              refine ⟨_, rfl, ?_⟩
              have hbb13 : Below W11.heap.size W11 w13 := below_then HC12.out HC12.out.size hb13
              have HC13 := Aside0.mk hbb13
              have HM13 : Aside0 (MadeI t w13 (.agg #[.int .i64 t.f0, .int .i64 t.f1, .string t.f2, .slice F3 t.f3.length b3, .slice F4 t.f4.length b4])) := ⟨fresh_kept p3 p4 (fun _ _ _ => rfl)⟩
              clear hb13 hbb13 p3 p4
              refine hK.out _ _ ⟨(HC13.out.cell (World.block_lt_of_cell? W11 _ o0)).trans o0, (HC13.out.cell (World.block_lt_of_cell? W11 _ o1)).trans o1, (HC13.out.cell (World.block_lt_of_cell? W11 _ o2)).trans o2, (HC13.out.cell (World.block_lt_of_cell? W11 _ o3)).trans o3, (HC13.out.cell (World.block_lt_of_cell? W11 _ o4)).trans o4⟩ (fun hHeld => ?_)
              clear hK K
              refine norm_ (a' := ?_) ?_ ?_
              rotate_left
              · show Act.put _ (some 38) _ = _
                simp only [Act.put, List.setIfInBounds_toArray, List.set_cons_zero, List.set_cons_succ, i64_w, i32_w]
                rfl
              refine one_ (i := 4) (N := some 8) #[true, true, true, true, true, false] rfl rfl (by kernel_rfl) (by decide) (fun K hK => ?_)
              refine value_ (w1 := ?_) (v := ?_) (by rfl) rfl ?_ ?_
              rotate_left 2
              · go_simp
                constructor
                · rfl
                · rfl
              have hba : Below W11.heap.size W11 (w13.alloc (Obj.cells #[.int .i64 0, .int .i64 0, .string ⟨#[]⟩, .slice none 0 0, .slice none 0 0] 36)) := (HC13.out).alloc (HC13.out).size _
              have HCA := Aside0.mk hba
              have HBZ0 : Aside0 ((w13.alloc (Obj.cells #[.int .i64 0, .int .i64 0, .string ⟨#[]⟩, .slice none 0 0, .slice none 0 0] 36)).heap[w13.heap.size]? = some (Obj.cells zV 36 (0, 0))) := ⟨new_atI rfl⟩
              have HBL0 : Hid (W11.heap.size ≤ w13.heap.size) := Lib.hid (HC13.out).size
              have HMK : Aside0 (∀ W' : World, (w13.alloc (Obj.cells #[.int .i64 0, .int .i64 0, .string ⟨#[]⟩, .slice none 0 0, .slice none 0 0] 36)).grownBy W' (some w13.heap.size) → MadeI t W' (.agg #[.int .i64 t.f0, .int .i64 t.f1, .string t.f2, .slice F3 t.f3.length b3, .slice F4 t.f4.length b4])) := ⟨fun W' hg => HM13.out.below_ (((Below.refl w13.heap.size w13).alloc (Nat.le_refl _) _).grown hg (by simp) (fun k e => by injection e with e; omega))⟩
              clear hba
              refine hK.out _ _ ⟨(HCA.out.cell (World.block_lt_of_cell? W11 _ o0)).trans o0, (HCA.out.cell (World.block_lt_of_cell? W11 _ o1)).trans o1, (HCA.out.cell (World.block_lt_of_cell? W11 _ o2)).trans o2, (HCA.out.cell (World.block_lt_of_cell? W11 _ o3)).trans o3, (HCA.out.cell (World.block_lt_of_cell? W11 _ o4)).trans o4⟩ (fun hHeld => ?_)
              clear hK K
              refine norm_ (a' := ?_) ?_ ?_
              rotate_left
              · show Act.put _ (some 8) _ = _
                simp only [Act.put, List.setIfInBounds_toArray, List.set_cons_zero, List.set_cons_succ, i64_w, i32_w]
                rfl
              exact norm_ (by simp only [putAll, Act.put, List.setIfInBounds_toArray, List.set_cons_zero, List.set_cons_succ]) (hCont ((A12, c12), (F3, b3), (F4, b4), w13.heap.size) _ ⟨HCA.out, HBZ0.out, HMK.out, HBL0.out⟩)
            · skip
              refine value_ (w1 := ?_) (v := ?_) (by rfl) rfl ?_ ?_
              rotate_left 2
              · go_simp
                constructor
                · rfl
                · rfl
              have hba : Below W11.heap.size W11 (w12.alloc (Obj.cells #[.int .i64 0, .int .i64 0, .string ⟨#[]⟩, .slice none 0 0, .slice none 0 0] 36)) := (HC12.out).alloc (HC12.out).size _
              have HCA := Aside0.mk hba
              have HBZ0 : Aside0 ((w12.alloc (Obj.cells #[.int .i64 0, .int .i64 0, .string ⟨#[]⟩, .slice none 0 0, .slice none 0 0] 36)).heap[w12.heap.size]? = some (Obj.cells zV 36 (0, 0))) := ⟨new_atI rfl⟩
              have HBL0 : Hid (W11.heap.size ≤ w12.heap.size) := Lib.hid (HC12.out).size
              clear hba
              refine hK.out _ _ ⟨(HCA.out.cell (World.block_lt_of_cell? W11 _ o0)).trans o0, (HCA.out.cell (World.block_lt_of_cell? W11 _ o1)).trans o1, (HCA.out.cell (World.block_lt_of_cell? W11 _ o2)).trans o2, (HCA.out.cell (World.block_lt_of_cell? W11 _ o3)).trans o3, (HCA.out.cell (World.block_lt_of_cell? W11 _ o4)).trans o4⟩ (fun hHeld => ?_)
              clear hK K
              refine norm_ (a' := ?_) ?_ ?_
              rotate_left
              · show Act.put _ (some 8) _ = _
                simp only [Act.put, List.setIfInBounds_toArray, List.set_cons_zero, List.set_cons_succ, i64_w, i32_w]
                rfl
              refine one_ (i := 3) (N := some 38) #[true, true, true, true, true, false] rfl rfl (by kernel_rfl) (by decide) (fun K hK => ?_)
              refine goes_ Tryd.func17 (by kernel_rfl) rfl #[.agg #[.int .i64 t.f0, .int .i64 t.f1, .string t.f2, .slice E3 t.f3.length a3, .slice E4 t.f4.length a4], .slice A12 l'.length c12] (by rfl) rfl rfl (by simp only [List.map_toArray, List.map_cons, List.map_nil]; rfl) ?_
              with_reducible refine (HC2.out.use (W := (w12.alloc (Obj.cells #[.int .i64 0, .int .i64 0, .string ⟨#[]⟩, .slice none 0 0, .slice none 0 0] 36))) (HT11u.out.below_ HCA.out) HRR.out.1 (Kd.C_below HRR.out.2 ((Below.refl _ _).alloc (Nat.le_refl _) _))).mono ?_
              rintro e w13 ⟨⟨_, rfl, F3, b3, F4, b4, rfl, p3, p4⟩, hb13⟩
              refine ⟨_, rfl, ?_⟩
              have hbb13 : Below W11.heap.size W11 w13 := below_then HCA.out HCA.out.size hb13
              have HC13 := Aside0.mk hbb13
              have HM13 : Aside0 (MadeI t w13 (.agg #[.int .i64 t.f0, .int .i64 t.f1, .string t.f2, .slice F3 t.f3.length b3, .slice F4 t.f4.length b4])) := ⟨fresh_kept p3 p4 (fun _ _ _ => rfl)⟩
              have HBZ1 := Aside0.mk (blk_below HBZ0.out hb13)
              have HBL1 := Lib.hid HBL0.out
              have HMK : Aside0 (∀ W' : World, w13.grownBy W' (some w12.heap.size) → MadeI t W' (.agg #[.int .i64 t.f0, .int .i64 t.f1, .string t.f2, .slice F3 t.f3.length b3, .slice F4 t.f4.length b4])) := ⟨fun W' hg => fresh_kept p3 p4 (fun k hk hlt => hg.block k hlt (fun e => by injection e with e; simp at hk; omega))⟩
              clear hb13 hbb13 p3 p4
              refine hK.out _ _ ⟨(HC13.out.cell (World.block_lt_of_cell? W11 _ o0)).trans o0, (HC13.out.cell (World.block_lt_of_cell? W11 _ o1)).trans o1, (HC13.out.cell (World.block_lt_of_cell? W11 _ o2)).trans o2, (HC13.out.cell (World.block_lt_of_cell? W11 _ o3)).trans o3, (HC13.out.cell (World.block_lt_of_cell? W11 _ o4)).trans o4⟩ (fun hHeld => ?_)
              clear hK K
              refine norm_ (a' := ?_) ?_ ?_
              rotate_left
              · show Act.put _ (some 38) _ = _
                simp only [Act.put, List.setIfInBounds_toArray, List.set_cons_zero, List.set_cons_succ, i64_w, i32_w]
                rfl
              exact norm_ (by simp only [putAll, Act.put, List.setIfInBounds_toArray, List.set_cons_zero, List.set_cons_succ]) (hCont ((A12, c12), (F3, b3), (F4, b4), w12.heap.size) _ ⟨HC13.out, HBZ1.out, HMK.out, HBL1.out⟩)
          · skip
            refine value_ (w1 := ?_) (v := ?_) (by rfl) rfl ?_ ?_
            rotate_left 2
            · go_simp
              constructor
              · rfl
              · rfl
            have hba : Below W11.heap.size W11 ((W11.alloc (Obj.cells #[.int .i64 0, .int .i64 0, .string ⟨#[]⟩, .slice none 0 0, .slice none 0 0] 36)).drew) := below_drew1 ((Below.refl W11.heap.size W11).alloc (Nat.le_refl _) _)
            have HCA := Aside0.mk hba
            have HBZ0 : Aside0 (((W11.alloc (Obj.cells #[.int .i64 0, .int .i64 0, .string ⟨#[]⟩, .slice none 0 0, .slice none 0 0] 36)).drew).heap[W11.heap.size]? = some (Obj.cells zV 36 (0, 0))) := ⟨new_atI rfl⟩
            have HBL0 : Hid (W11.heap.size ≤ W11.heap.size) := Lib.hid (Nat.le_refl _)
            clear hba
            refine hK.out _ _ ⟨(HCA.out.cell (World.block_lt_of_cell? W11 _ o0)).trans o0, (HCA.out.cell (World.block_lt_of_cell? W11 _ o1)).trans o1, (HCA.out.cell (World.block_lt_of_cell? W11 _ o2)).trans o2, (HCA.out.cell (World.block_lt_of_cell? W11 _ o3)).trans o3, (HCA.out.cell (World.block_lt_of_cell? W11 _ o4)).trans o4⟩ (fun hHeld => ?_)
            clear hK K
            refine norm_ (a' := ?_) ?_ ?_
            rotate_left
            · show Act.put _ (some 8) _ = _
              simp only [Act.put, List.setIfInBounds_toArray, List.set_cons_zero, List.set_cons_succ, i64_w, i32_w]
              rfl
            refine one_ (i := 2) (N := some 37) #[true, true, true, false, true, false] rfl rfl (by kernel_rfl) (by decide) (fun K hK => ?_)
            refine goes_ Tryd.func13 (by kernel_rfl) rfl #[.slice A1 l'.length c1] (by rfl) rfl rfl (by simp only [List.map_toArray, List.map_cons, List.map_nil]; rfl) ?_
            with_reducible refine (law_pairsTo l' HLL.out A1 c1 ((W11.alloc (Obj.cells #[.int .i64 0, .int .i64 0, .string ⟨#[]⟩, .slice none 0 0, .slice none 0 0] 36)).drew) (Kd.C_below HR11.out HCA.out) HR5.out.1).mono ?_
            rintro e w12 ⟨A12, c12, rfl, hc12, hr12, hb12⟩
            refine ⟨_, rfl, ?_⟩
            have hbb12 : Below W11.heap.size W11 w12 := below_then HCA.out HCA.out.size hb12
            have HC12 := Aside0.mk hbb12
            have HRR := Aside0.mk (And.intro hc12 hr12)
            have HBZ := Aside0.mk (blk_below HBZ0.out hb12)
            have HBL := Lib.hid HBL0.out
            have HLT12 : Hid (W11.heap.size < w12.heap.size) := Lib.hid (Nat.lt_of_lt_of_le (blk_lt HBZ0.out) hb12.size)
            clear hb12 hbb12 hc12 hr12
            refine hK.out _ _ ⟨(HC12.out.cell (World.block_lt_of_cell? W11 _ o0)).trans o0, (HC12.out.cell (World.block_lt_of_cell? W11 _ o1)).trans o1, (HC12.out.cell (World.block_lt_of_cell? W11 _ o2)).trans o2, (HC12.out.cell (World.block_lt_of_cell? W11 _ o3)).trans o3, (HC12.out.cell (World.block_lt_of_cell? W11 _ o4)).trans o4⟩ (fun hHeld => ?_)
            clear hK K
            refine norm_ (a' := ?_) ?_ ?_
            rotate_left
            · show Act.put _ (some 37) _ = _
              simp only [Act.put, List.setIfInBounds_toArray, List.set_cons_zero, List.set_cons_succ, i64_w, i32_w]
              rfl
            refine one_ (i := 3) (N := some 38) #[true, true, true, true, true, false] rfl rfl (by kernel_rfl) (by decide) (fun K hK => ?_)
            refine goes_ Tryd.func17 (by kernel_rfl) rfl #[.agg #[.int .i64 t.f0, .int .i64 t.f1, .string t.f2, .slice E3 t.f3.length a3, .slice E4 t.f4.length a4], .slice A12 l'.length c12] (by rfl) rfl rfl (by simp only [List.map_toArray, List.map_cons, List.map_nil]; rfl) ?_
            with_reducible refine (HC2.out.use (W := w12) (HT11u.out.below_ HC12.out) HRR.out.1 HRR.out.2).mono ?_
            rintro e w13 ⟨⟨_, rfl, F3, b3, F4, b4, rfl, p3, p4⟩, hb13⟩
            refine ⟨_, rfl, ?_⟩
            have hbb13 : Below W11.heap.size W11 w13 := below_then HC12.out HC12.out.size hb13
            have HC13 := Aside0.mk hbb13
            have HM13 : Aside0 (MadeI t w13 (.agg #[.int .i64 t.f0, .int .i64 t.f1, .string t.f2, .slice F3 t.f3.length b3, .slice F4 t.f4.length b4])) := ⟨fresh_kept p3 p4 (fun _ _ _ => rfl)⟩
            have HBZ1 := Aside0.mk (blk_below HBZ.out hb13)
            have HBL1 := Lib.hid HBL.out
            have HMK : Aside0 (∀ W' : World, w13.grownBy W' (some W11.heap.size) → MadeI t W' (.agg #[.int .i64 t.f0, .int .i64 t.f1, .string t.f2, .slice F3 t.f3.length b3, .slice F4 t.f4.length b4])) := ⟨fun W' hg => fresh_kept p3 p4 (fun k hk hlt => hg.block k hlt (fun e => by injection e with e; have := HLT12.out; omega))⟩
            clear hb13 hbb13 p3 p4
            refine hK.out _ _ ⟨(HC13.out.cell (World.block_lt_of_cell? W11 _ o0)).trans o0, (HC13.out.cell (World.block_lt_of_cell? W11 _ o1)).trans o1, (HC13.out.cell (World.block_lt_of_cell? W11 _ o2)).trans o2, (HC13.out.cell (World.block_lt_of_cell? W11 _ o3)).trans o3, (HC13.out.cell (World.block_lt_of_cell? W11 _ o4)).trans o4⟩ (fun hHeld => ?_)
            clear hK K
            refine norm_ (a' := ?_) ?_ ?_
            rotate_left
            · show Act.put _ (some 38) _ = _
              simp only [Act.put, List.setIfInBounds_toArray, List.set_cons_zero, List.set_cons_succ, i64_w, i32_w]
              rfl
            exact norm_ (by simp only [putAll, Act.put, List.setIfInBounds_toArray, List.set_cons_zero, List.set_cons_succ]) (hCont ((A12, c12), (F3, b3), (F4, b4), W11.heap.size) _ ⟨HC13.out, HBZ1.out, HMK.out, HBL1.out⟩)
        rintro ⟨⟨A12, c12⟩, ⟨F3, b3⟩, ⟨F4, b4⟩, b13⟩ w13 ⟨hb_, hx_, hm_, hl_⟩
        have HB13 := Aside0.mk hb_
        have HX13 : Aside0 (w13.heap[b13]? = some (Obj.cells zV 36 (0, 0))) := ⟨hx_⟩
        have HM13 : Aside0 (∀ W' : World, w13.grownBy W' (some b13) → MadeI t W' (.agg #[.int .i64 t.f0, .int .i64 t.f1, .string t.f2, .slice F3 t.f3.length b3, .slice F4 t.f4.length b4])) := ⟨hm_⟩
        have HL13 : Hid (W11.heap.size ≤ b13) := Lib.hid hl_
        have hHeld : w13.cell? ⟨b11, 0, none⟩ = some (.int .i64 t.f0) ∧ w13.cell? ⟨b11, 1, none⟩ = some (.int .i64 t.f1) ∧ w13.cell? ⟨b11, 2, none⟩ = some (.string t.f2) ∧ w13.cell? ⟨b11, 3, none⟩ = some (.slice E3 t.f3.length a3) ∧ w13.cell? ⟨b11, 4, none⟩ = some (.slice E4 t.f4.length a4) := ⟨(HB13.out.cell (World.block_lt_of_cell? W11 _ o0)).trans o0, (HB13.out.cell (World.block_lt_of_cell? W11 _ o1)).trans o1, (HB13.out.cell (World.block_lt_of_cell? W11 _ o2)).trans o2, (HB13.out.cell (World.block_lt_of_cell? W11 _ o3)).trans o3, (HB13.out.cell (World.block_lt_of_cell? W11 _ o4)).trans o4⟩
        clear hb_ hx_ hm_ hl_
        refine norm_ (a' := ?_) ?_ ?_
        rotate_left
        · simp only [putAll, Act.put, List.setIfInBounds_toArray, List.set_cons_zero, List.set_cons_succ]
          rfl
        refine last_ (i := 5) (N := none) #[true, true, true, true, true, true] rfl rfl (by kernel_rfl) (by decide) (fun K hK => ?_)
        refine store_step (cur := zV) (e := 36) (g := b13) 36 _ _ (.agg #[.int .i64 t.f0, .int .i64 t.f1, .string t.f2, .slice F3 t.f3.length b3, .slice F4 t.f4.length b4]) [.int .i64 t.f0, .int .i64 t.f1, .string t.f2, .slice F3 t.f3.length b3, .slice F4 t.f4.length b4] (by rfl) rfl rfl rfl rfl HX13.out rfl (show (Tryd.prog.info? 36).map (·.size) = some 5 by kernel_rfl) rfl (by simp [Value.oneCell']) ?_
        intro w14 h14 hg14
        have H14 := Aside0.mk h14
        have HG14 := Aside0.mk hg14
        clear h14 hg14
        refine hK.out _ _ ?_
        clear hK K
        refine done_ (by kernel_rfl) ?_
        
        have hbb14 : Below W11.heap.size W11 w14 := HB13.out.grown HG14.out HB13.out.size (fun k e => by injection e with e; have := HL13.out; omega)
        have HB14 := Aside0.mk hbb14
        clear o0 o1 o2 o3 o4
        have hgx := blk_below HGX11.out hbb14
        have hwx := blk_below HWX11.out hbb14
        have hax := H14.out
        have HM14 : Aside0 (MadeI t w14 (.agg #[.int .i64 t.f0, .int .i64 t.f1, .string t.f2, .slice F3 t.f3.length b3, .slice F4 t.f4.length b4])) := ⟨HM13.out w14 HG14.out⟩
        have HT14 := Aside0.mk (HT11u.out.below_ hbb14)
        have hmw := HMD11.out.below_ hbb14
        unfold RV.val at hmw
        have HMW := Aside0.mk hmw
        have HBD := Lib.hid HTT.out.bnd
        have o0 : w14.cell? ⟨b11, 0, none⟩ = some (.int .i64 t.f0) := (blk_cell hgx 0).trans rfl
        have o1 : w14.cell? ⟨b11, 1, none⟩ = some (.int .i64 t.f1) := (blk_cell hgx 1).trans rfl
        have o2 : w14.cell? ⟨b11, 2, none⟩ = some (.string t.f2) := (blk_cell hgx 2).trans rfl
        have o3 : w14.cell? ⟨b11, 3, none⟩ = some (.slice E3 t.f3.length a3) := (blk_cell hgx 3).trans rfl
        have o4 : w14.cell? ⟨b11, 4, none⟩ = some (.slice E4 t.f4.length a4) := (blk_cell hgx 4).trans rfl
        have q0 : w14.cell? ⟨b7, 0, none⟩ = some (.int .i64 r.n0) := (blk_cell hwx 0).trans rfl
        have q1 : w14.cell? ⟨b7, 1, none⟩ = some (.int .i64 r.n1) := (blk_cell hwx 1).trans rfl
        have q2 : w14.cell? ⟨b7, 2, none⟩ = some (.string r.t) := (blk_cell hwx 2).trans rfl
        have q3 : w14.cell? ⟨b7, 3, none⟩ = some (.slice r.A r.an r.ac) := (blk_cell hwx 3).trans rfl
        have q4 : w14.cell? ⟨b7, 4, none⟩ = some (.slice r.B r.bn r.bc) := (blk_cell hwx 4).trans rfl
        have p0 : w14.cell? ⟨b13, 0, none⟩ = some (.int .i64 t.f0) := (blk_cell hax 0).trans rfl
        have p1 : w14.cell? ⟨b13, 1, none⟩ = some (.int .i64 t.f1) := (blk_cell hax 1).trans rfl
        have p2 : w14.cell? ⟨b13, 2, none⟩ = some (.string t.f2) := (blk_cell hax 2).trans rfl
        have p3 : w14.cell? ⟨b13, 3, none⟩ = some (.slice F3 t.f3.length b3) := (blk_cell hax 3).trans rfl
        have p4 : w14.cell? ⟨b13, 4, none⟩ = some (.slice F4 t.f4.length b4) := (blk_cell hax 4).trans rfl
        clear hbb14 hgx hwx hax hmw
        go_upto_region 9 with fail
        refine start_ (n := 14) (S := fun w' => w'.cell? ⟨b11, 0, none⟩ = some (.int .i64 t.f0) ∧ w'.cell? ⟨b11, 1, none⟩ = some (.int .i64 t.f1) ∧ w'.cell? ⟨b11, 2, none⟩ = some (.string t.f2) ∧ w'.cell? ⟨b11, 3, none⟩ = some (.slice E3 t.f3.length a3) ∧ w'.cell? ⟨b11, 4, none⟩ = some (.slice E4 t.f4.length a4) ∧ w'.cell? ⟨b7, 0, none⟩ = some (.int .i64 r.n0) ∧ w'.cell? ⟨b7, 1, none⟩ = some (.int .i64 r.n1) ∧ w'.cell? ⟨b7, 2, none⟩ = some (.string r.t) ∧ w'.cell? ⟨b7, 3, none⟩ = some (.slice r.A r.an r.ac) ∧ w'.cell? ⟨b7, 4, none⟩ = some (.slice r.B r.bn r.bc) ∧ w'.cell? ⟨b13, 0, none⟩ = some (.int .i64 t.f0) ∧ w'.cell? ⟨b13, 1, none⟩ = some (.int .i64 t.f1) ∧ w'.cell? ⟨b13, 2, none⟩ = some (.string t.f2) ∧ w'.cell? ⟨b13, 3, none⟩ = some (.slice F3 t.f3.length b3) ∧ w'.cell? ⟨b13, 4, none⟩ = some (.slice F4 t.f4.length b4)) (ds := []) #[false, false, false, false, false, false, false, false, false, false, false, false, false, false] (by kernel_rfl) rfl rfl ⟨o0, o1, o2, o3, o4, q0, q1, q2, q3, q4, p0, p1, p2, p3, p4⟩ (fun hHeld => ?_)
        refine take_ (i := 0) (N := some 39) (v := ?_) (a' := ?_) #[true, false, false, false, false, false, false, false, false, false, false, false, false, false] rfl rfl (by kernel_rfl) (fun _ _ _ h => h) (Or.inl ⟨by rfl, ?_⟩) hHeld ?_ ?_
        rotate_left
        · rintro w' ⟨s0, s1, s2, s3, s4, s5, s6, s7, s8, s9, s10, s11, s12, s13, s14⟩
          go_simp
          with_reducible rfl
        rotate_left
        · simp only [Act.put, List.setIfInBounds_toArray, List.set_cons_zero, List.set_cons_succ, i64_w, i32_w]
          rfl
        refine take_ (i := 2) (N := some 41) (v := ?_) (a' := ?_) #[true, false, true, false, false, false, false, false, false, false, false, false, false, false] rfl rfl (by kernel_rfl) (fun _ _ _ h => h) (Or.inl ⟨by rfl, ?_⟩) hHeld ?_ ?_
        rotate_left
        · rintro w' ⟨s0, s1, s2, s3, s4, s5, s6, s7, s8, s9, s10, s11, s12, s13, s14⟩
          go_simp
          with_reducible rfl
        rotate_left
        · simp only [Act.put, List.setIfInBounds_toArray, List.set_cons_zero, List.set_cons_succ, i64_w, i32_w]
          rfl
        refine one_ (i := 1) (N := some 40) #[true, true, true, false, false, false, false, false, false, false, false, false, false, false] rfl rfl (by kernel_rfl) (by decide) (fun K hK => ?_)
        refine goes_ Tryd.func15 (by kernel_rfl) rfl #[.agg #[.int .i64 t.f0, .int .i64 t.f1, .string t.f2, .slice E3 t.f3.length a3, .slice E4 t.f4.length a4]] (by rfl) rfl rfl (by simp only [List.map_toArray, List.map_cons, List.map_nil]; rfl) ?_
        with_reducible refine (law_from HTT.out (w := w14.drew) (HT14.out.below_ (below_drew1 (Below.refl _ _)))).mono ?_
        rintro e w15 ⟨⟨u15, rfl, hu15⟩, hb15⟩
        refine ⟨_, rfl, ?_⟩
        have HU15 := Aside0.mk hu15
        have hc15 : Below w14.heap.size w14 w15 := below_un hb15
        have HC15 := Aside0.mk hc15
        clear hu15 hb15 hc15
        refine hK.out _ _ ⟨(HC15.out.cell (World.block_lt_of_cell? w14 _ o0)).trans o0, (HC15.out.cell (World.block_lt_of_cell? w14 _ o1)).trans o1, (HC15.out.cell (World.block_lt_of_cell? w14 _ o2)).trans o2, (HC15.out.cell (World.block_lt_of_cell? w14 _ o3)).trans o3, (HC15.out.cell (World.block_lt_of_cell? w14 _ o4)).trans o4, (HC15.out.cell (World.block_lt_of_cell? w14 _ q0)).trans q0, (HC15.out.cell (World.block_lt_of_cell? w14 _ q1)).trans q1, (HC15.out.cell (World.block_lt_of_cell? w14 _ q2)).trans q2, (HC15.out.cell (World.block_lt_of_cell? w14 _ q3)).trans q3, (HC15.out.cell (World.block_lt_of_cell? w14 _ q4)).trans q4, (HC15.out.cell (World.block_lt_of_cell? w14 _ p0)).trans p0, (HC15.out.cell (World.block_lt_of_cell? w14 _ p1)).trans p1, (HC15.out.cell (World.block_lt_of_cell? w14 _ p2)).trans p2, (HC15.out.cell (World.block_lt_of_cell? w14 _ p3)).trans p3, (HC15.out.cell (World.block_lt_of_cell? w14 _ p4)).trans p4⟩ (fun hHeld => ?_)
        clear hK K
        refine norm_ (a' := ?_) ?_ ?_
        rotate_left
        · show Act.put _ (some 40) _ = _
          simp only [Act.put, List.setIfInBounds_toArray, List.set_cons_zero, List.set_cons_succ, i64_w, i32_w]
          rfl
        refine one_ (i := 3) (N := some 42) #[true, true, true, true, false, false, false, false, false, false, false, false, false, false] rfl rfl (by kernel_rfl) (by decide) (fun K hK => ?_)
        refine goes_ Tryd.func14 (by kernel_rfl) rfl #[u15, .agg #[.int .i64 r.n0, .int .i64 r.n1, .string r.t, .slice r.A r.an r.ac, .slice r.B r.bn r.bc]] (by rfl) rfl rfl (by simp only [List.map_toArray, List.map_cons, List.map_nil]; rfl) ?_
        with_reducible refine (law_same HBD.out HU15.out (HMW.out.below_ HC15.out)).mono ?_
        rintro e w16 ⟨rfl, hb16⟩
        refine ⟨_, rfl, ?_⟩
        have HC16 := Aside0.mk (below_then HC15.out HC15.out.size hb16)
        clear hb16
        refine hK.out _ _ ⟨(HC16.out.cell (World.block_lt_of_cell? w14 _ o0)).trans o0, (HC16.out.cell (World.block_lt_of_cell? w14 _ o1)).trans o1, (HC16.out.cell (World.block_lt_of_cell? w14 _ o2)).trans o2, (HC16.out.cell (World.block_lt_of_cell? w14 _ o3)).trans o3, (HC16.out.cell (World.block_lt_of_cell? w14 _ o4)).trans o4, (HC16.out.cell (World.block_lt_of_cell? w14 _ q0)).trans q0, (HC16.out.cell (World.block_lt_of_cell? w14 _ q1)).trans q1, (HC16.out.cell (World.block_lt_of_cell? w14 _ q2)).trans q2, (HC16.out.cell (World.block_lt_of_cell? w14 _ q3)).trans q3, (HC16.out.cell (World.block_lt_of_cell? w14 _ q4)).trans q4, (HC16.out.cell (World.block_lt_of_cell? w14 _ p0)).trans p0, (HC16.out.cell (World.block_lt_of_cell? w14 _ p1)).trans p1, (HC16.out.cell (World.block_lt_of_cell? w14 _ p2)).trans p2, (HC16.out.cell (World.block_lt_of_cell? w14 _ p3)).trans p3, (HC16.out.cell (World.block_lt_of_cell? w14 _ p4)).trans p4⟩ (fun hHeld => ?_)
        clear hK K
        refine norm_ (a' := ?_) ?_ ?_
        rotate_left
        · show Act.put _ (some 42) _ = _
          simp only [Act.put, List.setIfInBounds_toArray, List.set_cons_zero, List.set_cons_succ, i64_w, i32_w]
          rfl
        refine pure_ (i := 4) (N := some 43) (v := ?_) (a' := ?_) #[true, true, true, true, true, false, false, false, false, false, false, false, false, false] rfl rfl (by kernel_rfl) (fun _ _ _ h => h) (Or.inl ⟨by rfl, ?_⟩) ?_ ?_
        rotate_left
        · intro w'
          go_simp
          with_reducible rfl
        rotate_left
        · simp only [Act.put, List.setIfInBounds_toArray, List.set_cons_zero, List.set_cons_succ, i64_w, i32_w]
          rfl
        refine take_ (i := 5) (N := some 44) (v := ?_) (a' := ?_) #[true, true, true, true, true, true, false, false, false, false, false, false, false, false] rfl rfl (by kernel_rfl) (fun _ _ _ h => h) (Or.inl ⟨by rfl, ?_⟩) hHeld ?_ ?_
        rotate_left
        · rintro w' ⟨s0, s1, s2, s3, s4, s5, s6, s7, s8, s9, s10, s11, s12, s13, s14⟩
          go_simp
          with_reducible rfl
        rotate_left
        · simp only [Act.put, List.setIfInBounds_toArray, List.set_cons_zero, List.set_cons_succ, i64_w, i32_w]
          rfl
        refine take_ (i := 7) (N := some 46) (v := ?_) (a' := ?_) #[true, true, true, true, true, true, false, true, false, false, false, false, false, false] rfl rfl (by kernel_rfl) (fun _ _ _ h => h) (Or.inl ⟨by rfl, ?_⟩) hHeld ?_ ?_
        rotate_left
        · rintro w' ⟨s0, s1, s2, s3, s4, s5, s6, s7, s8, s9, s10, s11, s12, s13, s14⟩
          go_simp
          with_reducible rfl
        rotate_left
        · simp only [Act.put, List.setIfInBounds_toArray, List.set_cons_zero, List.set_cons_succ, i64_w, i32_w]
          rfl
        refine one_ (i := 6) (N := some 45) #[true, true, true, true, true, true, true, true, false, false, false, false, false, false] rfl rfl (by kernel_rfl) (by decide) (fun K hK => ?_)
        refine goes_ Tryd.func15 (by kernel_rfl) rfl #[.agg #[.int .i64 t.f0, .int .i64 t.f1, .string t.f2, .slice F3 t.f3.length b3, .slice F4 t.f4.length b4]] (by rfl) rfl rfl (by simp only [List.map_toArray, List.map_cons, List.map_nil]; rfl) ?_
        with_reducible refine (law_from HTT.out (w := w16) (HM14.out.below_ HC16.out)).mono ?_
        rintro e w17 ⟨⟨u17, rfl, hu17⟩, hb17⟩
        refine ⟨_, rfl, ?_⟩
        have HU17 := Aside0.mk hu17
        have HC17 := Aside0.mk (below_then HC16.out HC16.out.size hb17)
        clear hu17 hb17
        refine hK.out _ _ ⟨(HC17.out.cell (World.block_lt_of_cell? w14 _ o0)).trans o0, (HC17.out.cell (World.block_lt_of_cell? w14 _ o1)).trans o1, (HC17.out.cell (World.block_lt_of_cell? w14 _ o2)).trans o2, (HC17.out.cell (World.block_lt_of_cell? w14 _ o3)).trans o3, (HC17.out.cell (World.block_lt_of_cell? w14 _ o4)).trans o4, (HC17.out.cell (World.block_lt_of_cell? w14 _ q0)).trans q0, (HC17.out.cell (World.block_lt_of_cell? w14 _ q1)).trans q1, (HC17.out.cell (World.block_lt_of_cell? w14 _ q2)).trans q2, (HC17.out.cell (World.block_lt_of_cell? w14 _ q3)).trans q3, (HC17.out.cell (World.block_lt_of_cell? w14 _ q4)).trans q4, (HC17.out.cell (World.block_lt_of_cell? w14 _ p0)).trans p0, (HC17.out.cell (World.block_lt_of_cell? w14 _ p1)).trans p1, (HC17.out.cell (World.block_lt_of_cell? w14 _ p2)).trans p2, (HC17.out.cell (World.block_lt_of_cell? w14 _ p3)).trans p3, (HC17.out.cell (World.block_lt_of_cell? w14 _ p4)).trans p4⟩ (fun hHeld => ?_)
        clear hK K
        refine norm_ (a' := ?_) ?_ ?_
        rotate_left
        · show Act.put _ (some 45) _ = _
          simp only [Act.put, List.setIfInBounds_toArray, List.set_cons_zero, List.set_cons_succ, i64_w, i32_w]
          rfl
        refine one_ (i := 8) (N := some 47) #[true, true, true, true, true, true, true, true, true, false, false, false, false, false] rfl rfl (by kernel_rfl) (by decide) (fun K hK => ?_)
        refine goes_ Tryd.func14 (by kernel_rfl) rfl #[u17, .agg #[.int .i64 r.n0, .int .i64 r.n1, .string r.t, .slice r.A r.an r.ac, .slice r.B r.bn r.bc]] (by rfl) rfl rfl (by simp only [List.map_toArray, List.map_cons, List.map_nil]; rfl) ?_
        with_reducible refine (law_same HBD.out HU17.out (HMW.out.below_ HC17.out)).mono ?_
        rintro e w18 ⟨rfl, hb18⟩
        refine ⟨_, rfl, ?_⟩
        have HC18 := Aside0.mk (below_then HC17.out HC17.out.size hb18)
        clear hb18
        refine hK.out _ _ ⟨(HC18.out.cell (World.block_lt_of_cell? w14 _ o0)).trans o0, (HC18.out.cell (World.block_lt_of_cell? w14 _ o1)).trans o1, (HC18.out.cell (World.block_lt_of_cell? w14 _ o2)).trans o2, (HC18.out.cell (World.block_lt_of_cell? w14 _ o3)).trans o3, (HC18.out.cell (World.block_lt_of_cell? w14 _ o4)).trans o4, (HC18.out.cell (World.block_lt_of_cell? w14 _ q0)).trans q0, (HC18.out.cell (World.block_lt_of_cell? w14 _ q1)).trans q1, (HC18.out.cell (World.block_lt_of_cell? w14 _ q2)).trans q2, (HC18.out.cell (World.block_lt_of_cell? w14 _ q3)).trans q3, (HC18.out.cell (World.block_lt_of_cell? w14 _ q4)).trans q4, (HC18.out.cell (World.block_lt_of_cell? w14 _ p0)).trans p0, (HC18.out.cell (World.block_lt_of_cell? w14 _ p1)).trans p1, (HC18.out.cell (World.block_lt_of_cell? w14 _ p2)).trans p2, (HC18.out.cell (World.block_lt_of_cell? w14 _ p3)).trans p3, (HC18.out.cell (World.block_lt_of_cell? w14 _ p4)).trans p4⟩ (fun hHeld => ?_)
        clear hK K
        refine norm_ (a' := ?_) ?_ ?_
        rotate_left
        · show Act.put _ (some 47) _ = _
          simp only [Act.put, List.setIfInBounds_toArray, List.set_cons_zero, List.set_cons_succ, i64_w, i32_w]
          rfl
        refine pure_ (i := 9) (N := some 48) (v := ?_) (a' := ?_) #[true, true, true, true, true, true, true, true, true, true, false, false, false, false] rfl rfl (by kernel_rfl) (fun _ _ _ h => h) (Or.inl ⟨by rfl, ?_⟩) ?_ ?_
        rotate_left
        · intro w'
          go_simp
          with_reducible rfl
        rotate_left
        · simp only [Act.put, List.setIfInBounds_toArray, List.set_cons_zero, List.set_cons_succ, i64_w, i32_w]
          rfl
        refine pure_ (i := 10) (N := some 49) (v := ?_) (a' := ?_) #[true, true, true, true, true, true, true, true, true, true, true, false, false, false] rfl rfl (by kernel_rfl) (fun _ _ _ h => h) (Or.inl ⟨by rfl, ?_⟩) ?_ ?_
        rotate_left
        · intro w'
          go_simp
          with_reducible rfl
        rotate_left
        · simp only [Act.put, List.setIfInBounds_toArray, List.set_cons_zero, List.set_cons_succ, i64_w, i32_w]
          rfl
        refine one_ (i := 11) (N := some 50) #[true, true, true, true, true, true, true, true, true, true, true, true, false, false] rfl rfl (by kernel_rfl) (by decide) (fun K hK => ?_)
        refine goes_ Tryd.func10 (by kernel_rfl) rfl #[] (by rfl) rfl rfl (by simp only [List.map_toArray, List.map_cons, List.map_nil]) ?_
        with_reducible refine (normAwake w18).mono ?_
        rintro e w19 ⟨rfl, hb19⟩
        refine ⟨_, rfl, ?_⟩
        have HC19 := Aside0.mk (below_then HC18.out HC18.out.size hb19)
        clear hb19
        refine hK.out _ _ ⟨(HC19.out.cell (World.block_lt_of_cell? w14 _ o0)).trans o0, (HC19.out.cell (World.block_lt_of_cell? w14 _ o1)).trans o1, (HC19.out.cell (World.block_lt_of_cell? w14 _ o2)).trans o2, (HC19.out.cell (World.block_lt_of_cell? w14 _ o3)).trans o3, (HC19.out.cell (World.block_lt_of_cell? w14 _ o4)).trans o4, (HC19.out.cell (World.block_lt_of_cell? w14 _ q0)).trans q0, (HC19.out.cell (World.block_lt_of_cell? w14 _ q1)).trans q1, (HC19.out.cell (World.block_lt_of_cell? w14 _ q2)).trans q2, (HC19.out.cell (World.block_lt_of_cell? w14 _ q3)).trans q3, (HC19.out.cell (World.block_lt_of_cell? w14 _ q4)).trans q4, (HC19.out.cell (World.block_lt_of_cell? w14 _ p0)).trans p0, (HC19.out.cell (World.block_lt_of_cell? w14 _ p1)).trans p1, (HC19.out.cell (World.block_lt_of_cell? w14 _ p2)).trans p2, (HC19.out.cell (World.block_lt_of_cell? w14 _ p3)).trans p3, (HC19.out.cell (World.block_lt_of_cell? w14 _ p4)).trans p4⟩ (fun hHeld => ?_)
        clear hK K
        refine norm_ (a' := ?_) ?_ ?_
        rotate_left
        · show Act.put _ (some 50) _ = _
          simp only [Act.put, List.setIfInBounds_toArray, List.set_cons_zero, List.set_cons_succ, i64_w, i32_w]
          rfl
        refine pure_ (i := 12) (N := some 51) (v := ?_) (a' := ?_) #[true, true, true, true, true, true, true, true, true, true, true, true, true, false] rfl rfl (by kernel_rfl) (fun _ _ _ h => h) (Or.inl ⟨by rfl, ?_⟩) ?_ ?_
        rotate_left
        · intro w'
          go_simp
          with_reducible rfl
        rotate_left
        · simp only [Act.put, List.setIfInBounds_toArray, List.set_cons_zero, List.set_cons_succ, i64_w, i32_w]
          rfl
        refine pure_ (i := 13) (N := some 4) (v := ?_) (a' := ?_) #[true, true, true, true, true, true, true, true, true, true, true, true, true, true] rfl rfl (by kernel_rfl) (fun _ _ _ h => h) (Or.inl ⟨by rfl, ?_⟩) ?_ ?_
        rotate_left
        · intro w'
          go_simp
          with_reducible rfl
        rotate_left
        · simp only [Act.put, List.setIfInBounds_toArray, List.set_cons_zero, List.set_cons_succ, i64_w, i32_w]
          rfl
        refine done_ (by kernel_rfl) ?_
        
        go_wp2
        go_ret
        exact ⟨rfl, HB11.out.trans ((below_then HB14.out HB14.out.size HC19.out).mono HB11.out.size)⟩
end Go.Proofs.YtgeamhmenmomhaaDoor.A
