/- The walk of the law on ResolveOne (printed by gen_reslaw.py). -/
import Derived.Test.YtgeamhmenmomhaaDoorFits
import Derived.Test.YtgeamhmenmomhaaDoorResM
import Derived.Test.YtgeamhmenmomhaaDoorResK
import Derived.Test.YtgeamhmenmomhaaDoorNameL
namespace Go.Proofs.YtgeamhmenmomhaaDoor.A
set_option linter.unusedVariables false
set_option linter.unusedSimpArgs false
set_option linter.unusedSectionVars false
open Go.RowKit Go.Proofs.YtgeamhmenmomhaaDoorW.PrintWords Go.Proofs.YtgeamhmenmomhaaDoorW.PrintLast Go.Proofs.YtgeamhmenmomhaaDoorW.PrintMore Go.Proofs.YtgeamhmenmomhaaDoor.PT Go.Proofs.YtgeamhmenmomhaaDoor.L Go.Proofs.YtgeamhmenmomhaaDoor.SM

theorem env_eq (l : List U.SP) : envM (U.putsP (l.map U.sI)) = envE l := by
  funext k
  exact U.look_puts l k
theorem env_val {l : List U.SP} (h : ∀ p ∈ l, p.f1.size ≤ 1048576) (k v : ByteArray) (hv : envE l k = some v) : v.size ≤ 1048576 := by
  unfold envE at hv
  obtain ⟨p, hp, rfl⟩ := Option.map_eq_some_iff.1 hv
  exact h p (U.last_mem hp)
theorem made_parts {x : SV} {w : World} {A3 : Option Addr} {c3 : Nat} {A4 : Option Addr} {c4 : Nat} (h : MadeS x w (cellsS x A3 c3 A4 c4)) : x.f3.length ≤ c3 ∧ Kd.C Kd.string w A3 x.f3.length x.f3 ∧ x.f4.length ≤ c4 ∧ Kd.C kS w A4 x.f4.length x.f4 := by
  obtain ⟨a, b, c, d, e, h1, h2, h3, h4⟩ := h
  simp only [cellsS, Value.agg.injEq, Array.mk.injEq, List.cons.injEq, Value.slice.injEq, true_and, and_true] at e
  obtain ⟨⟨rfl, rfl⟩, rfl, rfl⟩ := e
  exact ⟨h1, h2, h3, h4⟩
def OneC (z : Option RD) (t : IV) (l : List U.SP) (keep : Bool) : Prop := ∀ (v : Value) (W : World) (A : Option Addr) (c : Nat), MadeI t W v → (l.map U.sI).length ≤ c → Kd.C k69 W A (l.map U.sI).length (l.map U.sI) → Calls Tryd.prog 11 #[v, .slice A l.length c, .bool keep] W (OneSays z W)
theorem one_c {rd : RD} (hok : rd.ok) (l : List U.SP) (hl : l.length ≤ 1048576) (hvs : ∀ k v, envE l k = some v → v.size ≤ 1048576) (keep : Bool) : OneC (rd.res (envE l) keep) rd.I l keep := by
  intro v W A c hv hc hr
  have e := env_eq l
  have := impl_ResolveOne hok (l.map U.sI) (by simpa using hl) (fun k v hv => hvs k v (by rw [← e]; exact hv)) keep hv A c hr hc
  rw [e, List.length_map] at this
  exact this
set_option maxHeartbeats 4000000 in
set_option maxRecDepth 100000 in
theorem law_ResolveOne {x : SV} (hx : Bnd x) (hw : wt x ≤ 1048576) {v : Value} {w : World} (hv : MadeS x w v) (l : List U.SP) (A0 : Option Addr) (c0 : Nat) (keep : Bool) (hr0 : Kd.C k51 w A0 l.length l) (hc0 : l.length ≤ c0) (hl : l.length ≤ 1048576) (hvs : ∀ p ∈ l, p.f1.size ≤ 1048576) :
    Calls Tryd.prog 3 #[v, .slice A0 l.length c0, .bool keep] w fun e w' => e = .returned (.bool true) ∧ Below w.heap.size w w' := by
  obtain ⟨A3, c3, A4, c4, rfl, p3, g3, p4, g4⟩ := hv
  obtain ⟨W0, hW0⟩ : ∃ W0 : World, W0 = w.alloc (Obj.cells #[.int .i64 x.f0, .int .i64 x.f1, .string x.f2, .slice A3 x.f3.length c3, .slice A4 x.f4.length c4] 25) := ⟨_, rfl⟩
  have hb0 : Below w.heap.size w W0 := by rw [hW0]; exact (Below.refl _ _).alloc (Nat.le_refl _) _
  have hbx : W0.heap[w.heap.size]? = some (.cells #[.int .i64 x.f0, .int .i64 x.f1, .string x.f2, .slice A3 x.f3.length c3, .slice A4 x.f4.length c4] 25 (0, 0)) := by rw [hW0]; exact new_atI rfl
  have HX : Aside0 (MadeS x W0 (cellsS x A3 c3 A4 c4)) := ⟨A3, c3, A4, c4, rfl, p3, Kd.C_below g3 hb0, p4, Kd.C_below g4 hb0⟩
  have HR0 := Aside0.mk hr0
  have HF3 := Lib.hid (fun (W : World) (h : Kd.C k51 W A0 l.length l) => law_fits3 l (by omega) A0 c0 W h hc0)
  have HFP := Lib.hid (fun (W : World) (h : Kd.C k51 W A0 l.length l) => law_fitP l hl A0 c0 W h hc0)
  obtain ⟨l', hl'⟩ : ∃ l', l' = M.fitP l := ⟨_, rfl⟩
  have HLL : Hid (l'.length ≤ 1048576) := Lib.hid (by rw [hl']; exact Nat.le_trans (Ord.fit_length _) hl)
  have HVS : Hid (∀ k v, envE l' k = some v → v.size ≤ 1048576) := Lib.hid (fun k v hv => env_val (fun p hp => hvs p (U.fitP_sub l p (by rw [← hl']; exact hp))) k v hv)
  rw [← hl'] at HFP
  have HB0 := Aside0.mk hb0
  have HBX := Aside0.mk hbx
  have HW0 := Lib.hid hW0
  have HS0 : Hid (w.heap.size < W0.heap.size) := Lib.hid (by rw [hW0]; simp)
  have HBN := Lib.hid hx
  have HWT := Lib.hid hw
  have m0 : W0.cell? ⟨w.heap.size, 0, none⟩ = some (.int .i64 x.f0) := (blk_cell hbx 0).trans rfl
  have m1 : W0.cell? ⟨w.heap.size, 1, none⟩ = some (.int .i64 x.f1) := (blk_cell hbx 1).trans rfl
  have m2 : W0.cell? ⟨w.heap.size, 2, none⟩ = some (.string x.f2) := (blk_cell hbx 2).trans rfl
  have m3 : W0.cell? ⟨w.heap.size, 3, none⟩ = some (.slice A3 x.f3.length c3) := (blk_cell hbx 3).trans rfl
  have m4 : W0.cell? ⟨w.heap.size, 4, none⟩ = some (.slice A4 x.f4.length c4) := (blk_cell hbx 4).trans rfl
  clear hb0 hW0 hbx p3 g3 p4 g4 hx hw hr0 hc0 hl hvs hl'
  go_enter Tryd.func3, Tryd.ntmps3
  go_upto_region 1 with fail
  rw [← HW0.out]
  go_wp2_with fail
  refine (law_fits1 (v := cellsS x A3 c3 A4 c4) HX.out).mono ?_
  clear m0 m1 m2 m3 m4
  rintro e w1 ⟨⟨r, rfl⟩, hb1⟩
  have HX1 := Aside0.mk (HX.out.below_ hb1)
  have HB1 := Aside0.mk (HB0.out.trans (hb1.mono HB0.out.size))
  have HBX1 := Aside0.mk (blk_below HBX.out hb1)
  have HS1 : Hid (w.heap.size < w1.heap.size) := Lib.hid (Nat.lt_of_lt_of_le HS0.out hb1.size)
  clear hb1
  cases r with
  | false =>
    go_wp2
    go_ret
    exact ⟨rfl, HB1.out⟩
  | true =>
    go_wp2_with fail
    refine (HF3.out w1 (Kd.C_below HR0.out HB1.out)).mono ?_
    rintro e w2 ⟨⟨r, rfl⟩, hb2⟩
    have HX2 := Aside0.mk (HX1.out.below_ hb2)
    have HB2 := Aside0.mk (HB1.out.trans (hb2.mono HB1.out.size))
    have hbx2 := blk_below HBX1.out hb2
    have HBX2 := Aside0.mk hbx2
    have HS2 : Hid (w.heap.size < w2.heap.size) := Lib.hid (Nat.lt_of_lt_of_le HS1.out hb2.size)
    have m0 : w2.cell? ⟨w.heap.size, 0, none⟩ = some (.int .i64 x.f0) := (blk_cell hbx2 0).trans rfl
    have m1 : w2.cell? ⟨w.heap.size, 1, none⟩ = some (.int .i64 x.f1) := (blk_cell hbx2 1).trans rfl
    have m2 : w2.cell? ⟨w.heap.size, 2, none⟩ = some (.string x.f2) := (blk_cell hbx2 2).trans rfl
    have m3 : w2.cell? ⟨w.heap.size, 3, none⟩ = some (.slice A3 x.f3.length c3) := (blk_cell hbx2 3).trans rfl
    have m4 : w2.cell? ⟨w.heap.size, 4, none⟩ = some (.slice A4 x.f4.length c4) := (blk_cell hbx2 4).trans rfl
    clear hb2 hbx2
    cases r with
    | false =>
      go_wp2
      go_ret
      exact ⟨rfl, HB2.out⟩
    | true =>
      go_wp2_with fail
      refine (law_fit HBN.out (v := cellsS x A3 c3 A4 c4) HX2.out).mono ?_
      clear m0 m1 m2 m3 m4
      rintro e w3 ⟨y, u, rfl, hfy, hwy, hmy, hky, hb3⟩
      obtain ⟨B3, d3, B4, d4, rfl, _, _, _, _⟩ := hmy
      have HB3 := Aside0.mk (HB2.out.trans (hb3.mono HB2.out.size))
      have HBX3 := Aside0.mk (blk_below HBX2.out hb3)
      have HKY := Lib.hid hky
      have HFY := Lib.hid hfy
      have HWY : Hid (wt y ≤ 1048576) := Lib.hid (Nat.le_trans hwy HWT.out)
      have HS3 : Hid (w2.heap.size ≤ w3.heap.size) := Lib.hid hb3.size
      clear hfy hwy hky hb3
      go_wp2_with fail
      refine (HFP.out w3 (Kd.C_below HR0.out HB3.out)).mono ?_
      rintro e w4 ⟨A1, c1, rfl, hR, hb4⟩
      have hbx4 := blk_below HBX3.out hb4
      obtain ⟨W5, hW5⟩ : ∃ W5 : World, W5 = (((((w4.setCell ⟨w.heap.size, 0, none⟩ (.int .i64 y.f0)).setCell ⟨w.heap.size, 1, none⟩ (.int .i64 y.f1)).setCell ⟨w.heap.size, 2, none⟩ (.string y.f2)).setCell ⟨w.heap.size, 3, none⟩ (.slice B3 y.f3.length d3)).setCell ⟨w.heap.size, 4, none⟩ (.slice B4 y.f4.length d4)) := ⟨_, rfl⟩
      have hbx5 : W5.heap[w.heap.size]? = some (.cells #[.int .i64 y.f0, .int .i64 y.f1, .string y.f2, .slice B3 y.f3.length d3, .slice B4 y.f4.length d4] 25 (0, 0)) := by rw [hW5]; exact box5 hbx4 _ _ _ _ _
      have HY5 : Aside0 (MadeS y W5 (cellsS y B3 d3 B4 d4)) := ⟨HKY.out _ (fun k hk hlt => by
        rw [hW5, far5 (by have := HS2.out; omega)]
        exact hb4.block k hlt)⟩
      have HR5 : Aside0 (l'.length ≤ c1 ∧ Kd.C k51 W5 A1 l'.length l') := ⟨by
        rw [hW5]
        have := Kd.R_reads' (R_far5 (Kd.R_bound hR) w.heap.size (fun k hk => by have h1 := hk.2.1; have h2 := HS2.out; have h3 := HS3.out; omega) (.int .i64 y.f0) (.int .i64 y.f1) (.string y.f2) (.slice B3 y.f3.length d3) (.slice B4 y.f4.length d4))
        exact ⟨this.2.1, this.2.2⟩⟩
      have HB5 : Aside0 (Below w.heap.size w W5) := ⟨by rw [hW5]; exact below5 (HB3.out.trans (hb4.mono HB3.out.size)) _ (Nat.le_refl _) _ _ _ _ _⟩
      have HBX5 := Aside0.mk hbx5
      have HW5 := Lib.hid hW5
      have n0 : w4.cell? ⟨w.heap.size, 0, none⟩ = some (.int .i64 x.f0) := (blk_cell hbx4 0).trans rfl
      have n1 : w4.cell? ⟨w.heap.size, 1, none⟩ = some (.int .i64 x.f1) := (blk_cell hbx4 1).trans rfl
      have n2 : w4.cell? ⟨w.heap.size, 2, none⟩ = some (.string x.f2) := (blk_cell hbx4 2).trans rfl
      have n3 : w4.cell? ⟨w.heap.size, 3, none⟩ = some (.slice A3 x.f3.length c3) := (blk_cell hbx4 3).trans rfl
      have n4 : w4.cell? ⟨w.heap.size, 4, none⟩ = some (.slice A4 x.f4.length c4) := (blk_cell hbx4 4).trans rfl
      have f0 := blk_frozen hbx4 0
      have f1 := blk_frozen hbx4 1
      have f2 := blk_frozen hbx4 2
      have f3 := blk_frozen hbx4 3
      have f4 := blk_frozen hbx4 4
      clear hR hb4 hbx4 hW5 hbx5
      unfold cellsS
      go_upto_region 4 with fail
      rw [← HW5.out]
      clear n0 n1 n2 n3 n4 f0 f1 f2 f3 f4
      have q0 : W5.cell? ⟨w.heap.size, 0, none⟩ = some (.int .i64 y.f0) := (blk_cell HBX5.out 0).trans rfl
      have q1 : W5.cell? ⟨w.heap.size, 1, none⟩ = some (.int .i64 y.f1) := (blk_cell HBX5.out 1).trans rfl
      have q2 : W5.cell? ⟨w.heap.size, 2, none⟩ = some (.string y.f2) := (blk_cell HBX5.out 2).trans rfl
      have q3 : W5.cell? ⟨w.heap.size, 3, none⟩ = some (.slice B3 y.f3.length d3) := (blk_cell HBX5.out 3).trans rfl
      have q4 : W5.cell? ⟨w.heap.size, 4, none⟩ = some (.slice B4 y.f4.length d4) := (blk_cell HBX5.out 4).trans rfl
      go_wp2_with fail
      refine (ResC.use (spec_ResolveOne HFY.out HWY.out l' A1 c1 keep HLL.out HVS.out HR5.out.1 W5 HR5.out.2) B3 d3 B4 d4 (made_parts HY5.out).1 (made_parts HY5.out).2.1 (made_parts HY5.out).2.2.1 (made_parts HY5.out).2.2.2).mono ?_
      clear q0 q1 q2 q3 q4
      rintro e w6 ⟨r, left, said, rfl, hb6, _, hsaid, hdesc⟩
      have HB6 := Aside0.mk (HB5.out.trans (hb6.mono HB5.out.size))
      have HBX6 := Aside0.mk (blk_below HBX5.out hb6)
      have HY6 := Aside0.mk (HY5.out.below_ hb6)
      have HR6 := Aside0.mk (Kd.C_below HR5.out.2 hb6)
      unfold RV.val
      cases hds : descr y with
      | none =>
        rw [hds] at hsaid
        subst hsaid
        dsimp only [Option.isSome]
        clear hdesc hds hb6
        go_wp2_with fail
        refine (normAwake _).mono ?_
        rintro e w7 ⟨rfl, hb7⟩
        have HB7 := Aside0.mk (below_then (HB6.out.alloc HB6.out.size _) (HB6.out.alloc HB6.out.size _).size hb7)
        go_wp2
        go_ret
        exact ⟨rfl, HB7.out⟩
      | some rd =>
        rw [hds] at hsaid
        subst hsaid
        obtain ⟨hleft, hmade⟩ := hdesc rd hds
        have hyt := descr_tree HFY.out hds
        have hok := descr_ok HFY.out HWY.out hds
        have HTW : Hid (Twin y rd.I) := Lib.hid (by rw [hyt]; exact RD.twin (by have := hok.len; omega))
        have HONE := Lib.hid (one_c hok l' HLL.out HVS.out keep)
        have HZT : Hid (∀ d, rd.res (envE l') keep = some d → Twin d.S d.I) := Lib.hid (fun d hd => RD.twin (by have h1 := res_len hd; have h2 := hok.len; omega))
        obtain ⟨z, hz⟩ : ∃ z, z = rd.res (envE l') keep := ⟨_, rfl⟩
        rw [← hz] at hleft hmade HONE HZT
        have HLF := Lib.hid hleft
        have HMD := Lib.hid hmade
        obtain ⟨W7, hW7⟩ : ∃ W7 : World, W7 = w6.alloc (Obj.cells #[.int .i64 r.n0, .int .i64 r.n1, .string r.t, .slice r.A r.an r.ac, .slice r.B r.bn r.bc] 25) := ⟨_, rfl⟩
        have hb7 : Below w6.heap.size w6 W7 := by rw [hW7]; exact (Below.refl _ _).alloc (Nat.le_refl _) _
        obtain ⟨b7, hb7e⟩ : ∃ b7, b7 = w6.heap.size := ⟨_, rfl⟩
        have hw7 : W7.heap[b7]? = some (.cells #[.int .i64 r.n0, .int .i64 r.n1, .string r.t, .slice r.A r.an r.ac, .slice r.B r.bn r.bc] 25 (0, 0)) := by rw [hW7, hb7e]; exact new_atI rfl
        have HB7 := Aside0.mk (below_then HB6.out HB6.out.size hb7)
        have HK7 := Aside0.mk hb7
        have HWB7 := Aside0.mk hw7
        have HW7 := Lib.hid hW7
        have HE7 := Lib.hid hb7e
        have HY7 := Aside0.mk (HY6.out.below_ hb7)
        have HR7 := Aside0.mk (Kd.C_below HR6.out hb7)
        have hbx7 := blk_below HBX6.out hb7
        have HMD7 : Hid (∀ d, z = some d → MadeS d.S W7 r.val) := Lib.hid (fun d hd => (HMD.out d hd).below_ HK7.out)
        dsimp only [Option.isSome]
        have q0 : W7.cell? ⟨w.heap.size, 0, none⟩ = some (.int .i64 y.f0) := (blk_cell hbx7 0).trans rfl
        have q1 : W7.cell? ⟨w.heap.size, 1, none⟩ = some (.int .i64 y.f1) := (blk_cell hbx7 1).trans rfl
        have q2 : W7.cell? ⟨w.heap.size, 2, none⟩ = some (.string y.f2) := (blk_cell hbx7 2).trans rfl
        have q3 : W7.cell? ⟨w.heap.size, 3, none⟩ = some (.slice B3 y.f3.length d3) := (blk_cell hbx7 3).trans rfl
        have q4 : W7.cell? ⟨w.heap.size, 4, none⟩ = some (.slice B4 y.f4.length d4) := (blk_cell hbx7 4).trans rfl
        clear hdesc hds hleft hb6 hmade hyt hok hz hW7 hb7 hb7e hw7 hbx7
        go_upto_region 5 with fail
        rw [← HW7.out, ← HE7.out]
        go_wp2_with fail
        refine (law_to HTW.out HY7.out).mono ?_
        clear q0 q1 q2 q3 q4
        rintro e w8 ⟨⟨u8, rfl, hu8⟩, hb8⟩
        have HK8 := Aside0.mk hb8
        have HU8 := Aside0.mk hu8
        clear hb8 hu8
        go_wp2_with fail
        refine (law_pairsTo l' HLL.out A1 c1 w8 (Kd.C_below HR7.out HK8.out) HR5.out.1).mono ?_
        rintro e w9 ⟨A9, c9, rfl, hc9, hr9, hb9⟩
        have HK9 := Aside0.mk (below_then HK8.out HK8.out.size hb9)
        have HU9 := Aside0.mk (HU8.out.below_ hb9)
        have HR9 := Aside0.mk (And.intro hc9 hr9)
        clear hb9 hc9 hr9
        go_wp2_with fail
        refine (HONE.out u8 w9 A9 c9 HU9.out HR9.out.1 HR9.out.2).mono ?_
        rintro e w10 ⟨t, E3, a3, E4, a4, rfl, hb10, ht⟩
        rw [← HLF.out]
        have HT := Lib.hid ht
        obtain ⟨W11, hW11⟩ : ∃ W11 : World, W11 = w10.alloc (Obj.cells #[.int .i64 t.f0, .int .i64 t.f1, .string t.f2, .slice E3 t.f3.length a3, .slice E4 t.f4.length a4] 36) := ⟨_, rfl⟩
        have hk11 : Below W7.heap.size W7 W11 := by rw [hW11]; exact (below_then HK9.out HK9.out.size hb10).alloc (Nat.le_trans HK9.out.size hb10.size) _
        obtain ⟨b11, hb11e⟩ : ∃ b11, b11 = w10.heap.size := ⟨_, rfl⟩
        have hg11 : W11.heap[b11]? = some (.cells #[.int .i64 t.f0, .int .i64 t.f1, .string t.f2, .slice E3 t.f3.length a3, .slice E4 t.f4.length a4] 36 (0, 0)) := by rw [hW11, hb11e]; exact new_atI rfl
        have HT11 : Hid (∀ d, z = some d → t = d.I ∧ MadeI t W11 (cellsI t E3 a3 E4 a4)) := Lib.hid (fun d hd => ⟨(HT.out d hd).1, (HT.out d hd).2.below_ (by rw [hW11]; exact (Below.refl _ _).alloc (Nat.le_refl _) _)⟩)
        have hw11 := blk_below HWB7.out hk11
        have HK11 := Aside0.mk hk11
        have HB11 := Aside0.mk (below_then HB7.out HB7.out.size hk11)
        have HW11 := Lib.hid hW11
        have HE11 := Lib.hid hb11e
        have o0 : W11.cell? ⟨b11, 0, none⟩ = some (.int .i64 t.f0) := (blk_cell hg11 0).trans rfl
        have o1 : W11.cell? ⟨b11, 1, none⟩ = some (.int .i64 t.f1) := (blk_cell hg11 1).trans rfl
        have o2 : W11.cell? ⟨b11, 2, none⟩ = some (.string t.f2) := (blk_cell hg11 2).trans rfl
        have o3 : W11.cell? ⟨b11, 3, none⟩ = some (.slice E3 t.f3.length a3) := (blk_cell hg11 3).trans rfl
        have o4 : W11.cell? ⟨b11, 4, none⟩ = some (.slice E4 t.f4.length a4) := (blk_cell hg11 4).trans rfl
        have q0 : W11.cell? ⟨b7, 0, none⟩ = some (.int .i64 r.n0) := (blk_cell hw11 0).trans rfl
        have q1 : W11.cell? ⟨b7, 1, none⟩ = some (.int .i64 r.n1) := (blk_cell hw11 1).trans rfl
        have q2 : W11.cell? ⟨b7, 2, none⟩ = some (.string r.t) := (blk_cell hw11 2).trans rfl
        have q3 : W11.cell? ⟨b7, 3, none⟩ = some (.slice r.A r.an r.ac) := (blk_cell hw11 3).trans rfl
        have q4 : W11.cell? ⟨b7, 4, none⟩ = some (.slice r.B r.bn r.bc) := (blk_cell hw11 4).trans rfl
        clear hb10 ht hW11 hk11 hb11e hg11 hw11
        unfold cellsI
        go_upto_region 8 with fail
        rw [← HW11.out, ← HE11.out]
        cases z with
        | none =>
          obtain rfl : left = false := HLF.out
          refine start_ (n := 17) (S := fun w' => True) (ds := []) #[false, false, false, false, false, false, false, false, false, false, false, false, false, false, false, false, false] (by kernel_rfl) rfl rfl trivial (fun hHeld => ?_)
          refine pure_ (i := 0) (N := some 44) (v := ?_) (a' := ?_) #[true, false, false, false, false, false, false, false, false, false, false, false, false, false, false, false, false] rfl rfl (by kernel_rfl) (fun _ _ _ h => h) (Or.inl ⟨by rfl, ?_⟩) ?_ ?_
          rotate_left
          · intro w'
            go_simp
            with_reducible rfl
          rotate_left
          · simp only [Act.put, List.setIfInBounds_toArray, List.set_cons_zero, List.set_cons_succ, i64_w, i32_w]
            rfl
          refine pure_ (i := 1) (N := some 45) (v := ?_) (a' := ?_) #[true, true, false, false, false, false, false, false, false, false, false, false, false, false, false, false, false] rfl rfl (by kernel_rfl) (fun _ _ _ h => h) (Or.inl ⟨by rfl, ?_⟩) ?_ ?_
          rotate_left
          · intro w'
            go_simp
            with_reducible rfl
          rotate_left
          · simp only [Act.put, List.setIfInBounds_toArray, List.set_cons_zero, List.set_cons_succ, i64_w, i32_w]
            rfl
          refine pure_ (i := 2) (N := some 46) (v := ?_) (a' := ?_) #[true, true, true, false, false, false, false, false, false, false, false, false, false, false, false, false, false] rfl rfl (by kernel_rfl) (fun _ _ _ h => h) (Or.inl ⟨by rfl, ?_⟩) ?_ ?_
          rotate_left
          · intro w'
            go_simp
            with_reducible rfl
          rotate_left
          · simp only [Act.put, List.setIfInBounds_toArray, List.set_cons_zero, List.set_cons_succ, i64_w, i32_w]
            rfl
          refine pure_ (i := 3) (N := some 47) (v := ?_) (a' := ?_) #[true, true, true, true, false, false, false, false, false, false, false, false, false, false, false, false, false] rfl rfl (by kernel_rfl) (fun _ _ _ h => h) (Or.inl ⟨by rfl, ?_⟩) ?_ ?_
          rotate_left
          · intro w'
            go_simp
            with_reducible rfl
          rotate_left
          · simp only [Act.put, List.setIfInBounds_toArray, List.set_cons_zero, List.set_cons_succ, i64_w, i32_w]
            rfl
          refine pure_ (i := 4) (N := some 48) (v := ?_) (a' := ?_) #[true, true, true, true, true, false, false, false, false, false, false, false, false, false, false, false, false] rfl rfl (by kernel_rfl) (fun _ _ _ h => h) (Or.inl ⟨by rfl, ?_⟩) ?_ ?_
          rotate_left
          · intro w'
            go_simp
            with_reducible rfl
          rotate_left
          · simp only [Act.put, List.setIfInBounds_toArray, List.set_cons_zero, List.set_cons_succ, i64_w, i32_w]
            rfl
          refine pure_ (i := 5) (N := some 49) (v := ?_) (a' := ?_) #[true, true, true, true, true, true, false, false, false, false, false, false, false, false, false, false, false] rfl rfl (by kernel_rfl) (fun _ _ _ h => h) (Or.inl ⟨by rfl, ?_⟩) ?_ ?_
          rotate_left
          · intro w'
            go_simp
            with_reducible rfl
          rotate_left
          · simp only [Act.put, List.setIfInBounds_toArray, List.set_cons_zero, List.set_cons_succ, i64_w, i32_w]
            rfl
          refine pure_ (i := 6) (N := some 50) (v := ?_) (a' := ?_) #[true, true, true, true, true, true, true, false, false, false, false, false, false, false, false, false, false] rfl rfl (by kernel_rfl) (fun _ _ _ h => h) (Or.inl ⟨by rfl, ?_⟩) ?_ ?_
          rotate_left
          · intro w'
            go_simp
            with_reducible rfl
          rotate_left
          · simp only [Act.put, List.setIfInBounds_toArray, List.set_cons_zero, List.set_cons_succ, i64_w, i32_w]
            rfl
          refine pure_ (i := 7) (N := some 51) (v := undef) (a' := ?_) #[true, true, true, true, true, true, true, true, false, false, false, false, false, false, false, false, false] rfl rfl (by kernel_rfl) (fun _ _ _ h => h) (Or.inr ⟨by rfl, rfl⟩) ?_ ?_
          rotate_left
          · simp only [Act.put, List.setIfInBounds_toArray, List.set_cons_zero, List.set_cons_succ, i64_w, i32_w]
            rfl
          refine pure_ (i := 8) (N := some 52) (v := undef) (a' := ?_) #[true, true, true, true, true, true, true, true, true, false, false, false, false, false, false, false, false] rfl rfl (by kernel_rfl) (fun _ _ _ h => h) (Or.inr ⟨by rfl, rfl⟩) ?_ ?_
          rotate_left
          · simp only [Act.put, List.setIfInBounds_toArray, List.set_cons_zero, List.set_cons_succ, i64_w, i32_w]
            rfl
          refine pure_ (i := 9) (N := some 53) (v := undef) (a' := ?_) #[true, true, true, true, true, true, true, true, true, true, false, false, false, false, false, false, false] rfl rfl (by kernel_rfl) (fun _ _ _ h => h) (Or.inr ⟨by rfl, rfl⟩) ?_ ?_
          rotate_left
          · simp only [Act.put, List.setIfInBounds_toArray, List.set_cons_zero, List.set_cons_succ, i64_w, i32_w]
            rfl
          refine pure_ (i := 10) (N := some 54) (v := undef) (a' := ?_) #[true, true, true, true, true, true, true, true, true, true, true, false, false, false, false, false, false] rfl rfl (by kernel_rfl) (fun _ _ _ h => h) (Or.inr ⟨by rfl, rfl⟩) ?_ ?_
          rotate_left
          · simp only [Act.put, List.setIfInBounds_toArray, List.set_cons_zero, List.set_cons_succ, i64_w, i32_w]
            rfl
          refine pure_ (i := 11) (N := some 55) (v := ?_) (a' := ?_) #[true, true, true, true, true, true, true, true, true, true, true, true, false, false, false, false, false] rfl rfl (by kernel_rfl) (fun _ _ _ h => h) (Or.inl ⟨by rfl, ?_⟩) ?_ ?_
          rotate_left
          · intro w'
            go_simp
            with_reducible rfl
          rotate_left
          · simp only [Act.put, List.setIfInBounds_toArray, List.set_cons_zero, List.set_cons_succ, i64_w, i32_w]
            rfl
          refine pure_ (i := 12) (N := some 56) (v := ?_) (a' := ?_) #[true, true, true, true, true, true, true, true, true, true, true, true, true, false, false, false, false] rfl rfl (by kernel_rfl) (fun _ _ _ h => h) (Or.inl ⟨by rfl, ?_⟩) ?_ ?_
          rotate_left
          · intro w'
            go_simp
            with_reducible rfl
          rotate_left
          · simp only [Act.put, List.setIfInBounds_toArray, List.set_cons_zero, List.set_cons_succ, i64_w, i32_w]
            rfl
          refine pure_ (i := 13) (N := some 57) (v := ?_) (a' := ?_) #[true, true, true, true, true, true, true, true, true, true, true, true, true, true, false, false, false] rfl rfl (by kernel_rfl) (fun _ _ _ h => h) (Or.inl ⟨by rfl, ?_⟩) ?_ ?_
          rotate_left
          · intro w'
            go_simp
            with_reducible rfl
          rotate_left
          · simp only [Act.put, List.setIfInBounds_toArray, List.set_cons_zero, List.set_cons_succ, i64_w, i32_w]
            rfl
          refine one_ (i := 14) (N := some 58) #[true, true, true, true, true, true, true, true, true, true, true, true, true, true, true, false, false] rfl rfl (by kernel_rfl) (by decide) (fun K hK => ?_)
          refine goes_ Tryd.func10 (by kernel_rfl) rfl #[] (by rfl) rfl rfl (by simp only [List.map_toArray, List.map_cons, List.map_nil]) ?_
          with_reducible refine (normAwake W11.drew).mono ?_
          rintro e w14 ⟨rfl, hb14⟩
          refine ⟨_, rfl, ?_⟩
          have hc14 : Below W11.heap.size W11 w14 := below_un hb14
          have HC14 := Aside0.mk hc14
          clear hb14 hc14
          refine hK.out _ _ trivial (fun hHeld => ?_)
          clear hK K
          refine norm_ (a' := ?_) ?_ ?_
          rotate_left
          · show Act.put _ (some 58) _ = _
            simp only [Act.put, List.setIfInBounds_toArray, List.set_cons_zero, List.set_cons_succ, i64_w, i32_w]
            rfl
          refine pure_ (i := 15) (N := some 59) (v := ?_) (a' := ?_) #[true, true, true, true, true, true, true, true, true, true, true, true, true, true, true, true, false] rfl rfl (by kernel_rfl) (fun _ _ _ h => h) (Or.inl ⟨by rfl, ?_⟩) ?_ ?_
          rotate_left
          · intro w'
            go_simp
            with_reducible rfl
          rotate_left
          · simp only [Act.put, List.setIfInBounds_toArray, List.set_cons_zero, List.set_cons_succ, i64_w, i32_w]
            rfl
          refine pure_ (i := 16) (N := some 6) (v := ?_) (a' := ?_) #[true, true, true, true, true, true, true, true, true, true, true, true, true, true, true, true, true] rfl rfl (by kernel_rfl) (fun _ _ _ h => h) (Or.inl ⟨by rfl, ?_⟩) ?_ ?_
          rotate_left
          · intro w'
            go_simp
            with_reducible rfl
          rotate_left
          · simp only [Act.put, List.setIfInBounds_toArray, List.set_cons_zero, List.set_cons_succ, i64_w, i32_w]
            rfl
          refine done_ (by kernel_rfl) ?_
          
          go_wp2
          go_ret
          exact ⟨rfl, HB11.out.trans (HC14.out.mono HB11.out.size)⟩
        | some d =>
          obtain rfl : left = true := HLF.out
          obtain ⟨htd, hmt⟩ := HT11.out d rfl
          have HMT := Aside0.mk hmt
          have hmw := (HMD7.out d rfl).below_ HK11.out
          unfold RV.val at hmw
          have HMW := Aside0.mk hmw
          have HTD : Hid (Twin d.S t) := Lib.hid (by rw [htd]; exact HZT.out d rfl)
          have HBD : Hid (Bnd d.S) := Lib.hid HTD.out.bnd
          clear htd hmt hmw
          refine start_ (n := 17) (S := fun w' => w'.cell? ⟨b11, 0, none⟩ = some (.int .i64 t.f0) ∧ w'.cell? ⟨b11, 1, none⟩ = some (.int .i64 t.f1) ∧ w'.cell? ⟨b11, 2, none⟩ = some (.string t.f2) ∧ w'.cell? ⟨b11, 3, none⟩ = some (.slice E3 t.f3.length a3) ∧ w'.cell? ⟨b11, 4, none⟩ = some (.slice E4 t.f4.length a4) ∧ w'.cell? ⟨b7, 0, none⟩ = some (.int .i64 r.n0) ∧ w'.cell? ⟨b7, 1, none⟩ = some (.int .i64 r.n1) ∧ w'.cell? ⟨b7, 2, none⟩ = some (.string r.t) ∧ w'.cell? ⟨b7, 3, none⟩ = some (.slice r.A r.an r.ac) ∧ w'.cell? ⟨b7, 4, none⟩ = some (.slice r.B r.bn r.bc)) (ds := []) #[false, false, false, false, false, false, false, false, false, false, false, false, false, false, false, false, false] (by kernel_rfl) rfl rfl ⟨o0, o1, o2, o3, o4, q0, q1, q2, q3, q4⟩ (fun hHeld => ?_)
          refine pure_ (i := 0) (N := some 44) (v := ?_) (a' := ?_) #[true, false, false, false, false, false, false, false, false, false, false, false, false, false, false, false, false] rfl rfl (by kernel_rfl) (fun _ _ _ h => h) (Or.inl ⟨by rfl, ?_⟩) ?_ ?_
          rotate_left
          · intro w'
            go_simp
            with_reducible rfl
          rotate_left
          · simp only [Act.put, List.setIfInBounds_toArray, List.set_cons_zero, List.set_cons_succ, i64_w, i32_w]
            rfl
          refine pure_ (i := 1) (N := some 45) (v := ?_) (a' := ?_) #[true, true, false, false, false, false, false, false, false, false, false, false, false, false, false, false, false] rfl rfl (by kernel_rfl) (fun _ _ _ h => h) (Or.inl ⟨by rfl, ?_⟩) ?_ ?_
          rotate_left
          · intro w'
            go_simp
            with_reducible rfl
          rotate_left
          · simp only [Act.put, List.setIfInBounds_toArray, List.set_cons_zero, List.set_cons_succ, i64_w, i32_w]
            rfl
          refine pure_ (i := 2) (N := some 46) (v := ?_) (a' := ?_) #[true, true, true, false, false, false, false, false, false, false, false, false, false, false, false, false, false] rfl rfl (by kernel_rfl) (fun _ _ _ h => h) (Or.inl ⟨by rfl, ?_⟩) ?_ ?_
          rotate_left
          · intro w'
            go_simp
            with_reducible rfl
          rotate_left
          · simp only [Act.put, List.setIfInBounds_toArray, List.set_cons_zero, List.set_cons_succ, i64_w, i32_w]
            rfl
          refine pure_ (i := 3) (N := some 47) (v := ?_) (a' := ?_) #[true, true, true, true, false, false, false, false, false, false, false, false, false, false, false, false, false] rfl rfl (by kernel_rfl) (fun _ _ _ h => h) (Or.inl ⟨by rfl, ?_⟩) ?_ ?_
          rotate_left
          · intro w'
            go_simp
            with_reducible rfl
          rotate_left
          · simp only [Act.put, List.setIfInBounds_toArray, List.set_cons_zero, List.set_cons_succ, i64_w, i32_w]
            rfl
          refine pure_ (i := 4) (N := some 48) (v := ?_) (a' := ?_) #[true, true, true, true, true, false, false, false, false, false, false, false, false, false, false, false, false] rfl rfl (by kernel_rfl) (fun _ _ _ h => h) (Or.inl ⟨by rfl, ?_⟩) ?_ ?_
          rotate_left
          · intro w'
            go_simp
            with_reducible rfl
          rotate_left
          · simp only [Act.put, List.setIfInBounds_toArray, List.set_cons_zero, List.set_cons_succ, i64_w, i32_w]
            rfl
          refine pure_ (i := 5) (N := some 49) (v := ?_) (a' := ?_) #[true, true, true, true, true, true, false, false, false, false, false, false, false, false, false, false, false] rfl rfl (by kernel_rfl) (fun _ _ _ h => h) (Or.inl ⟨by rfl, ?_⟩) ?_ ?_
          rotate_left
          · intro w'
            go_simp
            with_reducible rfl
          rotate_left
          · simp only [Act.put, List.setIfInBounds_toArray, List.set_cons_zero, List.set_cons_succ, i64_w, i32_w]
            rfl
          refine pure_ (i := 6) (N := some 50) (v := ?_) (a' := ?_) #[true, true, true, true, true, true, true, false, false, false, false, false, false, false, false, false, false] rfl rfl (by kernel_rfl) (fun _ _ _ h => h) (Or.inl ⟨by rfl, ?_⟩) ?_ ?_
          rotate_left
          · intro w'
            go_simp
            with_reducible rfl
          rotate_left
          · simp only [Act.put, List.setIfInBounds_toArray, List.set_cons_zero, List.set_cons_succ, i64_w, i32_w]
            rfl
          refine take_ (i := 7) (N := some 51) (v := ?_) (a' := ?_) #[true, true, true, true, true, true, true, true, false, false, false, false, false, false, false, false, false] rfl rfl (by kernel_rfl) (fun _ _ _ h => h) (Or.inl ⟨by rfl, ?_⟩) hHeld ?_ ?_
          rotate_left
          · rintro w' ⟨s0, s1, s2, s3, s4, s5, s6, s7, s8, s9⟩
            go_simp
            with_reducible rfl
          rotate_left
          · simp only [Act.put, List.setIfInBounds_toArray, List.set_cons_zero, List.set_cons_succ, i64_w, i32_w]
            rfl
          refine take_ (i := 9) (N := some 53) (v := ?_) (a' := ?_) #[true, true, true, true, true, true, true, true, false, true, false, false, false, false, false, false, false] rfl rfl (by kernel_rfl) (fun _ _ _ h => h) (Or.inl ⟨by rfl, ?_⟩) hHeld ?_ ?_
          rotate_left
          · rintro w' ⟨s0, s1, s2, s3, s4, s5, s6, s7, s8, s9⟩
            go_simp
            with_reducible rfl
          rotate_left
          · simp only [Act.put, List.setIfInBounds_toArray, List.set_cons_zero, List.set_cons_succ, i64_w, i32_w]
            rfl
          refine one_ (i := 8) (N := some 52) #[true, true, true, true, true, true, true, true, true, true, false, false, false, false, false, false, false] rfl rfl (by kernel_rfl) (by decide) (fun K hK => ?_)
          refine goes_ Tryd.func15 (by kernel_rfl) rfl #[.agg #[.int .i64 t.f0, .int .i64 t.f1, .string t.f2, .slice E3 t.f3.length a3, .slice E4 t.f4.length a4]] (by rfl) rfl rfl (by simp only [List.map_toArray, List.map_cons, List.map_nil]; rfl) ?_
          with_reducible refine (law_from HTD.out (w := W11.drew) (HMT.out.below_ (below_drew1 (Below.refl _ _)))).mono ?_
          rintro e w12 ⟨⟨u12, rfl, hu12⟩, hb12⟩
          refine ⟨_, rfl, ?_⟩
          have HU12 := Aside0.mk hu12
          have hc12 : Below W11.heap.size W11 w12 := below_un hb12
          have HC12 := Aside0.mk hc12
          clear hu12 hb12 hc12
          refine hK.out _ _ ⟨(HC12.out.cell (World.block_lt_of_cell? W11 _ o0)).trans o0, (HC12.out.cell (World.block_lt_of_cell? W11 _ o1)).trans o1, (HC12.out.cell (World.block_lt_of_cell? W11 _ o2)).trans o2, (HC12.out.cell (World.block_lt_of_cell? W11 _ o3)).trans o3, (HC12.out.cell (World.block_lt_of_cell? W11 _ o4)).trans o4, (HC12.out.cell (World.block_lt_of_cell? W11 _ q0)).trans q0, (HC12.out.cell (World.block_lt_of_cell? W11 _ q1)).trans q1, (HC12.out.cell (World.block_lt_of_cell? W11 _ q2)).trans q2, (HC12.out.cell (World.block_lt_of_cell? W11 _ q3)).trans q3, (HC12.out.cell (World.block_lt_of_cell? W11 _ q4)).trans q4⟩ (fun hHeld => ?_)
          clear hK K
          refine norm_ (a' := ?_) ?_ ?_
          rotate_left
          · show Act.put _ (some 52) _ = _
            simp only [Act.put, List.setIfInBounds_toArray, List.set_cons_zero, List.set_cons_succ, i64_w, i32_w]
            rfl
          refine one_ (i := 10) (N := some 54) #[true, true, true, true, true, true, true, true, true, true, true, false, false, false, false, false, false] rfl rfl (by kernel_rfl) (by decide) (fun K hK => ?_)
          refine goes_ Tryd.func14 (by kernel_rfl) rfl #[u12, .agg #[.int .i64 r.n0, .int .i64 r.n1, .string r.t, .slice r.A r.an r.ac, .slice r.B r.bn r.bc]] (by rfl) rfl rfl (by simp only [List.map_toArray, List.map_cons, List.map_nil]; rfl) ?_
          with_reducible refine (law_same HBD.out HU12.out (HMW.out.below_ HC12.out)).mono ?_
          rintro e w13 ⟨rfl, hb13⟩
          refine ⟨_, rfl, ?_⟩
          have HC13 := Aside0.mk (below_then HC12.out HC12.out.size hb13)
          clear hb13
          refine hK.out _ _ ⟨(HC13.out.cell (World.block_lt_of_cell? W11 _ o0)).trans o0, (HC13.out.cell (World.block_lt_of_cell? W11 _ o1)).trans o1, (HC13.out.cell (World.block_lt_of_cell? W11 _ o2)).trans o2, (HC13.out.cell (World.block_lt_of_cell? W11 _ o3)).trans o3, (HC13.out.cell (World.block_lt_of_cell? W11 _ o4)).trans o4, (HC13.out.cell (World.block_lt_of_cell? W11 _ q0)).trans q0, (HC13.out.cell (World.block_lt_of_cell? W11 _ q1)).trans q1, (HC13.out.cell (World.block_lt_of_cell? W11 _ q2)).trans q2, (HC13.out.cell (World.block_lt_of_cell? W11 _ q3)).trans q3, (HC13.out.cell (World.block_lt_of_cell? W11 _ q4)).trans q4⟩ (fun hHeld => ?_)
          clear hK K
          refine norm_ (a' := ?_) ?_ ?_
          rotate_left
          · show Act.put _ (some 54) _ = _
            simp only [Act.put, List.setIfInBounds_toArray, List.set_cons_zero, List.set_cons_succ, i64_w, i32_w]
            rfl
          refine pure_ (i := 11) (N := some 55) (v := ?_) (a' := ?_) #[true, true, true, true, true, true, true, true, true, true, true, true, false, false, false, false, false] rfl rfl (by kernel_rfl) (fun _ _ _ h => h) (Or.inl ⟨by rfl, ?_⟩) ?_ ?_
          rotate_left
          · intro w'
            go_simp
            with_reducible rfl
          rotate_left
          · simp only [Act.put, List.setIfInBounds_toArray, List.set_cons_zero, List.set_cons_succ, i64_w, i32_w]
            rfl
          refine pure_ (i := 12) (N := some 56) (v := ?_) (a' := ?_) #[true, true, true, true, true, true, true, true, true, true, true, true, true, false, false, false, false] rfl rfl (by kernel_rfl) (fun _ _ _ h => h) (Or.inl ⟨by rfl, ?_⟩) ?_ ?_
          rotate_left
          · intro w'
            go_simp
            with_reducible rfl
          rotate_left
          · simp only [Act.put, List.setIfInBounds_toArray, List.set_cons_zero, List.set_cons_succ, i64_w, i32_w]
            rfl
          refine pure_ (i := 13) (N := some 57) (v := ?_) (a' := ?_) #[true, true, true, true, true, true, true, true, true, true, true, true, true, true, false, false, false] rfl rfl (by kernel_rfl) (fun _ _ _ h => h) (Or.inl ⟨by rfl, ?_⟩) ?_ ?_
          rotate_left
          · intro w'
            go_simp
            with_reducible rfl
          rotate_left
          · simp only [Act.put, List.setIfInBounds_toArray, List.set_cons_zero, List.set_cons_succ, i64_w, i32_w]
            rfl
          refine one_ (i := 14) (N := some 58) #[true, true, true, true, true, true, true, true, true, true, true, true, true, true, true, false, false] rfl rfl (by kernel_rfl) (by decide) (fun K hK => ?_)
          refine goes_ Tryd.func10 (by kernel_rfl) rfl #[] (by rfl) rfl rfl (by simp only [List.map_toArray, List.map_cons, List.map_nil]) ?_
          with_reducible refine (normAwake w13).mono ?_
          rintro e w14 ⟨rfl, hb14⟩
          refine ⟨_, rfl, ?_⟩
          have HC14 := Aside0.mk (below_then HC13.out HC13.out.size hb14)
          clear hb14
          refine hK.out _ _ ⟨(HC14.out.cell (World.block_lt_of_cell? W11 _ o0)).trans o0, (HC14.out.cell (World.block_lt_of_cell? W11 _ o1)).trans o1, (HC14.out.cell (World.block_lt_of_cell? W11 _ o2)).trans o2, (HC14.out.cell (World.block_lt_of_cell? W11 _ o3)).trans o3, (HC14.out.cell (World.block_lt_of_cell? W11 _ o4)).trans o4, (HC14.out.cell (World.block_lt_of_cell? W11 _ q0)).trans q0, (HC14.out.cell (World.block_lt_of_cell? W11 _ q1)).trans q1, (HC14.out.cell (World.block_lt_of_cell? W11 _ q2)).trans q2, (HC14.out.cell (World.block_lt_of_cell? W11 _ q3)).trans q3, (HC14.out.cell (World.block_lt_of_cell? W11 _ q4)).trans q4⟩ (fun hHeld => ?_)
          clear hK K
          refine norm_ (a' := ?_) ?_ ?_
          rotate_left
          · show Act.put _ (some 58) _ = _
            simp only [Act.put, List.setIfInBounds_toArray, List.set_cons_zero, List.set_cons_succ, i64_w, i32_w]
            rfl
          refine pure_ (i := 15) (N := some 59) (v := ?_) (a' := ?_) #[true, true, true, true, true, true, true, true, true, true, true, true, true, true, true, true, false] rfl rfl (by kernel_rfl) (fun _ _ _ h => h) (Or.inl ⟨by rfl, ?_⟩) ?_ ?_
          rotate_left
          · intro w'
            go_simp
            with_reducible rfl
          rotate_left
          · simp only [Act.put, List.setIfInBounds_toArray, List.set_cons_zero, List.set_cons_succ, i64_w, i32_w]
            rfl
          refine pure_ (i := 16) (N := some 6) (v := ?_) (a' := ?_) #[true, true, true, true, true, true, true, true, true, true, true, true, true, true, true, true, true] rfl rfl (by kernel_rfl) (fun _ _ _ h => h) (Or.inl ⟨by rfl, ?_⟩) ?_ ?_
          rotate_left
          · intro w'
            go_simp
            with_reducible rfl
          rotate_left
          · simp only [Act.put, List.setIfInBounds_toArray, List.set_cons_zero, List.set_cons_succ, i64_w, i32_w]
            rfl
          refine done_ (by kernel_rfl) ?_
          
          go_wp2
          go_ret
          exact ⟨rfl, HB11.out.trans (HC14.out.mono HB11.out.size)⟩
end Go.Proofs.YtgeamhmenmomhaaDoor.A
