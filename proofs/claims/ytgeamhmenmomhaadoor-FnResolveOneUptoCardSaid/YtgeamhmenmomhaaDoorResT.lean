/- Joined texts. -/
import Derived.Test.YtgeamhmenmomhaaDoorResQ
import Derived.Test.YtgeamhmenmomhaaDoorFitM
/- The walk of spec.ResolveOne of what is no list and no map (printed by gen_res.py). -/
namespace Go.Proofs.YtgeamhmenmomhaaDoor.A
set_option linter.unusedVariables false
set_option linter.unusedSimpArgs false
set_option linter.unusedSectionVars false
open Go.RowKit Go.Proofs.YtgeamhmenmomhaaDoorW.PrintWords Go.Proofs.YtgeamhmenmomhaaDoorW.PrintLast Go.Proofs.YtgeamhmenmomhaaDoorW.PrintMore Go.Proofs.YtgeamhmenmomhaaDoor.PT Go.Proofs.YtgeamhmenmomhaaDoor.L Go.Proofs.YtgeamhmenmomhaaDoor.SM

def ResSays (l : List U.SP) (keep : Bool) (x : SV) (w : World) (e : Ending) (w' : World) : Prop := ∃ (r : RV) (left said : Bool), e = .returned (.tuple #[r.val, .bool left, .bool said]) ∧ Below w.heap.size w w' ∧
  (x.f0 = 3 → left = (resT (envE l) keep x.f2).isSome ∧ ∀ s, resT (envE l) keep x.f2 = some s → FlatT s r) ∧ said = (descr x).isSome ∧ ∀ rd, descr x = some rd → left = (rd.res (envE l) keep).isSome ∧ ∀ z, rd.res (envE l) keep = some z → MadeS z.S w' r.val
def ResC (l : List U.SP) (A0 : Option Addr) (c0 : Nat) (keep : Bool) (x : SV) (w : World) : Prop := ∀ v, MadeS x w v → Calls Tryd.prog 9 #[v, .slice A0 l.length c0, .bool keep] w (ResSays l keep x w)
theorem ResC.use {l : List U.SP} {A0 : Option Addr} {c0 : Nat} {keep : Bool} {x : SV} {w : World} (h : ResC l A0 c0 keep x w) (A3 : Option Addr) (c3 : Nat) (A4 : Option Addr) (c4 : Nat) (h3 : x.f3.length ≤ c3) (g3 : Kd.C Kd.string w A3 x.f3.length x.f3) (h4 : x.f4.length ≤ c4) (g4 : Kd.C kS w A4 x.f4.length x.f4) : Calls Tryd.prog 9 #[cellsS x A3 c3 A4 c4, .slice A0 l.length c0, .bool keep] w (ResSays l keep x w) := h _ ⟨A3, c3, A4, c4, rfl, h3, g3, h4, g4⟩
theorem text_says {l : List U.SP} {keep : Bool} {x : SV} (h3 : x.f0 = 3) {w w' : World} {r : RV} {left : Bool} (hb : Below w.heap.size w w') (hl : left = (resT (envE l) keep x.f2).isSome) (hr : ∀ s, resT (envE l) keep x.f2 = some s → FlatT s r) : ResSays l keep x w (.returned (.tuple #[r.val, .bool left, .bool true])) w' := by
  have hd : descr x = some (.text x.f2) := by unfold descr; rw [if_pos h3]
  refine ⟨r, left, true, rfl, hb, fun _ => ⟨hl, hr⟩, by rw [hd]; rfl, fun rd h => ?_⟩
  rw [hd] at h
  injection h with h
  subst h
  rw [show (RD.text x.f2).res (envE l) keep = (resT (envE l) keep x.f2).map RD.text from rfl]
  refine ⟨by rw [hl]; cases resT (envE l) keep x.f2 <;> rfl, fun z hz => ?_⟩
  cases hq : resT (envE l) keep x.f2 with
  | none => rw [hq] at hz; cases hz
  | some s =>
    rw [hq] at hz
    injection hz with hz
    subst hz
    exact (deep_T (P := fun _ => True) (hr s hq)).parts
theorem none_says {l : List U.SP} {keep : Bool} {x : SV} (h3 : x.f0 ≠ 3) (hd : descr x = none) {w w' : World} {r : RV} {left : Bool} (hb : Below w.heap.size w w') : ResSays l keep x w (.returned (.tuple #[r.val, .bool left, .bool false])) w' :=
  ⟨r, left, false, rfl, hb, fun h => absurd h h3, by rw [hd]; rfl, fun rd h => by rw [hd] at h; cases h⟩
theorem setCell_grown (w : World) (a : Addr) (u : Value) : w.grownBy (w.setCell a u) (some a.block) := ⟨rfl, rfl, rfl, by rw [setCell_size]; exact Nat.le_refl _, fun k hk hn => Below.heap_setCell _ _ _ _ (fun e => hn (by rw [e]))⟩
set_option maxHeartbeats 8000000 in
set_option maxRecDepth 100000 in
theorem res_text (l : List U.SP) (A0 : Option Addr) (c0 : Nat) (keep : Bool) (x : SV) (h3' : x.f0 = 3) (hf : FineS x) (hs : x.f2.size ≤ 1048576) (hl : l.length ≤ 1048576) (hvs : ∀ k v, envE l k = some v → v.size ≤ 1048576) (w : World) (hr0 : Kd.C k51 w A0 l.length l) (hc0 : l.length ≤ c0) : ResC l A0 c0 keep x w := by
  rintro v ⟨A3, c3, A4, c4, rfl, h3, g3, h4, g4⟩
  have HFL : Hid (FlatT x.f2 ⟨3, x.f1, x.f2, A3, x.f3.length, c3, A4, x.f4.length, c4⟩) := Lib.hid (by have := flat_T hf h3' A3 c3 A4 c4; unfold rvS at this; rw [h3'] at this; exact this)
  have HF0 := Lib.hid h3'
  unfold cellsS
  rw [h3']
  obtain ⟨a, b, hcut⟩ := cut_q x.f2 (by omega)
  obtain ⟨q, hq⟩ : ∃ q, q = hasQ x.f2 := ⟨_, rfl⟩
  obtain ⟨ev, hev⟩ : ∃ ev, ev = envE l x.f2 := ⟨_, rfl⟩
  have hlk := look_E l x.f2 (by omega)
  rw [← hq] at hcut
  rw [← hev] at hlk
  have HCUT := Lib.hid hcut
  have HLK := Lib.hid hlk
  have HQ : Hid (resT (envE l) keep x.f2 = resV q ev keep x.f2) := Lib.hid (by unfold resT; rw [hq, hev])
  have HSZ : Hid (∀ v, ev = some v → ¬ 9223372036854775807 < x.f2.size + eqB.size ∧ ¬ 9223372036854775807 < (x.f2 ++ eqB).size + v.size ∧ ¬ 9223372036854775807 < x.f2.size + eqB.size + v.size ∧ ¬ 9223372036854775807 < x.f2.size + 1 + v.size) := Lib.hid (fun v hv => by
    have h1 := hvs x.f2 v (by rw [← hev]; exact hv)
    have h2 : eqB.size = 1 := rfl
    rw [ByteArray.size_append]
    omega)
  have HR0 := Aside0.mk hr0
  have HC0 := Lib.hid hc0
  clear hvs h3' hf hs hl hr0 hc0 h3 g3 h4 g4 hcut hq hev hlk
  · skip
    obtain ⟨W0, hW0⟩ : ∃ W0 : World, W0 = (w.alloc (Obj.cells #[.int .i64 3, .int .i64 x.f1, .string x.f2, .slice A3 x.f3.length c3, .slice A4 x.f4.length c4] 25)).alloc (Obj.cells #[.int .i64 0, .int .i64 0, .string ⟨#[]⟩, .slice none 0 0, .slice none 0 0] 25) := ⟨_, rfl⟩
    obtain ⟨W1, hW1⟩ : ∃ W1 : World, W1 = W0.alloc (Obj.cells #[.int .i64 3, .int .i64 0, .string ⟨#[]⟩, .slice none 0 0, .slice none 0 0] 25) := ⟨_, rfl⟩
    have hb0 : Below w.heap.size w W0 := by rw [hW0]; exact ((Below.refl _ _).alloc (Nat.le_refl _) _).alloc (by simp) _
    have hs0 : W0.heap.size = w.heap.size + 2 := by rw [hW0]; simp
    have hbx0 : W0.heap[w.heap.size]? = some (.cells #[.int .i64 3, .int .i64 x.f1, .string x.f2, .slice A3 x.f3.length c3, .slice A4 x.f4.length c4] 25 (0, 0)) := by rw [hW0]; exact heap_oldI (new_atI rfl)
    have hbx : W1.heap[w.heap.size]? = some (.cells #[.int .i64 3, .int .i64 x.f1, .string x.f2, .slice A3 x.f3.length c3, .slice A4 x.f4.length c4] 25 (0, 0)) := by rw [hW1]; exact heap_oldI hbx0
    have hre : W1.heap[w.heap.size + 1]? = some (.cells zV 25 (0, 0)) := by rw [hW1, hW0]; exact heap_oldI (new_atI (by simp))
    have hou : W1.heap[w.heap.size + 2]? = some (.cells #[.int .i64 3, .int .i64 0, .string ⟨#[]⟩, .slice none 0 0, .slice none 0 0] 25 (0, 0)) := by rw [hW1]; exact new_atI hs0
    have HB1 : Aside0 (Below w.heap.size w W1) := ⟨by rw [hW1]; exact hb0.alloc hb0.size _⟩
    have HS0 := Lib.hid hs0
    have HS1 : Hid (W1.heap.size = w.heap.size + 3) := Lib.hid (by rw [hW1]; simp [hs0])
    have HBX := Aside0.mk hbx
    have HRE := Aside0.mk hre
    have HOU := Aside0.mk hou
    have HW0 := Lib.hid hW0
    have HW1 := Lib.hid hW1
    have m0 : W0.cell? ⟨w.heap.size, 0, none⟩ = some (.int .i64 3) := (blk_cell hbx0 0).trans rfl
    clear hb0 hs0 hbx0 hbx hre hou hW0 hW1
    go_enter Tryd.func9, Tryd.ntmps9
    go_upto_region 1 with fail
    rw [← HW0.out]
    go_upto_region 2 with fail
    rw [← HW1.out, HS0.out]
    clear m0
    have x0 : W1.cell? ⟨w.heap.size, 0, none⟩ = some (.int .i64 3) := (blk_cell HBX.out 0).trans rfl
    have x1 : W1.cell? ⟨w.heap.size, 1, none⟩ = some (.int .i64 x.f1) := (blk_cell HBX.out 1).trans rfl
    have x2 : W1.cell? ⟨w.heap.size, 2, none⟩ = some (.string x.f2) := (blk_cell HBX.out 2).trans rfl
    have x3 : W1.cell? ⟨w.heap.size, 3, none⟩ = some (.slice A3 x.f3.length c3) := (blk_cell HBX.out 3).trans rfl
    have x4 : W1.cell? ⟨w.heap.size, 4, none⟩ = some (.slice A4 x.f4.length c4) := (blk_cell HBX.out 4).trans rfl
    go_wp2_with fail
    refine (spec_mapsCut.calls _ x.f2 _ _ _ W1 HCUT.out).mono ?_
    clear x0 x1 x2 x3 x4
    rintro e w1 ⟨rfl, hd⟩
    have hb := hd.below
    have HB2 := Aside0.mk (below_then HB1.out HB1.out.size hb)
    have hx := blk_below HBX.out hb
    have hr := blk_below HRE.out hb
    have x0 : w1.cell? ⟨w.heap.size, 0, none⟩ = some (.int .i64 3) := (blk_cell hx 0).trans rfl
    have x1 : w1.cell? ⟨w.heap.size, 1, none⟩ = some (.int .i64 x.f1) := (blk_cell hx 1).trans rfl
    have x2 : w1.cell? ⟨w.heap.size, 2, none⟩ = some (.string x.f2) := (blk_cell hx 2).trans rfl
    have x3 : w1.cell? ⟨w.heap.size, 3, none⟩ = some (.slice A3 x.f3.length c3) := (blk_cell hx 3).trans rfl
    have x4 : w1.cell? ⟨w.heap.size, 4, none⟩ = some (.slice A4 x.f4.length c4) := (blk_cell hx 4).trans rfl
    have HX2 := Aside0.mk hx
    have HRE2 := Aside0.mk hr
    clear hd
    cases q with
    | true =>
      clear hb
      have n0 : w1.cell? ⟨w.heap.size + 1, 0, none⟩ = some (.int .i64 0) := (blk_cell hr 0).trans rfl
      have n1 : w1.cell? ⟨w.heap.size + 1, 1, none⟩ = some (.int .i64 0) := (blk_cell hr 1).trans rfl
      have n2 : w1.cell? ⟨w.heap.size + 1, 2, none⟩ = some (.string ⟨#[]⟩) := (blk_cell hr 2).trans rfl
      have n3 : w1.cell? ⟨w.heap.size + 1, 3, none⟩ = some (.slice none 0 0) := (blk_cell hr 3).trans rfl
      have n4 : w1.cell? ⟨w.heap.size + 1, 4, none⟩ = some (.slice none 0 0) := (blk_cell hr 4).trans rfl
      have f0 := blk_frozen hr 0
      have f1 := blk_frozen hr 1
      have f2 := blk_frozen hr 2
      have f3 := blk_frozen hr 3
      have f4 := blk_frozen hr 4
      clear hx hr
      go_wp2
      refine bodyPost_ret (v := .tuple #[.agg #[.int .i64 3, .int .i64 x.f1, .string x.f2, .slice A3 x.f3.length c3, .slice A4 x.f4.length c4], .bool true, .bool true]) (by simp [results, Tryd.results9, go_sem, *]) rfl ?_
      exact text_says HF0.out (left := true) (r := ⟨3, x.f1, x.f2, A3, x.f3.length, c3, A4, x.f4.length, c4⟩) (below5 HB2.out _ (Nat.le_succ _) _ _ _ _ _) (by rw [HQ.out]; rfl) (fun s hs => by rw [HQ.out] at hs; injection hs with hs; subst hs; exact HFL.out)
    | false =>
      clear hx hr
      go_wp2_with fail
      refine (spec_Look.calls _ A0 c0 l x.f2 _ _ _ (Kd.C_below HR0.out HB2.out) HC0.out HLK.out).mono ?_
      clear x0 x1 x2 x3 x4
      rintro e w2 ⟨rfl, hd⟩
      have hb := hd.below
      have HB3 := Aside0.mk (below_then HB2.out HB2.out.size hb)
      have hx := blk_below HX2.out hb
      have hr := blk_below HRE2.out hb
      have HRE3 := Aside0.mk hr
      have x0 : w2.cell? ⟨w.heap.size, 0, none⟩ = some (.int .i64 3) := (blk_cell hx 0).trans rfl
      have x1 : w2.cell? ⟨w.heap.size, 1, none⟩ = some (.int .i64 x.f1) := (blk_cell hx 1).trans rfl
      have x2 : w2.cell? ⟨w.heap.size, 2, none⟩ = some (.string x.f2) := (blk_cell hx 2).trans rfl
      have x3 : w2.cell? ⟨w.heap.size, 3, none⟩ = some (.slice A3 x.f3.length c3) := (blk_cell hx 3).trans rfl
      have x4 : w2.cell? ⟨w.heap.size, 4, none⟩ = some (.slice A4 x.f4.length c4) := (blk_cell hx 4).trans rfl
      clear hd hb
      cases ev with
      | some y =>
        clear hx hr
        obtain ⟨hcat1, hcat2, hcat3, hcat4⟩ := HSZ.out y rfl
        dsimp only [Option.getD, Option.isSome]
        go_wp2_with fail
        refine (spec_Tx _ _).mono ?_
        clear x0 x1 x2 x3 x4
        rintro e w3 ⟨rfl, hb⟩
        have HB4 := Aside0.mk (below_then HB3.out HB3.out.size hb)
        have hr := blk_below HRE3.out hb
        have n0 : w3.cell? ⟨w.heap.size + 1, 0, none⟩ = some (.int .i64 0) := (blk_cell hr 0).trans rfl
        have n1 : w3.cell? ⟨w.heap.size + 1, 1, none⟩ = some (.int .i64 0) := (blk_cell hr 1).trans rfl
        have n2 : w3.cell? ⟨w.heap.size + 1, 2, none⟩ = some (.string ⟨#[]⟩) := (blk_cell hr 2).trans rfl
        have n3 : w3.cell? ⟨w.heap.size + 1, 3, none⟩ = some (.slice none 0 0) := (blk_cell hr 3).trans rfl
        have n4 : w3.cell? ⟨w.heap.size + 1, 4, none⟩ = some (.slice none 0 0) := (blk_cell hr 4).trans rfl
        have f0 := blk_frozen hr 0
        have f1 := blk_frozen hr 1
        have f2 := blk_frozen hr 2
        have f3 := blk_frozen hr 3
        have f4 := blk_frozen hr 4
        clear hr hb
        go_wp2
        refine bodyPost_ret (v := .tuple #[.agg #[.int .i64 3, .int .i64 0, .string (x.f2 ++ eqB ++ y), .slice none 0 0, .slice none 0 0], .bool true, .bool true]) (by simp [results, Tryd.results9, go_sem, *]) rfl ?_
        exact text_says HF0.out (left := true) (r := ⟨3, 0, x.f2 ++ eqB ++ y, none, 0, 0, none, 0, 0⟩) (below5 HB4.out _ (Nat.le_succ _) _ _ _ _ _) (by rw [HQ.out]; rfl) (fun s hs => by rw [HQ.out] at hs; injection hs with hs; subst hs; exact flat_new _)
      | none =>
        have n0 : w2.cell? ⟨w.heap.size + 1, 0, none⟩ = some (.int .i64 0) := (blk_cell hr 0).trans rfl
        have n1 : w2.cell? ⟨w.heap.size + 1, 1, none⟩ = some (.int .i64 0) := (blk_cell hr 1).trans rfl
        have n2 : w2.cell? ⟨w.heap.size + 1, 2, none⟩ = some (.string ⟨#[]⟩) := (blk_cell hr 2).trans rfl
        have n3 : w2.cell? ⟨w.heap.size + 1, 3, none⟩ = some (.slice none 0 0) := (blk_cell hr 3).trans rfl
        have n4 : w2.cell? ⟨w.heap.size + 1, 4, none⟩ = some (.slice none 0 0) := (blk_cell hr 4).trans rfl
        have f0 := blk_frozen hr 0
        have f1 := blk_frozen hr 1
        have f2 := blk_frozen hr 2
        have f3 := blk_frozen hr 3
        have f4 := blk_frozen hr 4
        clear hx hr
        dsimp only [Option.getD, Option.isSome]
        cases keep with
        | true =>
          go_wp2
          refine bodyPost_ret (v := .tuple #[.agg #[.int .i64 3, .int .i64 x.f1, .string x.f2, .slice A3 x.f3.length c3, .slice A4 x.f4.length c4], .bool true, .bool true]) (by simp [results, Tryd.results9, go_sem, *]) rfl ?_
          exact text_says HF0.out (left := true) (r := ⟨3, x.f1, x.f2, A3, x.f3.length, c3, A4, x.f4.length, c4⟩) (below5 HB3.out _ (Nat.le_succ _) _ _ _ _ _) (by rw [HQ.out]; rfl) (fun s hs => by rw [HQ.out] at hs; injection hs with hs; subst hs; exact HFL.out)
        | false =>
          go_wp2
          refine bodyPost_ret (v := .tuple #[.agg #[.int .i64 0, .int .i64 0, .string ⟨#[]⟩, .slice none 0 0, .slice none 0 0], .bool false, .bool true]) (by simp [results, Tryd.results9, go_sem, *]) rfl ?_
          exact text_says HF0.out (left := false) (r := RV.zero) (below5 HB3.out _ (Nat.le_succ _) _ _ _ _ _) (by rw [HQ.out]; rfl) (fun s hs => by rw [HQ.out] at hs; cases hs)
set_option maxHeartbeats 8000000 in
set_option maxRecDepth 100000 in
theorem res_flat (l : List U.SP) (A0 : Option Addr) (c0 : Nat) (keep : Bool) (x : SV) (h : ¬ x.f0 = 3 ∧ ¬ x.f0 = 4 ∧ ¬ x.f0 = 5) (w : World) : ResC l A0 c0 keep x w := by
  rintro v ⟨A3, c3, A4, c4, rfl, h3, g3, h4, g4⟩
  obtain ⟨h3', h4', h5'⟩ := h
  have HD : Hid (descr x = none) := Lib.hid (by unfold descr; rw [if_neg h3', if_neg h4', if_neg h5'])
  have HF0 := Lib.hid h3'
  unfold cellsS
  have e3 : (x.f0 == 3) = false := by simpa using h3'
  have e4 : (x.f0 == 4) = false := by simpa using h4'
  have e5 : (x.f0 == 5) = false := by simpa using h5'
  clear h3' h4' h5' h3 g3 h4 g4
  · skip
    obtain ⟨W0, hW0⟩ : ∃ W0 : World, W0 = (w.alloc (Obj.cells #[.int .i64 x.f0, .int .i64 x.f1, .string x.f2, .slice A3 x.f3.length c3, .slice A4 x.f4.length c4] 25)).alloc (Obj.cells #[.int .i64 0, .int .i64 0, .string ⟨#[]⟩, .slice none 0 0, .slice none 0 0] 25) := ⟨_, rfl⟩
    obtain ⟨W1, hW1⟩ : ∃ W1 : World, W1 = W0.alloc (Obj.cells #[.int .i64 x.f0, .int .i64 0, .string ⟨#[]⟩, .slice none 0 0, .slice none 0 0] 25) := ⟨_, rfl⟩
    have hb0 : Below w.heap.size w W0 := by rw [hW0]; exact ((Below.refl _ _).alloc (Nat.le_refl _) _).alloc (by simp) _
    have hs0 : W0.heap.size = w.heap.size + 2 := by rw [hW0]; simp
    have hbx0 : W0.heap[w.heap.size]? = some (.cells #[.int .i64 x.f0, .int .i64 x.f1, .string x.f2, .slice A3 x.f3.length c3, .slice A4 x.f4.length c4] 25 (0, 0)) := by rw [hW0]; exact heap_oldI (new_atI rfl)
    have hbx : W1.heap[w.heap.size]? = some (.cells #[.int .i64 x.f0, .int .i64 x.f1, .string x.f2, .slice A3 x.f3.length c3, .slice A4 x.f4.length c4] 25 (0, 0)) := by rw [hW1]; exact heap_oldI hbx0
    have hre : W1.heap[w.heap.size + 1]? = some (.cells zV 25 (0, 0)) := by rw [hW1, hW0]; exact heap_oldI (new_atI (by simp))
    have hou : W1.heap[w.heap.size + 2]? = some (.cells #[.int .i64 x.f0, .int .i64 0, .string ⟨#[]⟩, .slice none 0 0, .slice none 0 0] 25 (0, 0)) := by rw [hW1]; exact new_atI hs0
    have HB1 : Aside0 (Below w.heap.size w W1) := ⟨by rw [hW1]; exact hb0.alloc hb0.size _⟩
    have HS0 := Lib.hid hs0
    have HS1 : Hid (W1.heap.size = w.heap.size + 3) := Lib.hid (by rw [hW1]; simp [hs0])
    have HBX := Aside0.mk hbx
    have HRE := Aside0.mk hre
    have HOU := Aside0.mk hou
    have HW0 := Lib.hid hW0
    have HW1 := Lib.hid hW1
    have m0 : W0.cell? ⟨w.heap.size, 0, none⟩ = some (.int .i64 x.f0) := (blk_cell hbx0 0).trans rfl
    clear hb0 hs0 hbx0 hbx hre hou hW0 hW1
    go_enter Tryd.func9, Tryd.ntmps9
    go_upto_region 1 with fail
    rw [← HW0.out]
    go_upto_region 2 with fail
    rw [← HW1.out, HS0.out]
    clear m0
    have x0 : W1.cell? ⟨w.heap.size, 0, none⟩ = some (.int .i64 x.f0) := (blk_cell HBX.out 0).trans rfl
    have x1 : W1.cell? ⟨w.heap.size, 1, none⟩ = some (.int .i64 x.f1) := (blk_cell HBX.out 1).trans rfl
    have x2 : W1.cell? ⟨w.heap.size, 2, none⟩ = some (.string x.f2) := (blk_cell HBX.out 2).trans rfl
    have x3 : W1.cell? ⟨w.heap.size, 3, none⟩ = some (.slice A3 x.f3.length c3) := (blk_cell HBX.out 3).trans rfl
    have x4 : W1.cell? ⟨w.heap.size, 4, none⟩ = some (.slice A4 x.f4.length c4) := (blk_cell HBX.out 4).trans rfl
    have hr := HRE.out
    have n0 : W1.cell? ⟨w.heap.size + 1, 0, none⟩ = some (.int .i64 0) := (blk_cell hr 0).trans rfl
    have n1 : W1.cell? ⟨w.heap.size + 1, 1, none⟩ = some (.int .i64 0) := (blk_cell hr 1).trans rfl
    have n2 : W1.cell? ⟨w.heap.size + 1, 2, none⟩ = some (.string ⟨#[]⟩) := (blk_cell hr 2).trans rfl
    have n3 : W1.cell? ⟨w.heap.size + 1, 3, none⟩ = some (.slice none 0 0) := (blk_cell hr 3).trans rfl
    have n4 : W1.cell? ⟨w.heap.size + 1, 4, none⟩ = some (.slice none 0 0) := (blk_cell hr 4).trans rfl
    have f0 := blk_frozen hr 0
    have f1 := blk_frozen hr 1
    have f2 := blk_frozen hr 2
    have f3 := blk_frozen hr 3
    have f4 := blk_frozen hr 4
    clear hr
    go_wp2
    refine bodyPost_ret (v := .tuple #[.agg #[.int .i64 x.f0, .int .i64 x.f1, .string x.f2, .slice A3 x.f3.length c3, .slice A4 x.f4.length c4], .bool false, .bool false]) (by simp [results, Tryd.results9, go_sem, *]) rfl ?_
    exact none_says HF0.out HD.out (r := rvS x A3 c3 A4 c4) (below5 HB1.out _ (Nat.le_succ _) _ _ _ _ _)
end Go.Proofs.YtgeamhmenmomhaaDoor.A
/- The walk of spec.ResolveOne of a list (printed by gen_res.py). -/
namespace Go.Proofs.YtgeamhmenmomhaaDoor.A
set_option linter.unusedVariables false
set_option linter.unusedSimpArgs false
set_option linter.unusedSectionVars false
open Go.RowKit Go.Proofs.YtgeamhmenmomhaaDoorW.PrintWords Go.Proofs.YtgeamhmenmomhaaDoorW.PrintLast Go.Proofs.YtgeamhmenmomhaaDoorW.PrintMore Go.Proofs.YtgeamhmenmomhaaDoor.PT Go.Proofs.YtgeamhmenmomhaaDoor.L Go.Proofs.YtgeamhmenmomhaaDoor.SM

structure ResL (w W1 : World) (wr : World) (l : List U.SP) (keep : Bool) (X : List SV) (i : Nat) (A : Option Addr) (c : Nat) (rs : List RV) : Prop where
  box : wr.heap[w.heap.size + 2]? = some (.cells #[.int .i64 4, .int .i64 0, .string ⟨#[]⟩, .slice none 0 0, .slice A rs.length c] 25 (0, 0))
  row : Kd.R kR 25 wr (w.heap.size + 3) (fun _ => True) (.slice A rs.length c) rs
  flat : allT (X.take i) = true → All2 FlatT ((X.take i).filterMap (fun y => resT (envE l) keep y.f2)) rs
  bel : Below (w.heap.size + 2) W1 wr
  size : w.heap.size + 3 ≤ wr.heap.size
theorem allT_next {X : List SV} {i : Nat} (h : i < X.length) (ha : allT (X.take (i + 1)) = true) : allT (X.take i) = true ∧ (X[i]'h).f0 = 3 := by
  rw [List.take_succ_eq_append_getElem h] at ha
  unfold allT at ha ⊢
  rw [List.all_append, Bool.and_eq_true] at ha
  exact ⟨ha.1, by simpa using ha.2⟩
theorem fm_next {X : List SV} {i : Nat} (h : i < X.length) (f : SV → Option ByteArray) : (X.take (i + 1)).filterMap f = (X.take i).filterMap f ++ (f (X[i]'h)).toList := by
  rw [List.take_succ_eq_append_getElem h, List.filterMap_append]
  cases hq : f (X[i]'h) <;> simp [hq]
theorem list_says {l : List U.SP} {keep : Bool} {x : SV} (h4 : x.f0 = 4) {w w' : World} {r : RV} (hb : Below w.heap.size w w') (hm : allT x.f4 = true → MadeS ⟨4, 0, be, [], (x.f4.filterMap (fun y => resT (envE l) keep y.f2)).map tS⟩ w' r.val) : ResSays l keep x w (.returned (.tuple #[r.val, .bool true, .bool (allT x.f4 && decide (x.f0 = 4))])) w' := by
  have hd : descr x = if allT x.f4 then some (.list (x.f4.map (·.f2))) else none := by unfold descr; rw [if_neg (by omega), if_pos h4]
  refine ⟨r, true, _, rfl, hb, fun h => absurd h (by omega), ?_, fun rd h => ?_⟩
  · rw [hd, decide_eq_true h4, Bool.and_true]
    cases allT x.f4 <;> rfl
  · rw [hd] at h
    cases ha : allT x.f4 with
    | false => rw [ha] at h; cases h
    | true =>
      rw [ha, if_pos rfl] at h
      injection h with h
      subst h
      refine ⟨rfl, fun z hz => ?_⟩
      injection hz with hz
      subst hz
      have := hm ha
      unfold RD.S
      rw [List.filterMap_map]
      exact this
set_option maxHeartbeats 8000000 in
set_option maxRecDepth 100000 in
theorem res_list (l : List U.SP) (A0 : Option Addr) (c0 : Nat) (keep : Bool) (x : SV) (h4' : x.f0 = 4) (hbd : x.f4.length ≤ 1099511627776) (hl : l.length ≤ 1048576) (w : World) (hr0 : Kd.C k51 w A0 l.length l) (hc0 : l.length ≤ c0)
    (IH : ∀ (i : Nat) (h : i < x.f4.length) (W : World), Below w.heap.size w W → ResC l A0 c0 keep (x.f4[i]'h) W) : ResC l A0 c0 keep x w := by
  rintro v ⟨A3, c3, A4, c4, rfl, h3, g3, h4, g4⟩
  have HNT : Hid (∀ W, Below w.heap.size w W → Calls Tryd.prog 27 #[.agg #[.int .i64 4, .int .i64 x.f1, .string x.f2, .slice A3 x.f3.length c3, .slice A4 x.f4.length c4]] W fun e w' => e = .returned (.bool (allT x.f4 && decide (x.f0 = 4))) ∧ Below W.heap.size W w') := Lib.hid (fun W hW => spec_normTexts.calls _ 4 x.f1 x.f2 A3 c3 x.f3 A4 c4 x.f4 _ W (Kd.C_below g3 hW) h3 (Kd.C_below g4 hW) h4 (by rw [h4']; exact texts_f 4 x.f1 x.f2 x.f3 x.f4 hbd))
  obtain ⟨said, hsaid⟩ : ∃ said, said = (allT x.f4 && decide (x.f0 = 4)) := ⟨_, rfl⟩
  rw [← hsaid] at HNT
  have HSD := Lib.hid hsaid
  have H40 := Lib.hid h4'
  unfold cellsS
  rw [h4']
  obtain ⟨n, hn⟩ : ∃ n, n = x.f4.length := ⟨_, rfl⟩
  have HN := Lib.hid hn
  have HBD : Hid (n ≤ 1099511627776) := Lib.hid (by rw [hn]; exact hbd)
  rw [← hn] at g4 HNT
  have G4 := Aside0.mk g4
  have HIH := Lib.hid IH
  rw [← hn]
  clear h4' hbd IH h3 g3 h4 g4 hn hsaid hl hr0 hc0
  · skip
    obtain ⟨W0, hW0⟩ : ∃ W0 : World, W0 = (w.alloc (Obj.cells #[.int .i64 4, .int .i64 x.f1, .string x.f2, .slice A3 x.f3.length c3, .slice A4 n c4] 25)).alloc (Obj.cells #[.int .i64 0, .int .i64 0, .string ⟨#[]⟩, .slice none 0 0, .slice none 0 0] 25) := ⟨_, rfl⟩
    obtain ⟨W1, hW1⟩ : ∃ W1 : World, W1 = W0.alloc (Obj.cells #[.int .i64 4, .int .i64 0, .string ⟨#[]⟩, .slice none 0 0, .slice none 0 0] 25) := ⟨_, rfl⟩
    have hb0 : Below w.heap.size w W0 := by rw [hW0]; exact ((Below.refl _ _).alloc (Nat.le_refl _) _).alloc (by simp) _
    have hs0 : W0.heap.size = w.heap.size + 2 := by rw [hW0]; simp
    have hbx0 : W0.heap[w.heap.size]? = some (.cells #[.int .i64 4, .int .i64 x.f1, .string x.f2, .slice A3 x.f3.length c3, .slice A4 n c4] 25 (0, 0)) := by rw [hW0]; exact heap_oldI (new_atI rfl)
    have hbx : W1.heap[w.heap.size]? = some (.cells #[.int .i64 4, .int .i64 x.f1, .string x.f2, .slice A3 x.f3.length c3, .slice A4 n c4] 25 (0, 0)) := by rw [hW1]; exact heap_oldI hbx0
    have hre : W1.heap[w.heap.size + 1]? = some (.cells zV 25 (0, 0)) := by rw [hW1, hW0]; exact heap_oldI (new_atI (by simp))
    have hou : W1.heap[w.heap.size + 2]? = some (.cells #[.int .i64 4, .int .i64 0, .string ⟨#[]⟩, .slice none 0 0, .slice none 0 0] 25 (0, 0)) := by rw [hW1]; exact new_atI hs0
    have HB1 : Aside0 (Below w.heap.size w W1) := ⟨by rw [hW1]; exact hb0.alloc hb0.size _⟩
    have HS0 := Lib.hid hs0
    have HS1 : Hid (W1.heap.size = w.heap.size + 3) := Lib.hid (by rw [hW1]; simp [hs0])
    have HBX := Aside0.mk hbx
    have HRE := Aside0.mk hre
    have HOU := Aside0.mk hou
    have HW0 := Lib.hid hW0
    have HW1 := Lib.hid hW1
    have m0 : W0.cell? ⟨w.heap.size, 0, none⟩ = some (.int .i64 4) := (blk_cell hbx0 0).trans rfl
    clear hb0 hs0 hbx0 hbx hre hou hW0 hW1
    go_enter Tryd.func9, Tryd.ntmps9
    go_upto_region 1 with fail
    rw [← HW0.out]
    go_upto_region 2 with fail
    rw [← HW1.out, HS0.out]
    clear m0
    have x0 : W1.cell? ⟨w.heap.size, 0, none⟩ = some (.int .i64 4) := (blk_cell HBX.out 0).trans rfl
    have x1 : W1.cell? ⟨w.heap.size, 1, none⟩ = some (.int .i64 x.f1) := (blk_cell HBX.out 1).trans rfl
    have x2 : W1.cell? ⟨w.heap.size, 2, none⟩ = some (.string x.f2) := (blk_cell HBX.out 2).trans rfl
    have x3 : W1.cell? ⟨w.heap.size, 3, none⟩ = some (.slice A3 x.f3.length c3) := (blk_cell HBX.out 3).trans rfl
    have x4 : W1.cell? ⟨w.heap.size, 4, none⟩ = some (.slice A4 n c4) := (blk_cell HBX.out 4).trans rfl
    go_wp2
    clear x0 x1 x2 x3 x4
    go_loopw [15] (fun v15 wr => ∃ (i : Nat) (rs : List RV) (A : Option Addr) (c : Nat), i ≤ n ∧ v15 = .int .i64 i ∧ Hid (rs.length ≤ i) ∧ Aside0 (ResL w W1 wr l keep x.f4 i A c rs)) (fun v15 _ => n - (intOf v15).toNat)
    case atStart => exact ⟨0, [], none, 0, Nat.zero_le _, rfl, Lib.hid (Nat.le_refl _), ⟨HOU.out, Kd.R_nil _ _ _ _ _, fun _ => ⟨rfl, fun i h1 => absurd h1 (Nat.not_lt_zero _)⟩, Below.refl _ _, by rw [HS1.out]; exact Nat.le_refl _⟩⟩
    case round =>
      obtain ⟨i, rs, A, c, hi, rfl, HRL, HF⟩ := hrel
      have hx := HF.out.bel.block w.heap.size (by omega) |>.trans HBX.out
      have x0 : wr.cell? ⟨w.heap.size, 0, none⟩ = some (.int .i64 4) := (blk_cell hx 0).trans rfl
      have x1 : wr.cell? ⟨w.heap.size, 1, none⟩ = some (.int .i64 x.f1) := (blk_cell hx 1).trans rfl
      have x2 : wr.cell? ⟨w.heap.size, 2, none⟩ = some (.string x.f2) := (blk_cell hx 2).trans rfl
      have x3 : wr.cell? ⟨w.heap.size, 3, none⟩ = some (.slice A3 x.f3.length c3) := (blk_cell hx 3).trans rfl
      have x4 : wr.cell? ⟨w.heap.size, 4, none⟩ = some (.slice A4 n c4) := (blk_cell hx 4).trans rfl
      have HX := Aside0.mk hx
      clear hx
      by_cases hlt : i < n
      · have i0 : (0 : Int) ≤ (i : Int) := Int.natCast_nonneg _
        have i1 : (i : Int) < (n : Int) := Int.ofNat_lt.2 hlt
        have hlt4 : i < x.f4.length := by rw [← HN.out]; exact hlt
        obtain ⟨ade, E3, d3, E4, d4, eA, he0, he1, he2, he3, he4, q3, r3, q4, r4⟩ := at_T25 G4.out (i : Int) i0 i1
        obtain ⟨y, hy⟩ : ∃ y, y = rd_T25 x.f4 (i : Int) := ⟨_, rfl⟩
        rw [← hy] at he0 he1 he2 he3 he4 q3 r3 q4 r4
        have hyi : y = x.f4[i]'hlt4 := hy.trans (rdSV hlt4)
        have hbwr : Below w.heap.size w wr := HB1.out.trans (HF.out.bel.mono (Nat.le_add_right _ 2))
        simp only [Int.toNat_natCast] at he0 he1 he2 he3 he4
        have tr : ∀ {q : Addr} {u : Value}, w.cell? q = some u → wr.cell? q = some u := fun h => (hbwr.cell (World.block_lt_of_cell? w _ h)).trans h
        replace he0 := tr he0
        replace he1 := tr he1
        replace he2 := tr he2
        replace he3 := tr he3
        replace he4 := tr he4
        have HC : Hid (∀ W, Below w.heap.size w W → ResC l A0 c0 keep y W) := Lib.hid (by rw [hyi]; exact HIH.out i hlt4)
        have HA1 : Hid (allT (x.f4.take (i + 1)) = true → allT (x.f4.take i) = true ∧ y.f0 = 3) := Lib.hid (by rw [hyi]; exact allT_next hlt4)
        have HM1 : Hid ((x.f4.take (i + 1)).filterMap (fun y => resT (envE l) keep y.f2) = (x.f4.take i).filterMap (fun y => resT (envE l) keep y.f2) ++ (resT (envE l) keep y.f2).toList) := Lib.hid (by rw [hyi]; exact fm_next hlt4 _)
        have HBWR := Aside0.mk hbwr
        have R3 := Aside0.mk (And.intro q3 r3)
        have R4 := Aside0.mk (And.intro q4 r4)
        have wk := wrF hlt HBD.out
        have HSR := Lib.hid HF.out.size
        have HVB : Hid ((rs.length + 1) * 80 ≤ 140737488355328) := Lib.hid (by have h1 := HRL.out; have h2 := HBD.out; omega)
        subst eA
        clear hy hyi hbwr tr q3 r3 q4 r4 hlt4
        go_wp2_with fail
        refine (ResC.use (HC.out wr HBWR.out) E3 d3 E4 d4 R3.out.1 (Kd.C_below R3.out.2 HBWR.out) R4.out.1 (Kd.C_below R4.out.2 HBWR.out)).mono ?_
        clear x0 x1 x2 x3 x4 he0 he1 he2 he3 he4
        rintro e w3 ⟨r, left, sd, rfl, hb3, htx, _, _⟩
        have HTX := Lib.hid htx
        have HC3 := Aside0.mk hb3
        have HK3 : Aside0 (Below (w.heap.size + 3) wr w3) := ⟨hb3.mono HSR.out⟩
        have HS3 : Hid (w.heap.size + 3 ≤ w3.heap.size) := Lib.hid (Nat.le_trans HSR.out hb3.size)
        have ROW3 := Aside0.mk (Kd.R_below HF.out.row hb3)
        have hbo := (HK3.out.block (w.heap.size + 2) (Nat.lt_succ_self _)).trans HF.out.box
        have o4 : w3.cell? ⟨w.heap.size + 2, 4, none⟩ = some (.slice A rs.length c) := (blk_cell hbo 4).trans rfl
        have HBO3 := Aside0.mk hbo
        clear htx hb3 hbo
        unfold RV.val
        cases left with
        | false =>
          go_wp2
          go_roundw
          case rel =>
            refine ⟨i + 1, rs, A, c, hlt, by go_num, Lib.hid (Nat.le_succ_of_le HRL.out), ⟨?_, ?_, ?_, ?_, ?_⟩⟩
            · exact heap_oldI HBO3.out
            · exact Kd.R_alloc ROW3.out _
            · intro ha
              obtain ⟨ha1, ha2⟩ := HA1.out ha
              have h5 := (HTX.out ha2).1
              have h6 : resT (envE l) keep y.f2 = none := by
                cases hq : resT (envE l) keep y.f2 with
                | none => rfl
                | some s => rw [hq] at h5; cases h5
              rw [HM1.out, h6]
              simpa using HF.out.flat ha1
            · exact (HF.out.bel.trans (HK3.out.mono (Nat.le_succ _))).alloc (Nat.le_trans (Nat.le_succ _) HS3.out) _
            · have := HS3.out; simp; omega
          case measure => first | exact msF hlt | (rw [wk]; exact msF hlt)
        | true =>
          obtain ⟨W4, hW4⟩ : ∃ W4 : World, W4 = w3.alloc (Obj.cells #[.int .i64 r.n0, .int .i64 r.n1, .string r.t, .slice r.A r.an r.ac, .slice r.B r.bn r.bc] 25) := ⟨_, rfl⟩
          have hyb : W4.heap[w3.heap.size]? = some (.cells #[.int .i64 r.n0, .int .i64 r.n1, .string r.t, .slice r.A r.an r.ac, .slice r.B r.bn r.bc] 25 (0, 0)) := by rw [hW4]; exact new_atI rfl
          have HBO4 : Aside0 (W4.heap[w.heap.size + 2]? = some (.cells #[.int .i64 4, .int .i64 0, .string ⟨#[]⟩, .slice none 0 0, .slice A rs.length c] 25 (0, 0))) := ⟨by rw [hW4]; exact heap_oldI HBO3.out⟩
          have HK4 : Aside0 (Below (w.heap.size + 3) wr W4) := ⟨by rw [hW4]; exact HK3.out.alloc HS3.out _⟩
          have ROW4 : Aside0 (Kd.R kR 25 W4 (w.heap.size + 3) (fun _ => True) (.slice A rs.length c) rs) := ⟨by rw [hW4]; exact Kd.R_alloc ROW3.out _⟩
          have HS4 : Hid (w.heap.size + 3 ≤ W4.heap.size) := Lib.hid (by rw [hW4]; have := HS3.out; simp; omega)
          have HW4 := Lib.hid hW4
          clear o4
          have o4 : W4.cell? ⟨w.heap.size + 2, 4, none⟩ = some (.slice A rs.length c) := (blk_cell HBO4.out 4).trans rfl
          have y0 : W4.cell? ⟨w3.heap.size, 0, none⟩ = some (.int .i64 r.n0) := (blk_cell hyb 0).trans rfl
          have y1 : W4.cell? ⟨w3.heap.size, 1, none⟩ = some (.int .i64 r.n1) := (blk_cell hyb 1).trans rfl
          have y2 : W4.cell? ⟨w3.heap.size, 2, none⟩ = some (.string r.t) := (blk_cell hyb 2).trans rfl
          have y3 : W4.cell? ⟨w3.heap.size, 3, none⟩ = some (.slice r.A r.an r.ac) := (blk_cell hyb 3).trans rfl
          have y4 : W4.cell? ⟨w3.heap.size, 4, none⟩ = some (.slice r.B r.bn r.bc) := (blk_cell hyb 4).trans rfl
          clear hyb hW4
          go_upto_region 18 with fail
          rw [← HW4.out]
          go_wp2_with (at_builtin; refine Kd.R_append kR (w0 := wr) (w.heap.size + 3) rfl _ _ 23 25 (.agg zV) 80 rfl Tryd.underlying23 infoV rfl (show 0 < 5 by decide) (by decide) (.slice A rs.length c) rs r [.int .i64 r.n0, .int .i64 r.n1, .string r.t, .slice r.A r.an r.ac, .slice r.B r.bn r.bc] (fun _ => True) (fun _ => False) rfl rfl ?hp (fun _ h => h.elim) (fun _ _ => trivial) ?hO ?hB ?hS ?hL ?_; (case hp => rfl); (case hO => first | exact ROW4.out | exact Kd.R_alloc ROW4.out _); (case hB => first | exact HK4.out | exact HK4.out.alloc HS4.out _); (case hS => first | exact HS4.out | (have := HS4.out; simp; omega)); (case hL => exact HVB.out); intro v6 w6 ho6 hb6 hg6 hat6; obtain ⟨A6, c6, eo⟩ := Kd.R_slice ho6; subst eo; have HO6 := Aside0.mk ho6; have HK6 := Aside0.mk hb6; have hbo6 := (hb6.block (w.heap.size + 2) (Nat.lt_succ_self _)).trans HF.out.box; have HBO6 := Aside0.mk hbo6; have o6 : w6.cell? ⟨w.heap.size + 2, 4, none⟩ = some (.slice A rs.length c) := (blk_cell hbo6 4).trans rfl; have f6 := blk_frozen hbo6 4; clear ho6 hb6 hg6 hat6 hbo6)
          go_roundw
          case rel =>
            have e1 : (rs ++ [r]).length = rs.length + 1 := by simp
            refine ⟨i + 1, rs ++ [r], A6, c6, hlt, by go_num, Lib.hid (by rw [e1]; exact Nat.succ_le_succ HRL.out), ⟨?_, ?_, ?_, ?_, ?_⟩⟩
            · exact blk_put HBO6.out 4 _ (by simp)
            · exact kR_apart HO6.out (row := some (w.heap.size + 2)) (setCell_grown _ _ _) (fun k hk e => by injection e with e; have := Kd.R_base HO6.out k hk; omega)
            · intro ha
              obtain ⟨ha1, ha2⟩ := HA1.out ha
              obtain ⟨h5, h6⟩ := HTX.out ha2
              obtain ⟨s, hs⟩ := Option.isSome_iff_exists.1 h5.symm
              rw [HM1.out, hs]
              exact All2.snoc (HF.out.flat ha1) (h6 s hs)
            · exact (HF.out.bel.trans (HK6.out.mono (Nat.le_succ _))).grown (setCell_grown _ _ _) (Nat.le_trans (Nat.le_trans (Nat.le_succ _) HSR.out) HK6.out.size) (fun k e => by injection e with e; have e' : w.heap.size + 2 = k := e; omega)
            · have := HK6.out.size; have := HSR.out; simp only [setCell_size]; omega
          case measure => first | exact msF hlt | (rw [wk]; exact msF hlt)
      · obtain rfl : i = n := by omega
        have hlt0 : ¬ ((i : Int) < (i : Int)) := Int.lt_irrefl _
        have o0 : wr.cell? ⟨w.heap.size + 2, 0, none⟩ = some (.int .i64 4) := (blk_cell HF.out.box 0).trans rfl
        have o1 : wr.cell? ⟨w.heap.size + 2, 1, none⟩ = some (.int .i64 0) := (blk_cell HF.out.box 1).trans rfl
        have o2 : wr.cell? ⟨w.heap.size + 2, 2, none⟩ = some (.string ⟨#[]⟩) := (blk_cell HF.out.box 2).trans rfl
        have o3 : wr.cell? ⟨w.heap.size + 2, 3, none⟩ = some (.slice none 0 0) := (blk_cell HF.out.box 3).trans rfl
        have o4 : wr.cell? ⟨w.heap.size + 2, 4, none⟩ = some (.slice A rs.length c) := (blk_cell HF.out.box 4).trans rfl
        have hre := (HF.out.bel.block (w.heap.size + 1) (by omega)).trans HRE.out
        have HRE2 := Aside0.mk hre
        have HBWR : Aside0 (Below w.heap.size w wr) := ⟨HB1.out.trans (HF.out.bel.mono (Nat.le_add_right _ 2))⟩
        clear hre
        go_upto_region 20 with fail
        refine start_ (n := 6) (S := fun w' => w'.cell? ⟨w.heap.size + 2, 0, none⟩ = some (.int .i64 4) ∧ w'.cell? ⟨w.heap.size + 2, 1, none⟩ = some (.int .i64 0) ∧ w'.cell? ⟨w.heap.size + 2, 2, none⟩ = some (.string ⟨#[]⟩) ∧ w'.cell? ⟨w.heap.size + 2, 3, none⟩ = some (.slice none 0 0) ∧ w'.cell? ⟨w.heap.size + 2, 4, none⟩ = some (.slice A rs.length c) ∧ w'.cell? ⟨w.heap.size, 0, none⟩ = some (.int .i64 4) ∧ w'.cell? ⟨w.heap.size, 1, none⟩ = some (.int .i64 x.f1) ∧ w'.cell? ⟨w.heap.size, 2, none⟩ = some (.string x.f2) ∧ w'.cell? ⟨w.heap.size, 3, none⟩ = some (.slice A3 x.f3.length c3) ∧ w'.cell? ⟨w.heap.size, 4, none⟩ = some (.slice A4 i c4)) (ds := [3]) #[false, false, false, false, false, false] (by kernel_rfl) rfl rfl ⟨o0, o1, o2, o3, o4, x0, x1, x2, x3, x4⟩ (fun hHeld => ?_)
        refine take_ (i := 0) (N := some 85) (v := ?_) (a' := ?_) #[true, false, false, false, false, false] rfl rfl (by kernel_rfl) (fun _ _ _ h => h) (Or.inl ⟨by rfl, ?_⟩) hHeld ?_ ?_
        rotate_left
        · rintro w' ⟨s0, s1, s2, s3, s4, s5, s6, s7, s8, s9⟩
          go_simp
          with_reducible rfl
        rotate_left
        · simp only [Act.put, List.setIfInBounds_toArray, List.set_cons_zero, List.set_cons_succ, i64_w, i32_w]
          rfl
        refine take_ (i := 1) (N := some 86) (v := ?_) (a' := ?_) #[true, true, false, false, false, false] rfl rfl (by kernel_rfl) (fun _ _ _ h => h) (Or.inl ⟨by rfl, ?_⟩) hHeld ?_ ?_
        rotate_left
        · rintro w' ⟨s0, s1, s2, s3, s4, s5, s6, s7, s8, s9⟩
          go_simp
          with_reducible rfl
        rotate_left
        · simp only [Act.put, List.setIfInBounds_toArray, List.set_cons_zero, List.set_cons_succ, i64_w, i32_w]
          rfl
        refine one_ (i := 2) (N := some 87) #[true, true, true, false, false, false] rfl rfl (by kernel_rfl) (by decide) (fun K hK => ?_)
        refine goes_ Tryd.func27 (by kernel_rfl) rfl #[.agg #[.int .i64 4, .int .i64 x.f1, .string x.f2, .slice A3 x.f3.length c3, .slice A4 i c4]] (by rfl) rfl rfl (by simp only [List.map_toArray, List.map_cons, List.map_nil]; rfl) ?_
        with_reducible refine (HNT.out wr.drew (below_drew1 HBWR.out)).mono ?_
        rintro e w8 ⟨rfl, hb8⟩
        refine ⟨_, rfl, ?_⟩
        have hc8 : Below wr.heap.size wr w8 := below_un hb8
        have HC8 := Aside0.mk hc8
        clear hb8 hc8
        refine hK.out _ _ ⟨(HC8.out.cell (World.block_lt_of_cell? wr _ o0)).trans o0, (HC8.out.cell (World.block_lt_of_cell? wr _ o1)).trans o1, (HC8.out.cell (World.block_lt_of_cell? wr _ o2)).trans o2, (HC8.out.cell (World.block_lt_of_cell? wr _ o3)).trans o3, (HC8.out.cell (World.block_lt_of_cell? wr _ o4)).trans o4, (HC8.out.cell (World.block_lt_of_cell? wr _ x0)).trans x0, (HC8.out.cell (World.block_lt_of_cell? wr _ x1)).trans x1, (HC8.out.cell (World.block_lt_of_cell? wr _ x2)).trans x2, (HC8.out.cell (World.block_lt_of_cell? wr _ x3)).trans x3, (HC8.out.cell (World.block_lt_of_cell? wr _ x4)).trans x4⟩ (fun hHeld => ?_)
        clear hK K
        refine norm_ (a' := ?_) ?_ ?_
        rotate_left
        · show Act.put _ (some 87) _ = _
          simp only [Act.put, List.setIfInBounds_toArray, List.set_cons_zero, List.set_cons_succ, i64_w, i32_w]
          rfl
        refine last_ (i := 3) (N := none) #[true, true, true, true, false, false] rfl rfl (by kernel_rfl) (by decide) (fun K hK => ?_)
        refine store_step (cur := zV) (e := 25) (g := w.heap.size + 1) 25 _ _ (.agg #[.int .i64 4, .int .i64 0, .string ⟨#[]⟩, .slice none 0 0, .slice A rs.length c]) [.int .i64 4, .int .i64 0, .string ⟨#[]⟩, .slice none 0 0, .slice A rs.length c] (by rfl) rfl rfl rfl rfl ((HC8.out.block (w.heap.size + 1) (Nat.lt_of_lt_of_le (by omega) HF.out.size)).trans HRE2.out) rfl (show (Tryd.prog.info? 25).map (·.size) = some 5 by kernel_rfl) rfl (by simp [Value.oneCell']) ?_
        intro w9 h9 hg9
        have H9 := Aside0.mk h9
        have HG9 := Aside0.mk hg9
        clear h9 hg9
        refine hK.out _ _ ?_
        clear hK K
        refine pure_ (i := 4) (N := some 7) (v := ?_) (a' := ?_) #[true, true, true, true, true, false] rfl rfl (by kernel_rfl) (fun _ _ _ h => h) (Or.inl ⟨by rfl, ?_⟩) ?_ ?_
        rotate_left
        · intro w'
          go_simp
          with_reducible rfl
        rotate_left
        · simp only [Act.put, List.setIfInBounds_toArray, List.set_cons_zero, List.set_cons_succ, i64_w, i32_w]
          rfl
        refine pure_ (i := 5) (N := some 8) (v := ?_) (a' := ?_) #[true, true, true, true, true, true] rfl rfl (by kernel_rfl) (fun _ _ _ h => h) (Or.inl ⟨by rfl, ?_⟩) ?_ ?_
        rotate_left
        · intro w'
          go_simp
          with_reducible rfl
        rotate_left
        · simp only [Act.put, List.setIfInBounds_toArray, List.set_cons_zero, List.set_cons_succ, i64_w, i32_w]
          rfl
        refine done_ (by kernel_rfl) ?_
        
        have h9 := H9.out
        have n0 : w9.cell? ⟨w.heap.size + 1, 0, none⟩ = some (.int .i64 4) := (blk_cell h9 0).trans rfl
        have n1 : w9.cell? ⟨w.heap.size + 1, 1, none⟩ = some (.int .i64 0) := (blk_cell h9 1).trans rfl
        have n2 : w9.cell? ⟨w.heap.size + 1, 2, none⟩ = some (.string ⟨#[]⟩) := (blk_cell h9 2).trans rfl
        have n3 : w9.cell? ⟨w.heap.size + 1, 3, none⟩ = some (.slice none 0 0) := (blk_cell h9 3).trans rfl
        have n4 : w9.cell? ⟨w.heap.size + 1, 4, none⟩ = some (.slice A rs.length c) := (blk_cell h9 4).trans rfl
        clear h9
        go_wp2
        refine bodyPost_ret (v := .tuple #[.agg #[.int .i64 4, .int .i64 0, .string ⟨#[]⟩, .slice none 0 0, .slice A rs.length c], .bool true, .bool said]) (by simp [results, Tryd.results9, go_sem, *]) rfl ?_
        have hsz := HF.out.size
        have hbf : Below w.heap.size w w9 := (HBWR.out.trans (HC8.out.mono HBWR.out.size)).grown HG9.out (Nat.le_trans HBWR.out.size HC8.out.size) (fun k e => by injection e with e; omega)
        rw [HSD.out]
        refine list_says H40.out (r := ⟨4, 0, be, none, 0, 0, A, rs.length, c⟩) hbf (fun ha => ?_)
        have hfl := HF.out.flat (by rw [HN.out, List.take_length]; exact ha)
        rw [HN.out, List.take_length] at hfl
        obtain ⟨A', c', eA', hlc, hC⟩ := Kd.R_reads HF.out.row
        injection eA' with eA1 _ eA3
        subst eA1 eA3
        have hbase : ∀ ad, A = some ad → w.heap.size + 3 ≤ ad.block := fun ad e => fr_own HF.out.row (Nat.le_refl _) ad e
        obtain ⟨ss, hss⟩ : ∃ ss, ss = x.f4.filterMap (fun y => resT (envE l) keep y.f2) := ⟨_, rfl⟩
        rw [← hss] at hfl ⊢
        have hlen : ss.length = rs.length := hfl.1
        refine DeepP.parts (P := fun _ => True) (.mk (rs := rs) rfl rfl rfl rfl (Nat.le_refl _) (C_nil _ _ _) (fun h => absurd h (Nat.lt_irrefl _)) (by simp [hlen]) hlc (by simp [hlen]) (C_keep (Kd.C_below hC HC8.out) (fun _ _ q => q) (fun hp ad e hlt => HG9.out.block _ hlt (fun q => by injection q with q; have := hbase ad e; omega))) (fun _ _ _ => trivial) (fun j q1 q2 => ?_))
        have q3 : j < ss.length := by rw [hlen]; exact q2
        have e : (ss.map tS)[j]'(by simpa using q3) = tS (ss[j]'q3) := List.getElem_map ..
        show DeepP _ _ ((ss.map tS)[j]'_) _
        rw [e]
        exact deep_T (hfl.2 j q3 q2)
end Go.Proofs.YtgeamhmenmomhaaDoor.A
