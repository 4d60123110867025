/- The walk of spec.ResolveOne of a map, and of every value of the form (printed by gen_res.py). -/
import Derived.Test.YtgeamhmenmomhaaDoorResT
namespace Go.Proofs.YtgeamhmenmomhaaDoor.A
set_option linter.unusedVariables false
set_option linter.unusedSimpArgs false
set_option linter.unusedSectionVars false
open Go.RowKit Go.Proofs.YtgeamhmenmomhaaDoorW.PrintWords Go.Proofs.YtgeamhmenmomhaaDoorW.PrintLast Go.Proofs.YtgeamhmenmomhaaDoorW.PrintMore Go.Proofs.YtgeamhmenmomhaaDoor.PT Go.Proofs.YtgeamhmenmomhaaDoor.L Go.Proofs.YtgeamhmenmomhaaDoor.SM

structure ResM (w W1 : World) (wr : World) (l : List U.SP) (keep : Bool) (x : SV) (i : Nat) (A : Option Addr) (c : Nat) (A' : Option Addr) (c' : Nat) (ks : List ByteArray) (rs : List RV) : Prop where
  box : wr.heap[w.heap.size + 2]? = some (.cells #[.int .i64 5, .int .i64 0, .string ⟨#[]⟩, .slice A ks.length c, .slice A' rs.length c'] 25 (0, 0))
  len : rs.length = ks.length
  kc : ks.length ≤ c
  kC : Kd.C Kd.string wr A ks.length ks
  vc : rs.length ≤ c'
  vC : Kd.C kR wr A' rs.length rs
  kf : Fr (w.heap.size + 3) A
  vf : Fr (w.heap.size + 3) A'
  keys : ks = (entsR (envE l) keep x.f3 x.f4 i).map (·.1)
  flat : All2 FlatO ((entsR (envE l) keep x.f3 x.f4 i).map (·.2)) rs
  all : allO (x.f4.take i) = true
  bel : Below (w.heap.size + 2) W1 wr
  size : w.heap.size + 3 ≤ wr.heap.size
theorem allO_next {X : List SV} {i : Nat} (h : i < X.length) (ha : allO (X.take i) = true) (hy : (X[i]'h).f0 = 3 ∨ (X[i]'h).f0 = 0) : allO (X.take (i + 1)) = true := by
  rw [List.take_succ_eq_append_getElem h]
  unfold allO at ha ⊢
  rw [List.all_append, ha, Bool.true_and]
  simpa using hy
theorem allO_not {X : List SV} {i : Nat} (h : i < X.length) (hy : ¬ ((X[i]'h).f0 = 3 ∨ (X[i]'h).f0 = 0)) : allO X = false := by
  unfold allO
  rw [List.all_eq_false]
  exact ⟨_, List.getElem_mem h, by simpa using hy⟩
theorem map_none {x : SV} (h5 : x.f0 = 5) (ha : allO x.f4 = false) : descr x = none := by unfold descr; rw [if_neg (by omega), if_neg (by omega), if_pos h5, ha]; rfl
theorem map_says {l : List U.SP} {keep : Bool} {x : SV} (h5 : x.f0 = 5) (ha : allO x.f4 = true) {w w' : World} {r : RV} (hb : Below w.heap.size w w') (hm : MadeS ⟨5, 0, be, ((x.f3.zip (x.f4.map fO)).filterMap (entR (envE l) keep)).map (·.1), (((x.f3.zip (x.f4.map fO)).filterMap (entR (envE l) keep)).map (·.2)).map oS⟩ w' r.val) : ResSays l keep x w (.returned (.tuple #[r.val, .bool true, .bool true])) w' := by
  have hd : descr x = some (.map (x.f3.zip (x.f4.map fO))) := by unfold descr; rw [if_neg (by omega), if_neg (by omega), if_pos h5, ha]; rfl
  refine ⟨r, true, true, rfl, hb, fun h => absurd h (by omega), by rw [hd]; rfl, fun rd h => ?_⟩
  rw [hd] at h
  injection h with h
  subst h
  refine ⟨rfl, fun z hz => ?_⟩
  injection hz with hz
  subst hz
  rw [List.map_map] at hm
  exact hm
theorem lts2 {a : Nat} : a < a + 2 := by omega
/-- the next state, an entry more -/
theorem ResM.more {w W1 wr w7 : World} {l : List U.SP} {keep : Bool} {x : SV} {i : Nat} {A : Option Addr} {c : Nat} {A' : Option Addr} {c' : Nat} {ks : List ByteArray} {rs : List RV} (h : ResM w W1 wr l keep x i A c A' c' ks rs) (hlt : i < x.f3.length) (hl4 : x.f4.length = x.f3.length) (ha : Ord.Asc id x.f3) (hy : (x.f4[i]'(by omega)).f0 = 3 ∨ (x.f4[i]'(by omega)).f0 = 0)
    {o : Option ByteArray} (he : entR (envE l) keep (x.f3[i], fO (x.f4[i]'(by omega))) = some (x.f3[i], o)) {r : RV} (hr : FlatO o r) {A5 A6 : Option Addr} {c5 c6 : Nat} {w4 : World} {key : ByteArray} (hkey : key = x.f3[i]) (h7 : w7.heap[w.heap.size + 2]? = some (.cells #[.int .i64 5, .int .i64 0, .string ⟨#[]⟩, .slice A5 (withKs key ks).length c5, .slice A6 (withVs key ks rs r).length c6] 25 (0, 0))) (hg7 : w4.grownBy w7 (some (w.heap.size + 2)))
    (d3 : (withKs key ks).length ≤ c5 ∧ Kd.C Kd.string w4 A5 (withKs key ks).length (withKs key ks)) (d4 : (withVs key ks rs r).length ≤ c6 ∧ Kd.C kR w4 A6 (withVs key ks rs r).length (withVs key ks rs r)) (f5 : Fr (w.heap.size + 3) A5) (f6 : Fr (w.heap.size + 3) A6) (hbel : Below (w.heap.size + 2) W1 w4) (hsz : w.heap.size + 3 ≤ w4.heap.size) :
    ResM w W1 w7 l keep x (i + 1) A5 c5 A6 c6 (withKs key ks) (withVs key ks rs r) := by
  have hk : ∀ k ∈ ks, Ord.lt k key = true := by
    intro k hk
    rw [h.keys] at hk
    rw [hkey]
    exact ents_keys (envE l) keep hl4 ha hlt k hk
  obtain ⟨e1, e2⟩ := with_end hk rs h.len r
  have hmv : ∀ k, w.heap.size + 3 ≤ k → k < w4.heap.size → w7.heap[k]? = w4.heap[k]? := fun k hk hlt' => hg7.block k hlt' (fun e => by injection e with e; omega)
  have hen := ents_next (envE l) keep hlt (show i < x.f4.length by omega)
  rw [he] at hen
  refine ⟨h7, ?_, d3.1, kd_move d3.2 (fun _ _ q => q) (fun ad e hlt' => hmv _ (f5 ad e) hlt'), d4.1, kd_move d4.2 (fun _ _ q => q) (fun ad e hlt' => hmv _ (f6 ad e) hlt'), f5, f6, ?_, ?_, allO_next (show i < x.f4.length by omega) h.all hy, hbel.grown hg7 (by omega) (fun k e => by injection e with e; omega), Nat.le_trans hsz hg7.size⟩
  · rw [e1, e2]; simp [h.len]
  · rw [e1, hen, h.keys, hkey]; simp
  · rw [e2, hen, List.map_append]
    exact All2.snoc h.flat hr
/-- the next state, no entry more -/
theorem ResM.same {w W1 wr w3 : World} {l : List U.SP} {keep : Bool} {x : SV} {i : Nat} {A : Option Addr} {c : Nat} {A' : Option Addr} {c' : Nat} {ks : List ByteArray} {rs : List RV} (h : ResM w W1 wr l keep x i A c A' c' ks rs) (hlt : i < x.f3.length) (hl4 : x.f4.length = x.f3.length) (hy : (x.f4[i]'(by omega)).f0 = 3 ∨ (x.f4[i]'(by omega)).f0 = 0)
    (he : entR (envE l) keep (x.f3[i], fO (x.f4[i]'(by omega))) = none) (hb : Below wr.heap.size wr w3) : ResM w W1 w3 l keep x (i + 1) A c A' c' ks rs := by
  have hen := ents_next (envE l) keep hlt (show i < x.f4.length by omega)
  rw [he] at hen
  have hs := h.size
  refine ⟨(hb.block _ (by omega)).trans h.box, h.len, h.kc, Kd.C_below h.kC hb, h.vc, Kd.C_below h.vC hb, h.kf, h.vf, ?_, ?_, allO_next (show i < x.f4.length by omega) h.all hy, h.bel.trans (hb.mono (by omega)), Nat.le_trans hs hb.size⟩
  · rw [hen]; simpa using h.keys
  · rw [hen]; simpa using h.flat
set_option maxHeartbeats 8000000 in
set_option maxRecDepth 100000 in
theorem res_map (l : List U.SP) (A0 : Option Addr) (c0 : Nat) (keep : Bool) (x : SV) (h5' : x.f0 = 5) (hfe : ∀ (i : Nat) (h : i < x.f4.length), FineS (x.f4[i]'h)) (hasc : Ord.Asc id x.f3) (hl4 : x.f4.length = x.f3.length) (hbd : x.f3.length ≤ 1099511627776) (hl : l.length ≤ 1048576) (w : World) (hr0 : Kd.C k51 w A0 l.length l) (hc0 : l.length ≤ c0) : ResC l A0 c0 keep x w := by
  rintro v ⟨A3, c3, A4, c4, rfl, h3, g3, h4, g4⟩
  unfold cellsS
  rw [h5']
  obtain ⟨nk, hnk⟩ : ∃ nk, nk = x.f3.length := ⟨_, rfl⟩
  obtain ⟨n, hn⟩ : ∃ n, n = x.f4.length := ⟨_, rfl⟩
  have HNK := Lib.hid hnk
  have HN := Lib.hid hn
  have H50 := Lib.hid h5'
  have HBK : Hid (nk ≤ 1099511627776) := Lib.hid (by rw [hnk]; exact hbd)
  have HNN : Hid (n = nk) := Lib.hid (by omega)
  have HL4 := Lib.hid hl4
  have HASC := Lib.hid hasc
  have HFE := Lib.hid hfe
  have HLK0 := Lib.hid (fun k => look_E l k (by omega))
  rw [← hn] at g4
  rw [← hnk] at g3
  have G3 := Aside0.mk g3
  have G4 := Aside0.mk g4
  have HR0 := Aside0.mk hr0
  have HC0 := Lib.hid hc0
  rw [← hn, ← hnk]
  clear h5' hfe hasc hl4 hbd hl hr0 hc0 h3 g3 h4 g4 hn hnk
  · skip
    obtain ⟨W0, hW0⟩ : ∃ W0 : World, W0 = (w.alloc (Obj.cells #[.int .i64 5, .int .i64 x.f1, .string x.f2, .slice A3 nk c3, .slice A4 n c4] 25)).alloc (Obj.cells #[.int .i64 0, .int .i64 0, .string ⟨#[]⟩, .slice none 0 0, .slice none 0 0] 25) := ⟨_, rfl⟩
    obtain ⟨W1, hW1⟩ : ∃ W1 : World, W1 = W0.alloc (Obj.cells #[.int .i64 5, .int .i64 0, .string ⟨#[]⟩, .slice none 0 0, .slice none 0 0] 25) := ⟨_, rfl⟩
    have hb0 : Below w.heap.size w W0 := by rw [hW0]; exact ((Below.refl _ _).alloc (Nat.le_refl _) _).alloc (by simp) _
    have hs0 : W0.heap.size = w.heap.size + 2 := by rw [hW0]; simp
    have hbx0 : W0.heap[w.heap.size]? = some (.cells #[.int .i64 5, .int .i64 x.f1, .string x.f2, .slice A3 nk c3, .slice A4 n c4] 25 (0, 0)) := by rw [hW0]; exact heap_oldI (new_atI rfl)
    have hbx : W1.heap[w.heap.size]? = some (.cells #[.int .i64 5, .int .i64 x.f1, .string x.f2, .slice A3 nk c3, .slice A4 n c4] 25 (0, 0)) := by rw [hW1]; exact heap_oldI hbx0
    have hre : W1.heap[w.heap.size + 1]? = some (.cells zV 25 (0, 0)) := by rw [hW1, hW0]; exact heap_oldI (new_atI (by simp))
    have hou : W1.heap[w.heap.size + 2]? = some (.cells #[.int .i64 5, .int .i64 0, .string ⟨#[]⟩, .slice none 0 0, .slice none 0 0] 25 (0, 0)) := by rw [hW1]; exact new_atI hs0
    have HB1 : Aside0 (Below w.heap.size w W1) := ⟨by rw [hW1]; exact hb0.alloc hb0.size _⟩
    have HS0 := Lib.hid hs0
    have HS1 : Hid (W1.heap.size = w.heap.size + 3) := Lib.hid (by rw [hW1]; simp [hs0])
    have HBX := Aside0.mk hbx
    have HRE := Aside0.mk hre
    have HOU := Aside0.mk hou
    have HW0 := Lib.hid hW0
    have HW1 := Lib.hid hW1
    have m0 : W0.cell? ⟨w.heap.size, 0, none⟩ = some (.int .i64 5) := (blk_cell hbx0 0).trans rfl
    clear hb0 hs0 hbx0 hbx hre hou hW0 hW1
    go_enter Tryd.func9, Tryd.ntmps9
    go_upto_region 1 with fail
    rw [← HW0.out]
    go_upto_region 2 with fail
    rw [← HW1.out, HS0.out]
    clear m0
    have x0 : W1.cell? ⟨w.heap.size, 0, none⟩ = some (.int .i64 5) := (blk_cell HBX.out 0).trans rfl
    have x1 : W1.cell? ⟨w.heap.size, 1, none⟩ = some (.int .i64 x.f1) := (blk_cell HBX.out 1).trans rfl
    have x2 : W1.cell? ⟨w.heap.size, 2, none⟩ = some (.string x.f2) := (blk_cell HBX.out 2).trans rfl
    have x3 : W1.cell? ⟨w.heap.size, 3, none⟩ = some (.slice A3 nk c3) := (blk_cell HBX.out 3).trans rfl
    have x4 : W1.cell? ⟨w.heap.size, 4, none⟩ = some (.slice A4 n c4) := (blk_cell HBX.out 4).trans rfl
    go_wp2
    clear x0 x1 x2 x3 x4
    go_loopw [19] (fun v19 wr => ∃ (i : Nat) (ks : List ByteArray) (rs : List RV) (A : Option Addr) (c : Nat) (A' : Option Addr) (c' : Nat), i ≤ nk ∧ v19 = .int .i64 i ∧ Hid (ks.length ≤ i) ∧ Aside0 (ResM w W1 wr l keep x i A c A' c' ks rs)) (fun v19 _ => nk - (intOf v19).toNat)
    case atStart => exact ⟨0, [], [], none, 0, none, 0, Nat.zero_le _, rfl, Lib.hid (Nat.le_refl _), ⟨HOU.out, rfl, Nat.le_refl _, C_nil _ _ _, Nat.le_refl _, C_nil _ _ _, Fr.none _, Fr.none _, by simp [entsR], ⟨by simp [entsR], fun i h1 => absurd h1 (by simp [entsR])⟩, by simp [allO], Below.refl _ _, by rw [HS1.out]; exact Nat.le_refl _⟩⟩
    case round =>
      obtain ⟨i, ks, rs, A, c, A', c', hi, rfl, HKL, HF⟩ := hrel
      have hx := (HF.out.bel.block w.heap.size lts2).trans HBX.out
      have x0 : wr.cell? ⟨w.heap.size, 0, none⟩ = some (.int .i64 5) := (blk_cell hx 0).trans rfl
      have x1 : wr.cell? ⟨w.heap.size, 1, none⟩ = some (.int .i64 x.f1) := (blk_cell hx 1).trans rfl
      have x2 : wr.cell? ⟨w.heap.size, 2, none⟩ = some (.string x.f2) := (blk_cell hx 2).trans rfl
      have x3 : wr.cell? ⟨w.heap.size, 3, none⟩ = some (.slice A3 nk c3) := (blk_cell hx 3).trans rfl
      have x4 : wr.cell? ⟨w.heap.size, 4, none⟩ = some (.slice A4 n c4) := (blk_cell hx 4).trans rfl
      have HX := Aside0.mk hx
      clear hx
      by_cases hlt : i < nk
      · have hltn : i < n := by rw [HNN.out]; exact hlt
        have i0 : (0 : Int) ≤ (i : Int) := Int.natCast_nonneg _
        have i1 : (i : Int) < (nk : Int) := Int.ofNat_lt.2 hlt
        have i2 : (i : Int) < (n : Int) := Int.ofNat_lt.2 hltn
        have hlt4 : i < x.f4.length := by rw [← HN.out]; exact hltn
        have hlt3 : i < x.f3.length := by rw [← HNK.out]; exact hlt
        obtain ⟨adk, eK, hk0⟩ := Kd.at_string G3.out (i : Int) i0 i1
        obtain ⟨ade, E3, d3, E4, d4, eA, he0, he1, he2, he3, he4, q3, r3, q4, r4⟩ := at_T25 G4.out (i : Int) i0 i2
        obtain ⟨y, hy⟩ : ∃ y, y = rd_T25 x.f4 (i : Int) := ⟨_, rfl⟩
        obtain ⟨key, hkey⟩ : ∃ key, key = rdOf ByteArray.empty x.f3 (i : Int) := ⟨_, rfl⟩
        rw [← hkey] at hk0
        rw [← hy] at he0 he1 he2 he3 he4 q3 r3 q4 r4
        have hyi : y = x.f4[i]'hlt4 := hy.trans (rdSV hlt4)
        have hkk : key = x.f3[i]'hlt3 := hkey.trans (rdK hlt3)
        have hbwr : Below w.heap.size w wr := HB1.out.trans (HF.out.bel.mono (Nat.le_add_right _ 2))
        simp only [Int.toNat_natCast] at hk0 he0 he1 he2 he3 he4
        have tr : ∀ {q : Addr} {u : Value}, w.cell? q = some u → wr.cell? q = some u := fun h => (hbwr.cell (World.block_lt_of_cell? w _ h)).trans h
        have EK : Hid (w.cell? (adk.add i) = some (.string key)) := Lib.hid hk0
        replace hk0 := tr hk0
        replace he0 := tr he0
        replace he1 := tr he1
        replace he2 := tr he2
        replace he3 := tr he3
        replace he4 := tr he4
        have HFY : Hid (FineS y) := Lib.hid (by rw [hyi]; exact HFE.out i hlt4)
        have HYI : Hid (∀ h : i < x.f4.length, y = x.f4[i]'h) := Lib.hid (fun _ => hyi)
        have HKK : Hid (∀ h : i < x.f3.length, key = x.f3[i]'h) := Lib.hid (fun _ => hkk)
        have HBWR := Aside0.mk hbwr
        have wk := wrF hlt HBK.out
        have HSR := Lib.hid HF.out.size
        have HKB : Hid (ks.length ≤ 1099511627776) := Lib.hid (Nat.le_trans HKL.out (Nat.le_trans hi HBK.out))
        have HL3 := Lib.hid hlt3
        have HLL4 := Lib.hid hlt4
        subst eK
        subst eA
        obtain ⟨W2, hW2⟩ : ∃ W2 : World, W2 = wr.alloc (Obj.cells #[.int .i64 y.f0, .int .i64 y.f1, .string y.f2, .slice E3 y.f3.length d3, .slice E4 y.f4.length d4] 25) := ⟨_, rfl⟩
        obtain ⟨g, hg⟩ : ∃ g, g = wr.heap.size := ⟨_, rfl⟩
        have hb2 : Below wr.heap.size wr W2 := by rw [hW2]; exact (Below.refl _ _).alloc (Nat.le_refl _) _
        have hyb : W2.heap[g]? = some (.cells #[.int .i64 y.f0, .int .i64 y.f1, .string y.f2, .slice E3 y.f3.length d3, .slice E4 y.f4.length d4] 25 (0, 0)) := by rw [hW2, hg]; exact new_atI rfl
        have HB2 := Aside0.mk hb2
        have HYB := Aside0.mk hyb
        have HW2 := Lib.hid hW2
        have HG := Lib.hid hg
        clear hy hyi hkk hkey hbwr tr q3 r3 q4 r4 hlt4 hlt3 hb2 hyb hW2 hg
        go_upto_region 26 with fail
        rw [← HW2.out, ← HG.out]
        clear x0 x1 x2 x3 x4 hk0 he0 he1 he2 he3 he4
        have hx := (HB2.out.block w.heap.size (Nat.lt_of_lt_of_le (by omega) HSR.out)).trans HX.out
        have hk0 : W2.cell? (adk.add i) = some (.string key) := (HB2.out.cell (Nat.lt_of_lt_of_le (World.block_lt_of_cell? w _ EK.out) HBWR.out.size)).trans ((HBWR.out.cell (World.block_lt_of_cell? w _ EK.out)).trans EK.out)
        have x0 : W2.cell? ⟨w.heap.size, 0, none⟩ = some (.int .i64 5) := (blk_cell hx 0).trans rfl
        have x1 : W2.cell? ⟨w.heap.size, 1, none⟩ = some (.int .i64 x.f1) := (blk_cell hx 1).trans rfl
        have x2 : W2.cell? ⟨w.heap.size, 2, none⟩ = some (.string x.f2) := (blk_cell hx 2).trans rfl
        have x3 : W2.cell? ⟨w.heap.size, 3, none⟩ = some (.slice (some adk) nk c3) := (blk_cell hx 3).trans rfl
        have x4 : W2.cell? ⟨w.heap.size, 4, none⟩ = some (.slice (some ade) n c4) := (blk_cell hx 4).trans rfl
        have HX2 := Aside0.mk hx
        have HK2 := Aside0.mk hk0
        clear hx
        obtain ⟨ov, hov⟩ : ∃ ov, ov = envE l key := ⟨_, rfl⟩
        have hlk := HLK0.out key
        rw [← hov] at hlk
        have HLK := Lib.hid hlk
        have HEN : Hid (∀ q : Option ByteArray, entR (envE l) keep (key, q) = entV ov keep (key, q)) := Lib.hid (fun q => by unfold entR; rw [hov])
        clear hov hlk
        go_wp2_with fail
        refine (spec_Look.calls _ A0 c0 l key _ _ W2 (Kd.C_below (Kd.C_below HR0.out HBWR.out) HB2.out) HC0.out HLK.out).mono ?_
        clear x0 x1 x2 x3 x4 hk0
        rintro e w3 ⟨rfl, hd⟩
        have hb3 := hd.below
        have HB3 : Aside0 (Below wr.heap.size wr w3) := ⟨below_then HB2.out HB2.out.size hb3⟩
        have hyb := blk_below HYB.out hb3
        have hx := blk_below HX2.out hb3
        have hk0 : w3.cell? (adk.add i) = some (.string key) := (hb3.cell (World.block_lt_of_cell? W2 _ HK2.out)).trans HK2.out
        have hbo := (HB3.out.block (w.heap.size + 2) (by have := HSR.out; omega)).trans HF.out.box
        have KC3 := Aside0.mk (Kd.C_below HF.out.kC HB3.out)
        have VC3 := Aside0.mk (Kd.C_below HF.out.vC HB3.out)
        have HX3 := Aside0.mk hx
        have HBO3 := Aside0.mk hbo
        have HYB3 := Aside0.mk hyb
        have HBF3 : Aside0 (Below (w.heap.size + 2) W1 w3) := ⟨HF.out.bel.trans (HB3.out.mono (by have := HSR.out; omega))⟩
        have HS3 : Hid (w.heap.size + 3 ≤ w3.heap.size) := Lib.hid (Nat.le_trans HSR.out HB3.out.size)
        clear hd hb3
        have x0 : w3.cell? ⟨w.heap.size, 0, none⟩ = some (.int .i64 5) := (blk_cell hx 0).trans rfl
        have x1 : w3.cell? ⟨w.heap.size, 1, none⟩ = some (.int .i64 x.f1) := (blk_cell hx 1).trans rfl
        have x2 : w3.cell? ⟨w.heap.size, 2, none⟩ = some (.string x.f2) := (blk_cell hx 2).trans rfl
        have x3 : w3.cell? ⟨w.heap.size, 3, none⟩ = some (.slice (some adk) nk c3) := (blk_cell hx 3).trans rfl
        have x4 : w3.cell? ⟨w.heap.size, 4, none⟩ = some (.slice (some ade) n c4) := (blk_cell hx 4).trans rfl
        have y0 : w3.cell? ⟨g, 0, none⟩ = some (.int .i64 y.f0) := (blk_cell hyb 0).trans rfl
        have y1 : w3.cell? ⟨g, 1, none⟩ = some (.int .i64 y.f1) := (blk_cell hyb 1).trans rfl
        have y2 : w3.cell? ⟨g, 2, none⟩ = some (.string y.f2) := (blk_cell hyb 2).trans rfl
        have y3 : w3.cell? ⟨g, 3, none⟩ = some (.slice E3 y.f3.length d3) := (blk_cell hyb 3).trans rfl
        have y4 : w3.cell? ⟨g, 4, none⟩ = some (.slice E4 y.f4.length d4) := (blk_cell hyb 4).trans rfl
        have o0 : w3.cell? ⟨w.heap.size + 2, 0, none⟩ = some (.int .i64 5) := (blk_cell hbo 0).trans rfl
        have o1 : w3.cell? ⟨w.heap.size + 2, 1, none⟩ = some (.int .i64 0) := (blk_cell hbo 1).trans rfl
        have o2 : w3.cell? ⟨w.heap.size + 2, 2, none⟩ = some (.string ⟨#[]⟩) := (blk_cell hbo 2).trans rfl
        have o3 : w3.cell? ⟨w.heap.size + 2, 3, none⟩ = some (.slice A ks.length c) := (blk_cell hbo 3).trans rfl
        have o4 : w3.cell? ⟨w.heap.size + 2, 4, none⟩ = some (.slice A' rs.length c') := (blk_cell hbo 4).trans rfl
        clear hyb hx hbo
        dsimp only [Option.getD, Option.isSome]
        by_cases hk3 : y.f0 = 3
        · rw [hk3] at y0 HYB3
          have HFLAT : Hid (FlatO (some y.f2) (⟨3, y.f1, y.f2, E3, y.f3.length, d3, E4, y.f4.length, d4⟩ : RV)) := Lib.hid (by have := flat_T HFY.out hk3 E3 d3 E4 d4; unfold rvS at this; rw [hk3] at this; exact this)
          have HE : Hid (entR (envE l) keep (key, fO y) = some (key, some y.f2)) := Lib.hid (by rw [HEN.out]; unfold fO; rw [if_pos hk3]; rfl)
          have HYK : Hid (y.f0 = 3 ∨ y.f0 = 0) := Lib.hid (.inl hk3)
          clear hk3
          cases ov with
          | none =>
            dsimp only
            go_upto_region 28 with fail
            refine start_ (n := 9) (S := fun w' => w'.cell? ⟨w.heap.size + 2, 0, none⟩ = some (.int .i64 5) ∧ w'.cell? ⟨w.heap.size + 2, 1, none⟩ = some (.int .i64 0) ∧ w'.cell? ⟨w.heap.size + 2, 2, none⟩ = some (.string ⟨#[]⟩) ∧ w'.cell? ⟨w.heap.size + 2, 3, none⟩ = some (.slice A ks.length c) ∧ w'.cell? ⟨w.heap.size + 2, 4, none⟩ = some (.slice A' rs.length c') ∧ w'.cell? ⟨w.heap.size, 3, none⟩ = some (.slice (some adk) nk c3) ∧ w'.cell? (adk.add i) = some (.string key) ∧ w'.cell? ⟨g, 0, none⟩ = some (.int .i64 3) ∧ w'.cell? ⟨g, 1, none⟩ = some (.int .i64 y.f1) ∧ w'.cell? ⟨g, 2, none⟩ = some (.string y.f2) ∧ w'.cell? ⟨g, 3, none⟩ = some (.slice E3 y.f3.length d3) ∧ w'.cell? ⟨g, 4, none⟩ = some (.slice E4 y.f4.length d4)) (ds := [8]) #[false, false, false, false, false, false, false, false, false] (by kernel_rfl) rfl rfl ⟨o0, o1, o2, o3, o4, x3, hk0, y0, y1, y2, y3, y4⟩ (fun hHeld => ?_)
            refine pure_ (i := 1) (N := some 117) (v := ?_) (a' := ?_) #[false, true, false, false, false, false, false, false, false] rfl rfl (by kernel_rfl) (fun _ _ _ h => h) (Or.inl ⟨by rfl, ?_⟩) ?_ ?_
            rotate_left
            · intro w'
              go_simp
              with_reducible rfl
            rotate_left
            · simp only [Act.put, List.setIfInBounds_toArray, List.set_cons_zero, List.set_cons_succ, i64_w, i32_w]
              rfl
            refine pure_ (i := 3) (N := some 119) (v := ?_) (a' := ?_) #[false, true, false, true, false, false, false, false, false] rfl rfl (by kernel_rfl) (fun _ _ _ h => h) (Or.inl ⟨by rfl, ?_⟩) ?_ ?_
            rotate_left
            · intro w'
              go_simp
              with_reducible rfl
            rotate_left
            · simp only [Act.put, List.setIfInBounds_toArray, List.set_cons_zero, List.set_cons_succ, i64_w, i32_w]
              rfl
            refine take_ (i := 0) (N := some 116) (v := ?_) (a' := ?_) #[true, true, false, true, false, false, false, false, false] rfl rfl (by kernel_rfl) (fun _ _ _ h => h) (Or.inl ⟨by rfl, ?_⟩) hHeld ?_ ?_
            rotate_left
            · rintro w' ⟨s0, s1, s2, s3, s4, s5, s6, s7, s8, s9, s10, s11⟩
              go_simp
              with_reducible rfl
            rotate_left
            · simp only [Act.put, List.setIfInBounds_toArray, List.set_cons_zero, List.set_cons_succ, i64_w, i32_w]
              rfl
            refine take_ (i := 2) (N := some 118) (v := ?_) (a' := ?_) #[true, true, true, true, false, false, false, false, false] rfl rfl (by kernel_rfl) (fun _ _ _ h => h) (Or.inl ⟨by rfl, ?_⟩) hHeld ?_ ?_
            rotate_left
            · rintro w' ⟨s0, s1, s2, s3, s4, s5, s6, s7, s8, s9, s10, s11⟩
              go_simp
              with_reducible rfl
            rotate_left
            · simp only [Act.put, List.setIfInBounds_toArray, List.set_cons_zero, List.set_cons_succ, i64_w, i32_w]
              rfl
            refine pure_ (i := 4) (N := some 120) (v := ?_) (a' := ?_) #[true, true, true, true, true, false, false, false, false] rfl rfl (by kernel_rfl) (fun _ _ _ h => h) (Or.inl ⟨by rfl, ?_⟩) ?_ ?_
            rotate_left
            · intro w'
              go_simp
              with_reducible rfl
            rotate_left
            · simp only [Act.put, List.setIfInBounds_toArray, List.set_cons_zero, List.set_cons_succ, i64_w, i32_w]
              rfl
            refine take_ (i := 5) (N := some 121) (v := ?_) (a' := ?_) #[true, true, true, true, true, true, false, false, false] rfl rfl (by kernel_rfl) (fun _ _ _ h => h) (Or.inl ⟨by rfl, ?_⟩) hHeld ?_ ?_
            rotate_left
            · rintro w' ⟨s0, s1, s2, s3, s4, s5, s6, s7, s8, s9, s10, s11⟩
              go_simp
              with_reducible rfl
            rotate_left
            · simp only [Act.put, List.setIfInBounds_toArray, List.set_cons_zero, List.set_cons_succ, i64_w, i32_w]
              rfl
            refine take_ (i := 6) (N := some 122) (v := ?_) (a' := ?_) #[true, true, true, true, true, true, true, false, false] rfl rfl (by kernel_rfl) (fun _ _ _ h => h) (Or.inl ⟨by rfl, ?_⟩) hHeld ?_ ?_
            rotate_left
            · rintro w' ⟨s0, s1, s2, s3, s4, s5, s6, s7, s8, s9, s10, s11⟩
              go_simp
              with_reducible rfl
            rotate_left
            · simp only [Act.put, List.setIfInBounds_toArray, List.set_cons_zero, List.set_cons_succ, i64_w, i32_w]
              rfl
            refine one_ (i := 7) (N := some 123) #[true, true, true, true, true, true, true, true, false] rfl rfl (by kernel_rfl) (by decide) (fun K hK => ?_)
            refine goes_ Tryd.func24 (by kernel_rfl) rfl #[.agg #[.int .i64 5, .int .i64 0, .string ⟨#[]⟩, .slice A ks.length c, .slice A' rs.length c'], .string key, .agg #[.int .i64 3, .int .i64 y.f1, .string y.f2, .slice E3 y.f3.length d3, .slice E4 y.f4.length d4]] (by rfl) rfl rfl (by simp only [List.map_toArray, List.map_cons, List.map_nil]; rfl) ?_
            with_reducible refine (spec_WithR 5 0 ⟨#[]⟩ key ks rs (⟨3, y.f1, y.f2, E3, y.f3.length, d3, E4, y.f4.length, d4⟩ : RV) A c A' c' w3.drew (Kd.C_below KC3.out (below_drew1 (Below.refl _ _))) (Kd.C_below VC3.out (below_drew1 (Below.refl _ _))) HKB.out HF.out.len).mono ?_
            rintro e w4 ⟨A5, c5, A6, c6, rfl, hd3, hD3, hd4, hD4, hg3, hg4, hb4⟩
            refine ⟨_, rfl, ?_⟩
            have hc4 : Below w3.heap.size w3 w4 := below_un hb4
            have HC4 := Aside0.mk hc4
            have HD3 := Aside0.mk (And.intro hd3 hD3)
            have HD4 := Aside0.mk (And.intro hd4 hD4)
            have HG4 := Aside0.mk (And.intro hg3 hg4)
            clear hb4 hc4 hd3 hD3 hd4 hD4 hg3 hg4
            refine hK.out _ _ ⟨(HC4.out.cell (World.block_lt_of_cell? w3 _ o0)).trans o0, (HC4.out.cell (World.block_lt_of_cell? w3 _ o1)).trans o1, (HC4.out.cell (World.block_lt_of_cell? w3 _ o2)).trans o2, (HC4.out.cell (World.block_lt_of_cell? w3 _ o3)).trans o3, (HC4.out.cell (World.block_lt_of_cell? w3 _ o4)).trans o4, (HC4.out.cell (World.block_lt_of_cell? w3 _ x3)).trans x3, (HC4.out.cell (World.block_lt_of_cell? w3 _ hk0)).trans hk0, (HC4.out.cell (World.block_lt_of_cell? w3 _ y0)).trans y0, (HC4.out.cell (World.block_lt_of_cell? w3 _ y1)).trans y1, (HC4.out.cell (World.block_lt_of_cell? w3 _ y2)).trans y2, (HC4.out.cell (World.block_lt_of_cell? w3 _ y3)).trans y3, (HC4.out.cell (World.block_lt_of_cell? w3 _ y4)).trans y4⟩ (fun hHeld => ?_)
            clear hK K
            refine norm_ (a' := ?_) ?_ ?_
            rotate_left
            · show Act.put _ (some 123) _ = _
              simp only [Act.put, List.setIfInBounds_toArray, List.set_cons_zero, List.set_cons_succ, i64_w, i32_w]
              rfl
            refine last_ (i := 8) (N := none) #[true, true, true, true, true, true, true, true, true] rfl rfl (by kernel_rfl) (by decide) (fun K hK => ?_)
            refine store_step (cur := #[.int .i64 5, .int .i64 0, .string ⟨#[]⟩, .slice A ks.length c, .slice A' rs.length c']) (e := 25) (g := w.heap.size + 2) 25 _ _ (.agg #[.int .i64 5, .int .i64 0, .string ⟨#[]⟩, .slice A5 (withKs key ks).length c5, .slice A6 (withVs key ks rs (⟨3, y.f1, y.f2, E3, y.f3.length, d3, E4, y.f4.length, d4⟩ : RV)).length c6]) [.int .i64 5, .int .i64 0, .string ⟨#[]⟩, .slice A5 (withKs key ks).length c5, .slice A6 (withVs key ks rs (⟨3, y.f1, y.f2, E3, y.f3.length, d3, E4, y.f4.length, d4⟩ : RV)).length c6] (by rfl) rfl rfl rfl rfl ((HC4.out.block (w.heap.size + 2) (Nat.lt_of_lt_of_le (by omega) HS3.out)).trans HBO3.out) rfl (show (Tryd.prog.info? 25).map (·.size) = some 5 by kernel_rfl) rfl (by simp [Value.oneCell']) ?_
            intro w7 h7 hg7
            have H7 := Aside0.mk h7
            have HG7 := Aside0.mk hg7
            clear h7 hg7
            refine hK.out _ _ ?_
            clear hK K
            refine done_ (by kernel_rfl) ?_
            
            go_wp2
            go_roundw
            case rel =>
              have hs4 : w3.heap.size ≤ w4.heap.size := HC4.out.size
              have hs3 := HS3.out
              refine ⟨i + 1, withKs key ks, withVs key ks rs (⟨3, y.f1, y.f2, E3, y.f3.length, d3, E4, y.f4.length, d4⟩ : RV), A5, c5, A6, c6, hlt, by go_num, Lib.hid (Nat.le_trans (withKs_len _ _) (Nat.succ_le_succ HKL.out)), ⟨HF.out.more HL3.out HL4.out HASC.out (by rw [← HYI.out]; exact HYK.out) (o := some y.f2) (by rw [← HYI.out, ← HKK.out]; exact HE.out) HFLAT.out (HKK.out _) H7.out HG7.out HD3.out HD4.out (HG4.out.1.lower (by show _ ≤ w3.heap.size; omega)) (HG4.out.2.lower (by show _ ≤ w3.heap.size; omega)) (HBF3.out.trans (HC4.out.mono (by omega))) (by omega)⟩⟩
            case measure => first | exact msF hlt | (rw [wk]; exact msF hlt)
          | some ev0 =>
            dsimp only
            go_upto_region 28 with fail
            refine start_ (n := 9) (S := fun w' => w'.cell? ⟨w.heap.size + 2, 0, none⟩ = some (.int .i64 5) ∧ w'.cell? ⟨w.heap.size + 2, 1, none⟩ = some (.int .i64 0) ∧ w'.cell? ⟨w.heap.size + 2, 2, none⟩ = some (.string ⟨#[]⟩) ∧ w'.cell? ⟨w.heap.size + 2, 3, none⟩ = some (.slice A ks.length c) ∧ w'.cell? ⟨w.heap.size + 2, 4, none⟩ = some (.slice A' rs.length c') ∧ w'.cell? ⟨w.heap.size, 3, none⟩ = some (.slice (some adk) nk c3) ∧ w'.cell? (adk.add i) = some (.string key) ∧ w'.cell? ⟨g, 0, none⟩ = some (.int .i64 3) ∧ w'.cell? ⟨g, 1, none⟩ = some (.int .i64 y.f1) ∧ w'.cell? ⟨g, 2, none⟩ = some (.string y.f2) ∧ w'.cell? ⟨g, 3, none⟩ = some (.slice E3 y.f3.length d3) ∧ w'.cell? ⟨g, 4, none⟩ = some (.slice E4 y.f4.length d4)) (ds := [8]) #[false, false, false, false, false, false, false, false, false] (by kernel_rfl) rfl rfl ⟨o0, o1, o2, o3, o4, x3, hk0, y0, y1, y2, y3, y4⟩ (fun hHeld => ?_)
            refine pure_ (i := 1) (N := some 117) (v := ?_) (a' := ?_) #[false, true, false, false, false, false, false, false, false] rfl rfl (by kernel_rfl) (fun _ _ _ h => h) (Or.inl ⟨by rfl, ?_⟩) ?_ ?_
            rotate_left
            · intro w'
              go_simp
              with_reducible rfl
            rotate_left
            · simp only [Act.put, List.setIfInBounds_toArray, List.set_cons_zero, List.set_cons_succ, i64_w, i32_w]
              rfl
            refine pure_ (i := 3) (N := some 119) (v := ?_) (a' := ?_) #[false, true, false, true, false, false, false, false, false] rfl rfl (by kernel_rfl) (fun _ _ _ h => h) (Or.inl ⟨by rfl, ?_⟩) ?_ ?_
            rotate_left
            · intro w'
              go_simp
              with_reducible rfl
            rotate_left
            · simp only [Act.put, List.setIfInBounds_toArray, List.set_cons_zero, List.set_cons_succ, i64_w, i32_w]
              rfl
            refine take_ (i := 0) (N := some 116) (v := ?_) (a' := ?_) #[true, true, false, true, false, false, false, false, false] rfl rfl (by kernel_rfl) (fun _ _ _ h => h) (Or.inl ⟨by rfl, ?_⟩) hHeld ?_ ?_
            rotate_left
            · rintro w' ⟨s0, s1, s2, s3, s4, s5, s6, s7, s8, s9, s10, s11⟩
              go_simp
              with_reducible rfl
            rotate_left
            · simp only [Act.put, List.setIfInBounds_toArray, List.set_cons_zero, List.set_cons_succ, i64_w, i32_w]
              rfl
            refine take_ (i := 2) (N := some 118) (v := ?_) (a' := ?_) #[true, true, true, true, false, false, false, false, false] rfl rfl (by kernel_rfl) (fun _ _ _ h => h) (Or.inl ⟨by rfl, ?_⟩) hHeld ?_ ?_
            rotate_left
            · rintro w' ⟨s0, s1, s2, s3, s4, s5, s6, s7, s8, s9, s10, s11⟩
              go_simp
              with_reducible rfl
            rotate_left
            · simp only [Act.put, List.setIfInBounds_toArray, List.set_cons_zero, List.set_cons_succ, i64_w, i32_w]
              rfl
            refine pure_ (i := 4) (N := some 120) (v := ?_) (a' := ?_) #[true, true, true, true, true, false, false, false, false] rfl rfl (by kernel_rfl) (fun _ _ _ h => h) (Or.inl ⟨by rfl, ?_⟩) ?_ ?_
            rotate_left
            · intro w'
              go_simp
              with_reducible rfl
            rotate_left
            · simp only [Act.put, List.setIfInBounds_toArray, List.set_cons_zero, List.set_cons_succ, i64_w, i32_w]
              rfl
            refine take_ (i := 5) (N := some 121) (v := ?_) (a' := ?_) #[true, true, true, true, true, true, false, false, false] rfl rfl (by kernel_rfl) (fun _ _ _ h => h) (Or.inl ⟨by rfl, ?_⟩) hHeld ?_ ?_
            rotate_left
            · rintro w' ⟨s0, s1, s2, s3, s4, s5, s6, s7, s8, s9, s10, s11⟩
              go_simp
              with_reducible rfl
            rotate_left
            · simp only [Act.put, List.setIfInBounds_toArray, List.set_cons_zero, List.set_cons_succ, i64_w, i32_w]
              rfl
            refine take_ (i := 6) (N := some 122) (v := ?_) (a' := ?_) #[true, true, true, true, true, true, true, false, false] rfl rfl (by kernel_rfl) (fun _ _ _ h => h) (Or.inl ⟨by rfl, ?_⟩) hHeld ?_ ?_
            rotate_left
            · rintro w' ⟨s0, s1, s2, s3, s4, s5, s6, s7, s8, s9, s10, s11⟩
              go_simp
              with_reducible rfl
            rotate_left
            · simp only [Act.put, List.setIfInBounds_toArray, List.set_cons_zero, List.set_cons_succ, i64_w, i32_w]
              rfl
            refine one_ (i := 7) (N := some 123) #[true, true, true, true, true, true, true, true, false] rfl rfl (by kernel_rfl) (by decide) (fun K hK => ?_)
            refine goes_ Tryd.func24 (by kernel_rfl) rfl #[.agg #[.int .i64 5, .int .i64 0, .string ⟨#[]⟩, .slice A ks.length c, .slice A' rs.length c'], .string key, .agg #[.int .i64 3, .int .i64 y.f1, .string y.f2, .slice E3 y.f3.length d3, .slice E4 y.f4.length d4]] (by rfl) rfl rfl (by simp only [List.map_toArray, List.map_cons, List.map_nil]; rfl) ?_
            with_reducible refine (spec_WithR 5 0 ⟨#[]⟩ key ks rs (⟨3, y.f1, y.f2, E3, y.f3.length, d3, E4, y.f4.length, d4⟩ : RV) A c A' c' w3.drew (Kd.C_below KC3.out (below_drew1 (Below.refl _ _))) (Kd.C_below VC3.out (below_drew1 (Below.refl _ _))) HKB.out HF.out.len).mono ?_
            rintro e w4 ⟨A5, c5, A6, c6, rfl, hd3, hD3, hd4, hD4, hg3, hg4, hb4⟩
            refine ⟨_, rfl, ?_⟩
            have hc4 : Below w3.heap.size w3 w4 := below_un hb4
            have HC4 := Aside0.mk hc4
            have HD3 := Aside0.mk (And.intro hd3 hD3)
            have HD4 := Aside0.mk (And.intro hd4 hD4)
            have HG4 := Aside0.mk (And.intro hg3 hg4)
            clear hb4 hc4 hd3 hD3 hd4 hD4 hg3 hg4
            refine hK.out _ _ ⟨(HC4.out.cell (World.block_lt_of_cell? w3 _ o0)).trans o0, (HC4.out.cell (World.block_lt_of_cell? w3 _ o1)).trans o1, (HC4.out.cell (World.block_lt_of_cell? w3 _ o2)).trans o2, (HC4.out.cell (World.block_lt_of_cell? w3 _ o3)).trans o3, (HC4.out.cell (World.block_lt_of_cell? w3 _ o4)).trans o4, (HC4.out.cell (World.block_lt_of_cell? w3 _ x3)).trans x3, (HC4.out.cell (World.block_lt_of_cell? w3 _ hk0)).trans hk0, (HC4.out.cell (World.block_lt_of_cell? w3 _ y0)).trans y0, (HC4.out.cell (World.block_lt_of_cell? w3 _ y1)).trans y1, (HC4.out.cell (World.block_lt_of_cell? w3 _ y2)).trans y2, (HC4.out.cell (World.block_lt_of_cell? w3 _ y3)).trans y3, (HC4.out.cell (World.block_lt_of_cell? w3 _ y4)).trans y4⟩ (fun hHeld => ?_)
            clear hK K
            refine norm_ (a' := ?_) ?_ ?_
            rotate_left
            · show Act.put _ (some 123) _ = _
              simp only [Act.put, List.setIfInBounds_toArray, List.set_cons_zero, List.set_cons_succ, i64_w, i32_w]
              rfl
            refine last_ (i := 8) (N := none) #[true, true, true, true, true, true, true, true, true] rfl rfl (by kernel_rfl) (by decide) (fun K hK => ?_)
            refine store_step (cur := #[.int .i64 5, .int .i64 0, .string ⟨#[]⟩, .slice A ks.length c, .slice A' rs.length c']) (e := 25) (g := w.heap.size + 2) 25 _ _ (.agg #[.int .i64 5, .int .i64 0, .string ⟨#[]⟩, .slice A5 (withKs key ks).length c5, .slice A6 (withVs key ks rs (⟨3, y.f1, y.f2, E3, y.f3.length, d3, E4, y.f4.length, d4⟩ : RV)).length c6]) [.int .i64 5, .int .i64 0, .string ⟨#[]⟩, .slice A5 (withKs key ks).length c5, .slice A6 (withVs key ks rs (⟨3, y.f1, y.f2, E3, y.f3.length, d3, E4, y.f4.length, d4⟩ : RV)).length c6] (by rfl) rfl rfl rfl rfl ((HC4.out.block (w.heap.size + 2) (Nat.lt_of_lt_of_le (by omega) HS3.out)).trans HBO3.out) rfl (show (Tryd.prog.info? 25).map (·.size) = some 5 by kernel_rfl) rfl (by simp [Value.oneCell']) ?_
            intro w7 h7 hg7
            have H7 := Aside0.mk h7
            have HG7 := Aside0.mk hg7
            clear h7 hg7
            refine hK.out _ _ ?_
            clear hK K
            refine done_ (by kernel_rfl) ?_
            
            go_wp2
            go_roundw
            case rel =>
              have hs4 : w3.heap.size ≤ w4.heap.size := HC4.out.size
              have hs3 := HS3.out
              refine ⟨i + 1, withKs key ks, withVs key ks rs (⟨3, y.f1, y.f2, E3, y.f3.length, d3, E4, y.f4.length, d4⟩ : RV), A5, c5, A6, c6, hlt, by go_num, Lib.hid (Nat.le_trans (withKs_len _ _) (Nat.succ_le_succ HKL.out)), ⟨HF.out.more HL3.out HL4.out HASC.out (by rw [← HYI.out]; exact HYK.out) (o := some y.f2) (by rw [← HYI.out, ← HKK.out]; exact HE.out) HFLAT.out (HKK.out _) H7.out HG7.out HD3.out HD4.out (HG4.out.1.lower (by show _ ≤ w3.heap.size; omega)) (HG4.out.2.lower (by show _ ≤ w3.heap.size; omega)) (HBF3.out.trans (HC4.out.mono (by omega))) (by omega)⟩⟩
            case measure => first | exact msF hlt | (rw [wk]; exact msF hlt)
        · have e3 : (y.f0 == 3) = false := by simpa using hk3
          by_cases hk0' : y.f0 = 0
          · rw [hk0'] at y0 HYB3 e3
            have HYK : Hid (y.f0 = 3 ∨ y.f0 = 0) := Lib.hid (.inr hk0')
            have HFO : Hid (fO y = none) := Lib.hid (by unfold fO; rw [if_neg hk3])
            have HFLAT : Hid (FlatO none (⟨0, y.f1, y.f2, E3, y.f3.length, d3, E4, y.f4.length, d4⟩ : RV)) := Lib.hid (by have := flat_O HFY.out (.inr hk0') E3 d3 E4 d4; unfold rvS at this; rw [hk0', HFO.out] at this; exact this)
            clear hk3 hk0' e3
            cases ov with
            | some ev =>
              have HE : Hid (entR (envE l) keep (key, fO y) = some (key, some ev)) := Lib.hid (by rw [HEN.out, HFO.out]; rfl)
              dsimp only
              go_upto_region 32 with fail
              refine start_ (n := 10) (S := fun w' => w'.cell? ⟨w.heap.size + 2, 0, none⟩ = some (.int .i64 5) ∧ w'.cell? ⟨w.heap.size + 2, 1, none⟩ = some (.int .i64 0) ∧ w'.cell? ⟨w.heap.size + 2, 2, none⟩ = some (.string ⟨#[]⟩) ∧ w'.cell? ⟨w.heap.size + 2, 3, none⟩ = some (.slice A ks.length c) ∧ w'.cell? ⟨w.heap.size + 2, 4, none⟩ = some (.slice A' rs.length c') ∧ w'.cell? ⟨w.heap.size, 3, none⟩ = some (.slice (some adk) nk c3) ∧ w'.cell? (adk.add i) = some (.string key) ∧ w'.cell? ⟨g, 0, none⟩ = some (.int .i64 0) ∧ w'.cell? ⟨g, 1, none⟩ = some (.int .i64 y.f1) ∧ w'.cell? ⟨g, 2, none⟩ = some (.string y.f2) ∧ w'.cell? ⟨g, 3, none⟩ = some (.slice E3 y.f3.length d3) ∧ w'.cell? ⟨g, 4, none⟩ = some (.slice E4 y.f4.length d4)) (ds := [9]) #[false, false, false, false, false, false, false, false, false, false] (by kernel_rfl) rfl rfl ⟨o0, o1, o2, o3, o4, x3, hk0, y0, y1, y2, y3, y4⟩ (fun hHeld => ?_)
              refine pure_ (i := 1) (N := some 132) (v := ?_) (a' := ?_) #[false, true, false, false, false, false, false, false, false, false] rfl rfl (by kernel_rfl) (fun _ _ _ h => h) (Or.inl ⟨by rfl, ?_⟩) ?_ ?_
              rotate_left
              · intro w'
                go_simp
                with_reducible rfl
              rotate_left
              · simp only [Act.put, List.setIfInBounds_toArray, List.set_cons_zero, List.set_cons_succ, i64_w, i32_w]
                rfl
              refine pure_ (i := 3) (N := some 134) (v := ?_) (a' := ?_) #[false, true, false, true, false, false, false, false, false, false] rfl rfl (by kernel_rfl) (fun _ _ _ h => h) (Or.inl ⟨by rfl, ?_⟩) ?_ ?_
              rotate_left
              · intro w'
                go_simp
                with_reducible rfl
              rotate_left
              · simp only [Act.put, List.setIfInBounds_toArray, List.set_cons_zero, List.set_cons_succ, i64_w, i32_w]
                rfl
              refine pure_ (i := 6) (N := some 137) (v := ?_) (a' := ?_) #[false, true, false, true, false, false, true, false, false, false] rfl rfl (by kernel_rfl) (fun _ _ _ h => h) (Or.inl ⟨by rfl, ?_⟩) ?_ ?_
              rotate_left
              · intro w'
                go_simp
                with_reducible rfl
              rotate_left
              · simp only [Act.put, List.setIfInBounds_toArray, List.set_cons_zero, List.set_cons_succ, i64_w, i32_w]
                rfl
              refine take_ (i := 0) (N := some 131) (v := ?_) (a' := ?_) #[true, true, false, true, false, false, true, false, false, false] rfl rfl (by kernel_rfl) (fun _ _ _ h => h) (Or.inl ⟨by rfl, ?_⟩) hHeld ?_ ?_
              rotate_left
              · rintro w' ⟨s0, s1, s2, s3, s4, s5, s6, s7, s8, s9, s10, s11⟩
                go_simp
                with_reducible rfl
              rotate_left
              · simp only [Act.put, List.setIfInBounds_toArray, List.set_cons_zero, List.set_cons_succ, i64_w, i32_w]
                rfl
              refine take_ (i := 2) (N := some 133) (v := ?_) (a' := ?_) #[true, true, true, true, false, false, true, false, false, false] rfl rfl (by kernel_rfl) (fun _ _ _ h => h) (Or.inl ⟨by rfl, ?_⟩) hHeld ?_ ?_
              rotate_left
              · rintro w' ⟨s0, s1, s2, s3, s4, s5, s6, s7, s8, s9, s10, s11⟩
                go_simp
                with_reducible rfl
              rotate_left
              · simp only [Act.put, List.setIfInBounds_toArray, List.set_cons_zero, List.set_cons_succ, i64_w, i32_w]
                rfl
              refine pure_ (i := 4) (N := some 135) (v := ?_) (a' := ?_) #[true, true, true, true, true, false, true, false, false, false] rfl rfl (by kernel_rfl) (fun _ _ _ h => h) (Or.inl ⟨by rfl, ?_⟩) ?_ ?_
              rotate_left
              · intro w'
                go_simp
                with_reducible rfl
              rotate_left
              · simp only [Act.put, List.setIfInBounds_toArray, List.set_cons_zero, List.set_cons_succ, i64_w, i32_w]
                rfl
              refine take_ (i := 5) (N := some 136) (v := ?_) (a' := ?_) #[true, true, true, true, true, true, true, false, false, false] rfl rfl (by kernel_rfl) (fun _ _ _ h => h) (Or.inl ⟨by rfl, ?_⟩) hHeld ?_ ?_
              rotate_left
              · rintro w' ⟨s0, s1, s2, s3, s4, s5, s6, s7, s8, s9, s10, s11⟩
                go_simp
                with_reducible rfl
              rotate_left
              · simp only [Act.put, List.setIfInBounds_toArray, List.set_cons_zero, List.set_cons_succ, i64_w, i32_w]
                rfl
              refine one_ (i := 7) (N := some 138) #[true, true, true, true, true, true, true, true, false, false] rfl rfl (by kernel_rfl) (by decide) (fun K hK => ?_)
              refine goes_ Tryd.func22 (by kernel_rfl) rfl #[.string ev] (by rfl) rfl rfl (by simp only [List.map_toArray, List.map_cons, List.map_nil]; rfl) ?_
              with_reducible refine (spec_Tx ev w3.drew).mono ?_
              rintro e w35 ⟨rfl, hb35⟩
              refine ⟨_, rfl, ?_⟩
              have hc35 : Below w3.heap.size w3 w35 := below_un hb35
              have HC35 := Aside0.mk hc35
              clear hb35 hc35
              refine hK.out _ _ ⟨(HC35.out.cell (World.block_lt_of_cell? w3 _ o0)).trans o0, (HC35.out.cell (World.block_lt_of_cell? w3 _ o1)).trans o1, (HC35.out.cell (World.block_lt_of_cell? w3 _ o2)).trans o2, (HC35.out.cell (World.block_lt_of_cell? w3 _ o3)).trans o3, (HC35.out.cell (World.block_lt_of_cell? w3 _ o4)).trans o4, (HC35.out.cell (World.block_lt_of_cell? w3 _ x3)).trans x3, (HC35.out.cell (World.block_lt_of_cell? w3 _ hk0)).trans hk0, (HC35.out.cell (World.block_lt_of_cell? w3 _ y0)).trans y0, (HC35.out.cell (World.block_lt_of_cell? w3 _ y1)).trans y1, (HC35.out.cell (World.block_lt_of_cell? w3 _ y2)).trans y2, (HC35.out.cell (World.block_lt_of_cell? w3 _ y3)).trans y3, (HC35.out.cell (World.block_lt_of_cell? w3 _ y4)).trans y4⟩ (fun hHeld => ?_)
              clear hK K
              refine norm_ (a' := ?_) ?_ ?_
              rotate_left
              · show Act.put _ (some 138) _ = _
                simp only [Act.put, List.setIfInBounds_toArray, List.set_cons_zero, List.set_cons_succ, i64_w, i32_w]
                rfl
              refine one_ (i := 8) (N := some 139) #[true, true, true, true, true, true, true, true, true, false] rfl rfl (by kernel_rfl) (by decide) (fun K hK => ?_)
              refine goes_ Tryd.func24 (by kernel_rfl) rfl #[.agg #[.int .i64 5, .int .i64 0, .string ⟨#[]⟩, .slice A ks.length c, .slice A' rs.length c'], .string key, .agg #[.int .i64 3, .int .i64 0, .string ev, .slice none 0 0, .slice none 0 0]] (by rfl) rfl rfl (by simp only [List.map_toArray, List.map_cons, List.map_nil]; rfl) ?_
              with_reducible refine (spec_WithR 5 0 ⟨#[]⟩ key ks rs (⟨3, 0, ev, none, 0, 0, none, 0, 0⟩ : RV) A c A' c' w35 (Kd.C_below KC3.out HC35.out) (Kd.C_below VC3.out HC35.out) HKB.out HF.out.len).mono ?_
              rintro e w4 ⟨A5, c5, A6, c6, rfl, hd3, hD3, hd4, hD4, hg3, hg4, hb4⟩
              refine ⟨_, rfl, ?_⟩
              have hc4 : Below w3.heap.size w3 w4 := below_then HC35.out HC35.out.size hb4
              have HC4 := Aside0.mk hc4
              have HD3 := Aside0.mk (And.intro hd3 hD3)
              have HD4 := Aside0.mk (And.intro hd4 hD4)
              have HG4 := Aside0.mk (And.intro hg3 hg4)
              clear hb4 hc4 hd3 hD3 hd4 hD4 hg3 hg4
              refine hK.out _ _ ⟨(HC4.out.cell (World.block_lt_of_cell? w3 _ o0)).trans o0, (HC4.out.cell (World.block_lt_of_cell? w3 _ o1)).trans o1, (HC4.out.cell (World.block_lt_of_cell? w3 _ o2)).trans o2, (HC4.out.cell (World.block_lt_of_cell? w3 _ o3)).trans o3, (HC4.out.cell (World.block_lt_of_cell? w3 _ o4)).trans o4, (HC4.out.cell (World.block_lt_of_cell? w3 _ x3)).trans x3, (HC4.out.cell (World.block_lt_of_cell? w3 _ hk0)).trans hk0, (HC4.out.cell (World.block_lt_of_cell? w3 _ y0)).trans y0, (HC4.out.cell (World.block_lt_of_cell? w3 _ y1)).trans y1, (HC4.out.cell (World.block_lt_of_cell? w3 _ y2)).trans y2, (HC4.out.cell (World.block_lt_of_cell? w3 _ y3)).trans y3, (HC4.out.cell (World.block_lt_of_cell? w3 _ y4)).trans y4⟩ (fun hHeld => ?_)
              clear hK K
              refine norm_ (a' := ?_) ?_ ?_
              rotate_left
              · show Act.put _ (some 139) _ = _
                simp only [Act.put, List.setIfInBounds_toArray, List.set_cons_zero, List.set_cons_succ, i64_w, i32_w]
                rfl
              refine last_ (i := 9) (N := none) #[true, true, true, true, true, true, true, true, true, true] rfl rfl (by kernel_rfl) (by decide) (fun K hK => ?_)
              refine store_step (cur := #[.int .i64 5, .int .i64 0, .string ⟨#[]⟩, .slice A ks.length c, .slice A' rs.length c']) (e := 25) (g := w.heap.size + 2) 25 _ _ (.agg #[.int .i64 5, .int .i64 0, .string ⟨#[]⟩, .slice A5 (withKs key ks).length c5, .slice A6 (withVs key ks rs (⟨3, 0, ev, none, 0, 0, none, 0, 0⟩ : RV)).length c6]) [.int .i64 5, .int .i64 0, .string ⟨#[]⟩, .slice A5 (withKs key ks).length c5, .slice A6 (withVs key ks rs (⟨3, 0, ev, none, 0, 0, none, 0, 0⟩ : RV)).length c6] (by rfl) rfl rfl rfl rfl ((HC4.out.block (w.heap.size + 2) (Nat.lt_of_lt_of_le (by omega) HS3.out)).trans HBO3.out) rfl (show (Tryd.prog.info? 25).map (·.size) = some 5 by kernel_rfl) rfl (by simp [Value.oneCell']) ?_
              intro w7 h7 hg7
              have H7 := Aside0.mk h7
              have HG7 := Aside0.mk hg7
              clear h7 hg7
              refine hK.out _ _ ?_
              clear hK K
              refine done_ (by kernel_rfl) ?_
              
              go_wp2
              go_roundw
              case rel =>
                have hs4 : w3.heap.size ≤ w4.heap.size := HC4.out.size
                have hs3 := HS3.out
                refine ⟨i + 1, withKs key ks, withVs key ks rs (⟨3, 0, ev, none, 0, 0, none, 0, 0⟩ : RV), A5, c5, A6, c6, hlt, by go_num, Lib.hid (Nat.le_trans (withKs_len _ _) (Nat.succ_le_succ HKL.out)), ⟨HF.out.more HL3.out HL4.out HASC.out (by rw [← HYI.out]; exact HYK.out) (o := some ev) (by rw [← HYI.out, ← HKK.out]; exact HE.out) (flat_new ev) (HKK.out _) H7.out HG7.out HD3.out HD4.out (HG4.out.1.lower (by have := HC35.out.size; omega)) (HG4.out.2.lower (by have := HC35.out.size; omega)) (HBF3.out.trans (HC4.out.mono (by omega))) (by omega)⟩⟩
              case measure => first | exact msF hlt | (rw [wk]; exact msF hlt)
            | none =>
              dsimp only
              cases keep with
              | true =>
                have HE : Hid (entR (envE l) true (key, fO y) = some (key, none)) := Lib.hid (by rw [HEN.out, HFO.out]; rfl)
                go_upto_region 34 with fail
                refine start_ (n := 9) (S := fun w' => w'.cell? ⟨w.heap.size + 2, 0, none⟩ = some (.int .i64 5) ∧ w'.cell? ⟨w.heap.size + 2, 1, none⟩ = some (.int .i64 0) ∧ w'.cell? ⟨w.heap.size + 2, 2, none⟩ = some (.string ⟨#[]⟩) ∧ w'.cell? ⟨w.heap.size + 2, 3, none⟩ = some (.slice A ks.length c) ∧ w'.cell? ⟨w.heap.size + 2, 4, none⟩ = some (.slice A' rs.length c') ∧ w'.cell? ⟨w.heap.size, 3, none⟩ = some (.slice (some adk) nk c3) ∧ w'.cell? (adk.add i) = some (.string key) ∧ w'.cell? ⟨g, 0, none⟩ = some (.int .i64 0) ∧ w'.cell? ⟨g, 1, none⟩ = some (.int .i64 y.f1) ∧ w'.cell? ⟨g, 2, none⟩ = some (.string y.f2) ∧ w'.cell? ⟨g, 3, none⟩ = some (.slice E3 y.f3.length d3) ∧ w'.cell? ⟨g, 4, none⟩ = some (.slice E4 y.f4.length d4)) (ds := [8]) #[false, false, false, false, false, false, false, false, false] (by kernel_rfl) rfl rfl ⟨o0, o1, o2, o3, o4, x3, hk0, y0, y1, y2, y3, y4⟩ (fun hHeld => ?_)
                refine pure_ (i := 1) (N := some 143) (v := ?_) (a' := ?_) #[false, true, false, false, false, false, false, false, false] rfl rfl (by kernel_rfl) (fun _ _ _ h => h) (Or.inl ⟨by rfl, ?_⟩) ?_ ?_
                rotate_left
                · intro w'
                  go_simp
                  with_reducible rfl
                rotate_left
                · simp only [Act.put, List.setIfInBounds_toArray, List.set_cons_zero, List.set_cons_succ, i64_w, i32_w]
                  rfl
                refine pure_ (i := 3) (N := some 145) (v := ?_) (a' := ?_) #[false, true, false, true, false, false, false, false, false] rfl rfl (by kernel_rfl) (fun _ _ _ h => h) (Or.inl ⟨by rfl, ?_⟩) ?_ ?_
                rotate_left
                · intro w'
                  go_simp
                  with_reducible rfl
                rotate_left
                · simp only [Act.put, List.setIfInBounds_toArray, List.set_cons_zero, List.set_cons_succ, i64_w, i32_w]
                  rfl
                refine take_ (i := 0) (N := some 142) (v := ?_) (a' := ?_) #[true, true, false, true, false, false, false, false, false] rfl rfl (by kernel_rfl) (fun _ _ _ h => h) (Or.inl ⟨by rfl, ?_⟩) hHeld ?_ ?_
                rotate_left
                · rintro w' ⟨s0, s1, s2, s3, s4, s5, s6, s7, s8, s9, s10, s11⟩
                  go_simp
                  with_reducible rfl
                rotate_left
                · simp only [Act.put, List.setIfInBounds_toArray, List.set_cons_zero, List.set_cons_succ, i64_w, i32_w]
                  rfl
                refine take_ (i := 2) (N := some 144) (v := ?_) (a' := ?_) #[true, true, true, true, false, false, false, false, false] rfl rfl (by kernel_rfl) (fun _ _ _ h => h) (Or.inl ⟨by rfl, ?_⟩) hHeld ?_ ?_
                rotate_left
                · rintro w' ⟨s0, s1, s2, s3, s4, s5, s6, s7, s8, s9, s10, s11⟩
                  go_simp
                  with_reducible rfl
                rotate_left
                · simp only [Act.put, List.setIfInBounds_toArray, List.set_cons_zero, List.set_cons_succ, i64_w, i32_w]
                  rfl
                refine pure_ (i := 4) (N := some 146) (v := ?_) (a' := ?_) #[true, true, true, true, true, false, false, false, false] rfl rfl (by kernel_rfl) (fun _ _ _ h => h) (Or.inl ⟨by rfl, ?_⟩) ?_ ?_
                rotate_left
                · intro w'
                  go_simp
                  with_reducible rfl
                rotate_left
                · simp only [Act.put, List.setIfInBounds_toArray, List.set_cons_zero, List.set_cons_succ, i64_w, i32_w]
                  rfl
                refine take_ (i := 5) (N := some 147) (v := ?_) (a' := ?_) #[true, true, true, true, true, true, false, false, false] rfl rfl (by kernel_rfl) (fun _ _ _ h => h) (Or.inl ⟨by rfl, ?_⟩) hHeld ?_ ?_
                rotate_left
                · rintro w' ⟨s0, s1, s2, s3, s4, s5, s6, s7, s8, s9, s10, s11⟩
                  go_simp
                  with_reducible rfl
                rotate_left
                · simp only [Act.put, List.setIfInBounds_toArray, List.set_cons_zero, List.set_cons_succ, i64_w, i32_w]
                  rfl
                refine take_ (i := 6) (N := some 148) (v := ?_) (a' := ?_) #[true, true, true, true, true, true, true, false, false] rfl rfl (by kernel_rfl) (fun _ _ _ h => h) (Or.inl ⟨by rfl, ?_⟩) hHeld ?_ ?_
                rotate_left
                · rintro w' ⟨s0, s1, s2, s3, s4, s5, s6, s7, s8, s9, s10, s11⟩
                  go_simp
                  with_reducible rfl
                rotate_left
                · simp only [Act.put, List.setIfInBounds_toArray, List.set_cons_zero, List.set_cons_succ, i64_w, i32_w]
                  rfl
                refine one_ (i := 7) (N := some 149) #[true, true, true, true, true, true, true, true, false] rfl rfl (by kernel_rfl) (by decide) (fun K hK => ?_)
                refine goes_ Tryd.func24 (by kernel_rfl) rfl #[.agg #[.int .i64 5, .int .i64 0, .string ⟨#[]⟩, .slice A ks.length c, .slice A' rs.length c'], .string key, .agg #[.int .i64 0, .int .i64 y.f1, .string y.f2, .slice E3 y.f3.length d3, .slice E4 y.f4.length d4]] (by rfl) rfl rfl (by simp only [List.map_toArray, List.map_cons, List.map_nil]; rfl) ?_
                with_reducible refine (spec_WithR 5 0 ⟨#[]⟩ key ks rs (⟨0, y.f1, y.f2, E3, y.f3.length, d3, E4, y.f4.length, d4⟩ : RV) A c A' c' w3.drew (Kd.C_below KC3.out (below_drew1 (Below.refl _ _))) (Kd.C_below VC3.out (below_drew1 (Below.refl _ _))) HKB.out HF.out.len).mono ?_
                rintro e w4 ⟨A5, c5, A6, c6, rfl, hd3, hD3, hd4, hD4, hg3, hg4, hb4⟩
                refine ⟨_, rfl, ?_⟩
                have hc4 : Below w3.heap.size w3 w4 := below_un hb4
                have HC4 := Aside0.mk hc4
                have HD3 := Aside0.mk (And.intro hd3 hD3)
                have HD4 := Aside0.mk (And.intro hd4 hD4)
                have HG4 := Aside0.mk (And.intro hg3 hg4)
                clear hb4 hc4 hd3 hD3 hd4 hD4 hg3 hg4
                refine hK.out _ _ ⟨(HC4.out.cell (World.block_lt_of_cell? w3 _ o0)).trans o0, (HC4.out.cell (World.block_lt_of_cell? w3 _ o1)).trans o1, (HC4.out.cell (World.block_lt_of_cell? w3 _ o2)).trans o2, (HC4.out.cell (World.block_lt_of_cell? w3 _ o3)).trans o3, (HC4.out.cell (World.block_lt_of_cell? w3 _ o4)).trans o4, (HC4.out.cell (World.block_lt_of_cell? w3 _ x3)).trans x3, (HC4.out.cell (World.block_lt_of_cell? w3 _ hk0)).trans hk0, (HC4.out.cell (World.block_lt_of_cell? w3 _ y0)).trans y0, (HC4.out.cell (World.block_lt_of_cell? w3 _ y1)).trans y1, (HC4.out.cell (World.block_lt_of_cell? w3 _ y2)).trans y2, (HC4.out.cell (World.block_lt_of_cell? w3 _ y3)).trans y3, (HC4.out.cell (World.block_lt_of_cell? w3 _ y4)).trans y4⟩ (fun hHeld => ?_)
                clear hK K
                refine norm_ (a' := ?_) ?_ ?_
                rotate_left
                · show Act.put _ (some 149) _ = _
                  simp only [Act.put, List.setIfInBounds_toArray, List.set_cons_zero, List.set_cons_succ, i64_w, i32_w]
                  rfl
                refine last_ (i := 8) (N := none) #[true, true, true, true, true, true, true, true, true] rfl rfl (by kernel_rfl) (by decide) (fun K hK => ?_)
                refine store_step (cur := #[.int .i64 5, .int .i64 0, .string ⟨#[]⟩, .slice A ks.length c, .slice A' rs.length c']) (e := 25) (g := w.heap.size + 2) 25 _ _ (.agg #[.int .i64 5, .int .i64 0, .string ⟨#[]⟩, .slice A5 (withKs key ks).length c5, .slice A6 (withVs key ks rs (⟨0, y.f1, y.f2, E3, y.f3.length, d3, E4, y.f4.length, d4⟩ : RV)).length c6]) [.int .i64 5, .int .i64 0, .string ⟨#[]⟩, .slice A5 (withKs key ks).length c5, .slice A6 (withVs key ks rs (⟨0, y.f1, y.f2, E3, y.f3.length, d3, E4, y.f4.length, d4⟩ : RV)).length c6] (by rfl) rfl rfl rfl rfl ((HC4.out.block (w.heap.size + 2) (Nat.lt_of_lt_of_le (by omega) HS3.out)).trans HBO3.out) rfl (show (Tryd.prog.info? 25).map (·.size) = some 5 by kernel_rfl) rfl (by simp [Value.oneCell']) ?_
                intro w7 h7 hg7
                have H7 := Aside0.mk h7
                have HG7 := Aside0.mk hg7
                clear h7 hg7
                refine hK.out _ _ ?_
                clear hK K
                refine done_ (by kernel_rfl) ?_
                
                go_wp2
                go_roundw
                case rel =>
                  have hs4 : w3.heap.size ≤ w4.heap.size := HC4.out.size
                  have hs3 := HS3.out
                  refine ⟨i + 1, withKs key ks, withVs key ks rs (⟨0, y.f1, y.f2, E3, y.f3.length, d3, E4, y.f4.length, d4⟩ : RV), A5, c5, A6, c6, hlt, by go_num, Lib.hid (Nat.le_trans (withKs_len _ _) (Nat.succ_le_succ HKL.out)), ⟨HF.out.more HL3.out HL4.out HASC.out (by rw [← HYI.out]; exact HYK.out) (o := none) (by rw [← HYI.out, ← HKK.out]; exact HE.out) HFLAT.out (HKK.out _) H7.out HG7.out HD3.out HD4.out (HG4.out.1.lower (by show _ ≤ w3.heap.size; omega)) (HG4.out.2.lower (by show _ ≤ w3.heap.size; omega)) (HBF3.out.trans (HC4.out.mono (by omega))) (by omega)⟩⟩
                case measure => first | exact msF hlt | (rw [wk]; exact msF hlt)
              | false =>
                have HE : Hid (entR (envE l) false (key, fO y) = none) := Lib.hid (by rw [HEN.out, HFO.out]; rfl)
                go_wp2
                go_roundw
                case rel => exact ⟨i + 1, ks, rs, A, c, A', c', hlt, by go_num, Lib.hid (Nat.le_succ_of_le HKL.out), ⟨HF.out.same HL3.out HL4.out (by rw [← HYI.out]; exact HYK.out) (by rw [← HYI.out, ← HKK.out]; exact HE.out) HB3.out⟩⟩
                case measure => first | exact msF hlt | (rw [wk]; exact msF hlt)
          · have e0 : (y.f0 == 0) = false := by simpa using hk0'
            have HA : Hid (allO x.f4 = false) := Lib.hid (allO_not HLL4.out (by rw [← HYI.out]; exact fun h => h.elim hk3 hk0'))
            have ne0 : (y.f0 != 0) = true := by simpa using hk0'
            clear hk3
            have hre := (HBF3.out.block (w.heap.size + 1) (by omega)).trans HRE.out
            have n0 : w3.cell? ⟨w.heap.size + 1, 0, none⟩ = some (.int .i64 0) := (blk_cell hre 0).trans rfl
            have n1 : w3.cell? ⟨w.heap.size + 1, 1, none⟩ = some (.int .i64 0) := (blk_cell hre 1).trans rfl
            have n2 : w3.cell? ⟨w.heap.size + 1, 2, none⟩ = some (.string ⟨#[]⟩) := (blk_cell hre 2).trans rfl
            have n3 : w3.cell? ⟨w.heap.size + 1, 3, none⟩ = some (.slice none 0 0) := (blk_cell hre 3).trans rfl
            have n4 : w3.cell? ⟨w.heap.size + 1, 4, none⟩ = some (.slice none 0 0) := (blk_cell hre 4).trans rfl
            have f0 := blk_frozen hre 0
            have f1 := blk_frozen hre 1
            have f2 := blk_frozen hre 2
            have f3 := blk_frozen hre 3
            have f4 := blk_frozen hre 4
            clear hre
            have HBW3 : Aside0 (Below w.heap.size w w3) := ⟨HBWR.out.trans (HB3.out.mono HBWR.out.size)⟩
            cases ov with
            | none =>
              dsimp only
              go_wp2
              refine bodyPost_ret (v := .tuple #[.agg #[.int .i64 5, .int .i64 x.f1, .string x.f2, .slice (some adk) nk c3, .slice (some ade) n c4], .bool false, .bool false]) (by simp [results, Tryd.results9, go_sem, *]) rfl ?_
              refine none_says (x := x) (by rw [H50.out]; decide) (map_none H50.out HA.out) (r := ⟨5, x.f1, x.f2, some adk, nk, c3, some ade, n, c4⟩) (below5 HBW3.out _ (Nat.le_succ _) _ _ _ _ _)
            | some ev0 =>
              dsimp only
              go_wp2
              refine bodyPost_ret (v := .tuple #[.agg #[.int .i64 5, .int .i64 x.f1, .string x.f2, .slice (some adk) nk c3, .slice (some ade) n c4], .bool false, .bool false]) (by simp [results, Tryd.results9, go_sem, *]) rfl ?_
              refine none_says (x := x) (by rw [H50.out]; decide) (map_none H50.out HA.out) (r := ⟨5, x.f1, x.f2, some adk, nk, c3, some ade, n, c4⟩) (below5 HBW3.out _ (Nat.le_succ _) _ _ _ _ _)
      · obtain rfl : i = nk := by omega
        have hlt0 : ¬ ((i : Int) < (i : Int)) := Int.lt_irrefl _
        have o0 : wr.cell? ⟨w.heap.size + 2, 0, none⟩ = some (.int .i64 5) := (blk_cell HF.out.box 0).trans rfl
        have o1 : wr.cell? ⟨w.heap.size + 2, 1, none⟩ = some (.int .i64 0) := (blk_cell HF.out.box 1).trans rfl
        have o2 : wr.cell? ⟨w.heap.size + 2, 2, none⟩ = some (.string ⟨#[]⟩) := (blk_cell HF.out.box 2).trans rfl
        have o3 : wr.cell? ⟨w.heap.size + 2, 3, none⟩ = some (.slice A ks.length c) := (blk_cell HF.out.box 3).trans rfl
        have o4 : wr.cell? ⟨w.heap.size + 2, 4, none⟩ = some (.slice A' rs.length c') := (blk_cell HF.out.box 4).trans rfl
        have hre := (HF.out.bel.block (w.heap.size + 1) (by omega)).trans HRE.out
        have n0 : wr.cell? ⟨w.heap.size + 1, 0, none⟩ = some (.int .i64 0) := (blk_cell hre 0).trans rfl
        have n1 : wr.cell? ⟨w.heap.size + 1, 1, none⟩ = some (.int .i64 0) := (blk_cell hre 1).trans rfl
        have n2 : wr.cell? ⟨w.heap.size + 1, 2, none⟩ = some (.string ⟨#[]⟩) := (blk_cell hre 2).trans rfl
        have n3 : wr.cell? ⟨w.heap.size + 1, 3, none⟩ = some (.slice none 0 0) := (blk_cell hre 3).trans rfl
        have n4 : wr.cell? ⟨w.heap.size + 1, 4, none⟩ = some (.slice none 0 0) := (blk_cell hre 4).trans rfl
        have f0 := blk_frozen hre 0
        have f1 := blk_frozen hre 1
        have f2 := blk_frozen hre 2
        have f3 := blk_frozen hre 3
        have f4 := blk_frozen hre 4
        clear hre
        have HBWR : Aside0 (Below w.heap.size w wr) := ⟨HB1.out.trans (HF.out.bel.mono (Nat.le_add_right _ 2))⟩
        go_wp2
        refine bodyPost_ret (v := .tuple #[.agg #[.int .i64 5, .int .i64 0, .string ⟨#[]⟩, .slice A ks.length c, .slice A' rs.length c'], .bool true, .bool true]) (by simp [results, Tryd.results9, go_sem, *]) rfl ?_
        have hall : allO x.f4 = true := by have := HF.out.all; rwa [HNK.out, ← HL4.out, List.take_length] at this
        have hen : entsR (envE l) keep x.f3 x.f4 i = (x.f3.zip (x.f4.map fO)).filterMap (entR (envE l) keep) := by
          unfold entsR
          rw [List.take_of_length_le]
          simp only [List.length_zip, List.length_map]
          have h1 := HNK.out
          omega
        have hfl := HF.out.flat
        have hkeys := HF.out.keys
        rw [hen] at hfl hkeys
        have hfar : ∀ k, k ≠ w.heap.size + 1 → (((((wr.setCell ⟨w.heap.size + 1, 0, none⟩ (.int .i64 5)).setCell ⟨w.heap.size + 1, 1, none⟩ (.int .i64 0)).setCell ⟨w.heap.size + 1, 2, none⟩ (.string ⟨#[]⟩)).setCell ⟨w.heap.size + 1, 3, none⟩ (.slice A ks.length c)).setCell ⟨w.heap.size + 1, 4, none⟩ (.slice A' rs.length c')).heap[k]? = wr.heap[k]? := fun k hk => by
          repeat rw [Below.heap_setCell _ _ _ _ hk]
        refine map_says H50.out hall (r := ⟨5, 0, be, A, ks.length, c, A', rs.length, c'⟩) (below5 HBWR.out _ (Nat.le_succ _) _ _ _ _ _) ?_
        obtain ⟨es, hes⟩ : ∃ es, es = (x.f3.zip (x.f4.map fO)).filterMap (entR (envE l) keep) := ⟨_, rfl⟩
        rw [← hes] at hfl hkeys ⊢
        have hlen : (es.map (·.2)).length = rs.length := hfl.1
        rw [← hkeys]
        refine DeepP.parts (P := fun _ => True) (.mk (rs := rs) rfl rfl rfl rfl HF.out.kc (kd_move HF.out.kC (fun _ _ q => q) (fun ad e _ => hfar _ (by have := HF.out.kf ad e; omega))) (fun _ _ _ => trivial) (by show rs.length = _; rw [← hlen]; simp) HF.out.vc (by rw [← hlen]; simp) (kd_move HF.out.vC (fun _ _ q => q) (fun ad e _ => hfar _ (by have := HF.out.vf ad e; omega))) (fun _ _ _ => trivial) (fun j q1 q2 => ?_))
        have q3 : j < (es.map (·.2)).length := by rw [hlen]; exact q2
        have e : ((es.map (·.2)).map oS)[j]'(by simpa using q3) = oS ((es.map (·.2))[j]'q3) := List.getElem_map ..
        show DeepP _ _ (((es.map (·.2)).map oS)[j]'_) _
        rw [e]
        exact deep_O (hfl.2 j q3 q2)
/-- of every value of the form -/
theorem spec_ResolveOne {x : SV} (hf : FineS x) (hw : wt x ≤ 1048576) (l : List U.SP) (A0 : Option Addr) (c0 : Nat) (keep : Bool) (hl : l.length ≤ 1048576) (hvs : ∀ k v, envE l k = some v → v.size ≤ 1048576) (hc0 : l.length ≤ c0) : ∀ w, Kd.C k51 w A0 l.length l → ResC l A0 c0 keep x w := by
  induction hf with
  | nil => exact fun w h => res_flat l A0 c0 keep _ ⟨by simp, by simp, by simp⟩ w
  | bool b => exact fun w h => res_flat l A0 c0 keep _ ⟨by simp, by simp, by simp⟩ w
  | int i => exact fun w h => res_flat l A0 c0 keep _ ⟨by simp, by simp, by simp⟩ w
  | text s => exact fun w h => res_text l A0 c0 keep _ rfl (.text s) (by have := wt_eq (⟨3, 0, s, [], []⟩ : SV); show s.size ≤ _; have e : (⟨3, 0, s, [], []⟩ : SV).f2.size = s.size := rfl; omega) hl hvs w h hc0
  | @list ys hb he ih =>
    intro w h
    refine res_list l A0 c0 keep _ rfl hb hl w h hc0 (fun i hi W hW => ih i hi ?_ W (Kd.C_below h hW))
    have h1 : wt (ys[i]'hi) ≤ (ys.map wt).sum := sum_mem (List.mem_map_of_mem (List.getElem_mem hi))
    have h2 := wt_eq (⟨4, 0, be, [], ys⟩ : SV)
    have e : (⟨4, 0, be, [], ys⟩ : SV).f4 = ys := rfl
    rw [e] at h2
    omega
  | @map ks ys ha hly hb he ih => exact fun w h => res_map l A0 c0 keep _ rfl he ha hly (by show ks.length ≤ _; omega) hl w h hc0
end Go.Proofs.YtgeamhmenmomhaaDoor.A
