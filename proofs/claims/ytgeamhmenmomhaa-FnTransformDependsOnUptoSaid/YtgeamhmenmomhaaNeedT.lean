/- Joined texts. -/
import Derived.Test.YtgeamhmenmomhaaNeedQ
import Derived.Test.YtgeamhmenmomhaaMg
import Derived.Test.YtgeamhmenmomhaaValT
/- The walks of spec.Has and spec.mergeNeeds (printed by gen_needs.py). -/
namespace Go.Proofs.Ytgeamhmenmomhaa.A
set_option linter.unusedVariables false
set_option linter.unusedSimpArgs false
set_option linter.unusedSectionVars false
open Go.RowKit Go.Proofs.YtgeamhmenmomhaaW.PrintWords Go.Proofs.YtgeamhmenmomhaaW.PrintLast Go.Proofs.YtgeamhmenmomhaaW.PrintMore Go.Proofs.Ytgeamhmenmomhaa.PT Go.Proofs.Ytgeamhmenmomhaa.L Go.Proofs.Ytgeamhmenmomhaa.SM

set_option maxRecDepth 100000 in
theorem spec_HasX (r : RV) (key : ByteArray) (g : RV) (b : Bool) (w : World) (hget : ∀ W, Below w.heap.size w W → Calls Try.prog 26 #[r.val, .string key] W fun e w' => e = .returned (.tuple #[g.val, .bool b]) ∧ Below W.heap.size W w') :
    Calls Try.prog 31 #[r.val, .string key] w fun e w' => e = .returned (.bool b) ∧ Below w.heap.size w w' := by
  obtain ⟨W0, hW0⟩ : ∃ W0 : World, W0 = w.alloc (Obj.cells #[.int .i64 r.n0, .int .i64 r.n1, .string r.t, .slice r.A r.an r.ac, .slice r.B r.bn r.bc] 25) := ⟨_, rfl⟩
  have hb0 : Below w.heap.size w W0 := by rw [hW0]; exact (Below.refl _ _).alloc (Nat.le_refl _) _
  have hc := hget W0 hb0
  unfold RV.val at hc ⊢
  have HC := Lib.hid hc
  have HB0 := Aside0.mk hb0
  have HW0 := Lib.hid hW0
  clear hc hb0 hW0 hget
  go_enter Try.func31, Try.ntmps31
  go_wp2_with fail
  rw [← HW0.out]
  refine HC.out.mono ?_
  rintro e w1 ⟨rfl, hb1⟩
  have HB1 := Aside0.mk (below_then HB0.out HB0.out.size hb1)
  clear hb1
  go_wp2
  go_ret
  exact ⟨rfl, HB1.out.alloc HB1.out.size _⟩
def trueR : RV := ⟨1, 1, ⟨#[]⟩, none, 0, 0, none, 0, 0⟩
theorem MMq_std : MMq [(kCond, tR startB), (kReq, trueR)] = ([kCond, kReq], [tR startB, trueR]) := by kernel_rfl
theorem deepP_text (P : Nat → Prop) (w : World) (s : ByteArray) : DeepP P w (tS s) (tR s) := deepP_flat P w 3 0 s
theorem deepP_true (P : Nat → Prop) (w : World) : DeepP P w trueS trueR := deepP_flat P w 1 1 ⟨#[]⟩
/-- spec.M("condition", T("service_started"), "required", B(true)) -/
theorem law_std (B : Nat) (w : World) (h : w.heap[B]? = some (.cells #[.iface 9 (.string kCond), .iface 25 (.agg #[.int .i64 3, .int .i64 0, .string startB, .slice none 0 0, .slice none 0 0]), .iface 9 (.string kReq), .iface 25 (.agg #[.int .i64 1, .int .i64 1, .string ⟨#[]⟩, .slice none 0 0, .slice none 0 0])] 20 (0, 0))) :
    Calls Try.prog 37 #[.slice (some ⟨B, 0, none⟩) 4 4] w fun e w' => (∃ r : RV, e = .returned (.agg #[.int .i64 r.n0, .int .i64 r.n1, .string r.t, .slice r.A r.an r.ac, .slice r.B r.bn r.bc]) ∧ DeepP (fun k => w.heap.size ≤ k) w' stdS r) ∧ Below w.heap.size w w' := by
  refine (spec_M [(kCond, tR startB), (kReq, trueR)] ⟨B, 0, none⟩ 4 w (fun j hj => ?_) rfl (by simp)).mono ?_
  · rcases j with _ | _ | j
    · exact ⟨(blk_cell h 0).trans rfl, (blk_cell h 1).trans rfl⟩
    · exact ⟨(blk_cell h 2).trans rfl, (blk_cell h 3).trans rfl⟩
    · simp at hj; omega
  · rw [MMq_std]
    rintro e w' ⟨A, c, A', c', rfl, hc, hkC, hc', hvC, hA, hA', hbl⟩
    refine ⟨⟨⟨5, 0, be, A, 2, c, A', 2, c'⟩, rfl, ?_⟩, hbl⟩
    refine .mk (rs := [tR startB, trueR]) rfl rfl rfl rfl hc hkC (fun _ ad e => hA ad e) rfl hc' rfl hvC (fun _ ad e => hA' ad e) (fun i q1 q2 => ?_)
    rcases i with _ | _ | i
    · exact deepP_text _ _ _
    · exact deepP_true _ _
    · exact absurd q1 (by simp [stdS])
/-! ### spec.mergeNeeds -/
def kNs (ss : List ByteArray) : SV := ⟨5, 0, be, namesK ss, (namesK ss).map fun _ => stdS⟩
theorem kNs_next {ss : List ByteArray} {j : Nat} (hj : j < ss.length) : (⟨5, 0, be, withKs (ss[j]'hj) (kNs (ss.take j)).f3, withL (ss[j]'hj) (kNs (ss.take j)).f3 (kNs (ss.take j)).f4 stdS⟩ : SV) = kNs (ss.take (j + 1)) := by
  unfold kNs
  rw [List.take_succ_eq_append_getElem hj, namesK_snoc]
  dsimp only
  rw [const_with]
structure MrgL (w W3 wr : World) (ss : List ByteArray) (gl j : Nat) (rl : RV) : Prop where
  box : wr.heap[gl]? = some (.cells #[.int .i64 rl.n0, .int .i64 rl.n1, .string rl.t, .slice rl.A rl.an rl.ac, .slice rl.B rl.bn rl.bc] 25 (0, 0))
  deep : DeepP (fun k => gl < k) wr (kNs (ss.take j)) rl
  bel : Below gl W3 wr
  size : gl < wr.heap.size
def WithX (P : Nat → Prop) (v : Value) (key : ByteArray) (z : SV) (w : World) : Prop := ∀ W (q : RV), Below w.heap.size w W → DeepP P W stdS q → Calls Try.prog 14 #[v, .string key, .agg #[.int .i64 q.n0, .int .i64 q.n1, .string q.t, .slice q.A q.an q.ac, .slice q.B q.bn q.bc]] W fun e w' => (∃ r' : RV, e = .returned (.agg #[.int .i64 r'.n0, .int .i64 r'.n1, .string r'.t, .slice r'.A r'.an r'.ac, .slice r'.B r'.bn r'.bc]) ∧ DeepP P w' z r') ∧ Below W.heap.size W w'
theorem WithX.use {P : Nat → Prop} {v : Value} {key : ByteArray} {z : SV} {w : World} (h : WithX P v key z w) {W : World} {q : RV} (hW : Below w.heap.size w W) (hq : DeepP P W stdS q) : Calls Try.prog 14 #[v, .string key, .agg #[.int .i64 q.n0, .int .i64 q.n1, .string q.t, .slice q.A q.an q.ac, .slice q.B q.bn q.bc]] W fun e w' => (∃ r' : RV, e = .returned (.agg #[.int .i64 r'.n0, .int .i64 r'.n1, .string r'.t, .slice r'.A r'.an r'.ac, .slice r'.B r'.bn r'.bc]) ∧ DeepP P w' z r') ∧ Below W.heap.size W w' := h W q hW hq
def MrgSays (P : Nat → Prop) (x : SV) (w : World) (e : Ending) (w' : World) : Prop := (∃ r' : RV, e = .returned (.agg #[.int .i64 r'.n0, .int .i64 r'.n1, .string r'.t, .slice r'.A r'.an r'.ac, .slice r'.B r'.bn r'.bc]) ∧ DeepP (fun k => P k ∨ w.heap.size ≤ k) w' (mergeS x) r') ∧ Below w.heap.size w w'
set_option maxHeartbeats 8000000 in
set_option maxRecDepth 100000 in
theorem spec_mergeNeeds {P : Nat → Prop} {x : SV} (hf : FineS x) (hw : wt x ≤ 1048576) (hn : NeedsS x) {r0 : RV} {w : World} (hd : DeepP P w x r0) (hP : ∀ k, P k → k < w.heap.size) :
    Calls Try.prog 30 #[.agg #[.int .i64 r0.n0, .int .i64 r0.n1, .string r0.t, .slice r0.A r0.an r0.ac, .slice r0.B r0.bn r0.bc]] w (MrgSays P x w) := by
  obtain ⟨rs0, h0, -, ht0, han0, hac0, hk0, hbn0, hbc0, hrr0, ha0⟩ := hd.rows
  obtain ⟨W0, hW0⟩ : ∃ W0 : World, W0 = (w.alloc (Obj.cells #[.int .i64 r0.n0, .int .i64 r0.n1, .string r0.t, .slice r0.A r0.an r0.ac, .slice r0.B r0.bn r0.bc] 25)).alloc (Obj.cells #[.int .i64 0, .int .i64 0, .string ⟨#[]⟩, .slice none 0 0, .slice none 0 0] 25) := ⟨_, rfl⟩
  have hb0 : Below w.heap.size w W0 := by rw [hW0]; exact ((Below.refl _ _).alloc (Nat.le_refl _) _).alloc (by simp) _
  have HBX : Aside0 (W0.heap[w.heap.size]? = some (.cells #[.int .i64 r0.n0, .int .i64 r0.n1, .string r0.t, .slice r0.A r0.an r0.ac, .slice r0.B r0.bn r0.bc] 25 (0, 0))) := ⟨by rw [hW0]; exact heap_oldI (new_atI rfl)⟩
  have HRE : Aside0 (W0.heap[w.heap.size + 1]? = some (.cells zV 25 (0, 0))) := ⟨by rw [hW0]; exact new_atI (by simp)⟩
  have HS0 : Hid (W0.heap.size = w.heap.size + 2) := Lib.hid (by rw [hW0]; simp)
  have HB0 := Aside0.mk hb0
  have HW0 := Lib.hid hW0
  clear hb0 hW0
  have hx := HBX.out
  have x0 : W0.cell? ⟨w.heap.size, 0, none⟩ = some (.int .i64 r0.n0) := (blk_cell hx 0).trans rfl
  have x1 : W0.cell? ⟨w.heap.size, 1, none⟩ = some (.int .i64 r0.n1) := (blk_cell hx 1).trans rfl
  have x2 : W0.cell? ⟨w.heap.size, 2, none⟩ = some (.string r0.t) := (blk_cell hx 2).trans rfl
  have x3 : W0.cell? ⟨w.heap.size, 3, none⟩ = some (.slice r0.A r0.an r0.ac) := (blk_cell hx 3).trans rfl
  have x4 : W0.cell? ⟨w.heap.size, 4, none⟩ = some (.slice r0.B r0.bn r0.bc) := (blk_cell hx 4).trans rfl
  clear hx
  rcases hn with ⟨h4, hk3⟩ | ⟨h5, -⟩
  case inr =>
    have hn5 : r0.n0 = 5 := h0.trans h5
    have hre := HRE.out
    have n0 : W0.cell? ⟨w.heap.size + 1, 0, none⟩ = some (.int .i64 0) := (blk_cell hre 0).trans rfl
    have n1 : W0.cell? ⟨w.heap.size + 1, 1, none⟩ = some (.int .i64 0) := (blk_cell hre 1).trans rfl
    have n2 : W0.cell? ⟨w.heap.size + 1, 2, none⟩ = some (.string ⟨#[]⟩) := (blk_cell hre 2).trans rfl
    have n3 : W0.cell? ⟨w.heap.size + 1, 3, none⟩ = some (.slice none 0 0) := (blk_cell hre 3).trans rfl
    have n4 : W0.cell? ⟨w.heap.size + 1, 4, none⟩ = some (.slice none 0 0) := (blk_cell hre 4).trans rfl
    have f0 := blk_frozen hre 0
    have f1 := blk_frozen hre 1
    have f2 := blk_frozen hre 2
    have f3 := blk_frozen hre 3
    have f4 := blk_frozen hre 4
    have HD := Aside0.mk hd
    have HPP := Lib.hid hP
    have HM : Hid (mergeS x = x) := Lib.hid (by unfold mergeS; rw [if_pos h5])
    clear hd hP h0 ht0 han0 hac0 hk0 hbn0 hbc0 hrr0 ha0 hre hf hw h5
    rw [hn5] at x0 ⊢
    rw [hn5] at HW0
    have HN5 := Lib.hid hn5
    clear hn5
    go_enter Try.func30, Try.ntmps30
    go_upto_region 1 with fail
    rw [← HW0.out]
    go_wp2
    refine bodyPost_ret (v := .agg #[.int .i64 5, .int .i64 r0.n1, .string r0.t, .slice r0.A r0.an r0.ac, .slice r0.B r0.bn r0.bc]) (by simp [results, Try.results30, go_sem, *]) rfl ?_
    refine ⟨⟨r0, by rw [HN5.out], ?_⟩, below5 HB0.out _ (Nat.le_succ _) _ _ _ _ _⟩
    rw [HM.out]
    refine ((HD.out.below_ HB0.out).kept (fun k hk _ => far5 (by have := HPP.out k hk; omega) _ _ _ _ _)).imp (fun k hk _ => .inl hk)
  case inl =>
    have hn4 : r0.n0 = 4 := h0.trans h4
    obtain ⟨ss, hss⟩ : ∃ ss, ss = x.f4.map (·.f2) := ⟨_, rfl⟩
    obtain ⟨n, hnn⟩ : ∃ n, n = ss.length := ⟨_, rfl⟩
    have hrl : rs0.length = n := by rw [hnn, hss, List.length_map]; exact ha0.1.symm
    have hbn : r0.bn = n := by rw [hbn0, hnn, hss, List.length_map]
    have hbd : n ≤ 1048576 := by
      have h1 : x.f4.length ≤ (x.f4.map wt).sum := by
        have : ∀ l : List SV, l.length ≤ (l.map wt).sum := fun l => by
          induction l with
          | nil => exact Nat.le_refl _
          | cons a l ih =>
            have := wt_eq a
            simp; omega
        exact this _
      have h2 := wt_eq x
      rw [hnn, hss, List.length_map]; omega
    have htx : ∀ (i : Nat) (h1 : i < ss.length) (h2 : i < rs0.length), (rs0[i]'h2).t = ss[i]'h1 := fun i h1 h2 => by
      have h3 : i < x.f4.length := by rw [ha0.1]; exact h2
      obtain ⟨_, -, -, e, -⟩ := (ha0.2 i h3 h2).rows
      rw [e]
      simp [hss]
    rw [hn4, hbn] at HW0 HBX
    rw [hn4] at x0
    rw [hbn] at x4
    rw [hn4, hbn]
    rw [hrl] at hrr0
    have HRR := Aside0.mk hrr0
    have HRL := Lib.hid hrl
    have HTX := Lib.hid htx
    have HNN := Lib.hid hnn
    have HBD := Lib.hid hbd
    have HPP := Lib.hid hP
    have HMS : Hid (mergeS x = kNs ss) := Lib.hid (by unfold mergeS kNs; rw [if_neg (by omega), ← hss])
    clear hd hP h0 ht0 han0 hac0 hk0 hbn0 hbc0 hrr0 ha0 hf hw h4 hk3 hss hnn hrl hbn hbd htx
    have hne : (r0.n0 == 5) = false := by rw [hn4]; rfl
    clear hne
    clear hn4
    go_enter Try.func30, Try.ntmps30
    go_upto_region 1 with fail
    rw [← HW0.out]
    go_wp2_with fail
    refine (spec_Empty _).mono ?_
    clear x0 x1 x2 x3 x4
    rintro e w1 ⟨rfl, hw1⟩
    have hb1 : Below w.heap.size w w1 := by rw [hw1]; exact HB0.out.alloc HB0.out.size _
    obtain ⟨gl, hgl⟩ : ∃ gl, gl = w1.heap.size := ⟨_, rfl⟩
    obtain ⟨W3, hW3⟩ : ∃ W3 : World, W3 = w1.alloc (Obj.cells #[.int .i64 5, .int .i64 0, .string ⟨#[]⟩, .slice none 0 0, .slice none 0 0] 25) := ⟨_, rfl⟩
    have hg3 : W3.heap[gl]? = some (.cells #[.int .i64 5, .int .i64 0, .string ⟨#[]⟩, .slice none 0 0, .slice none 0 0] 25 (0, 0)) := by rw [hW3, hgl]; exact new_atI rfl
    have hb3 : Below w.heap.size w W3 := by rw [hW3]; exact hb1.alloc hb1.size _
    have hs1 : w1.heap.size = w.heap.size + 3 := by rw [hw1]; simp [HS0.out]
    have HX3 : Aside0 (W3.heap[w.heap.size]? = some (.cells #[.int .i64 4, .int .i64 r0.n1, .string r0.t, .slice r0.A r0.an r0.ac, .slice r0.B n r0.bc] 25 (0, 0))) := ⟨by rw [hW3, hw1]; exact heap_oldI (heap_oldI HBX.out)⟩
    have HRE3 : Aside0 (W3.heap[w.heap.size + 1]? = some (.cells zV 25 (0, 0))) := ⟨by rw [hW3, hw1]; exact heap_oldI (heap_oldI HRE.out)⟩
    have HB3 := Aside0.mk hb3
    have HGL : Hid (w.heap.size + 2 ≤ gl) := Lib.hid (by omega)
    have HGL3 : Hid (gl < W3.heap.size) := Lib.hid (by rw [hW3, hgl]; simp)
    have HST : Aside0 (MrgL w W3 W3 ss gl 0 ⟨5, 0, ⟨#[]⟩, none, 0, 0, none, 0, 0⟩) := ⟨⟨hg3, deepP_flat _ _ 5 0 ⟨#[]⟩, Below.refl _ _, HGL3.out⟩⟩
    have HW3 := Lib.hid hW3
    have HGLE := Lib.hid hgl
    clear hb1 hg3 hb3 hs1 hw1 hW3 hgl HB0 HBX HRE HW0 HS0
    go_upto_region 4 with fail
    rw [← HW3.out, ← HGLE.out]
    go_wp2
    go_loopw [4] (fun v4 wr => ∃ (j : Nat) (rl : RV), j ≤ n ∧ v4 = .int .i64 j ∧ Aside0 (MrgL w W3 wr ss gl j rl)) (fun v4 _ => n - (intOf v4).toNat)
    case atStart => exact ⟨0, _, Nat.zero_le _, rfl, HST⟩
    case round =>
      obtain ⟨j, rl, hj, rfl, HML⟩ := hrel
      obtain ⟨wb, hwb⟩ : ∃ wb, wb = wr := ⟨_, rfl⟩
      subst hwb
      have HBW : Aside0 (Below w.heap.size w wb) := ⟨HB3.out.trans (HML.out.bel.mono (by have := HGL.out; omega))⟩
      have hxb := (HML.out.bel.block w.heap.size (by have := HGL.out; omega)).trans HX3.out
      by_cases hlt : j < n
      · have i0 : (0 : Int) ≤ (j : Int) := Int.natCast_nonneg _
        have i1 : (j : Int) < (n : Int) := Int.ofNat_lt.2 hlt
        have hjs : j < ss.length := by rw [← HNN.out]; exact hlt
        have hjr : j < rs0.length := by rw [HRL.out]; exact hlt
        obtain ⟨ade, eA, -, -, he2, -, -⟩ := at_R HRR.out j hlt hjr
        obtain ⟨t, ht⟩ : ∃ t, t = ss[j]'hjs := ⟨_, rfl⟩
        rw [HTX.out j hjs hjr, ← ht] at he2
        replace he2 := (HBW.out.cell (World.block_lt_of_cell? w _ he2)).trans he2
        have hal := HML.out.deep
        obtain ⟨rs, -, -, -, hran, -, -, hrbn, -, -, hra⟩ := hal.rows
        have hlen : (kNs (ss.take j)).f4.length = (kNs (ss.take j)).f3.length := by simp [kNs]
        have hkl : (kNs (ss.take j)).f3.length ≤ 1099511627776 := by
          have h1 := namesK_len (ss.take j)
          have h2 := HBD.out
          show (namesK (ss.take j)).length ≤ _
          rw [List.length_take] at h1
          omega
        have HWX : Hid (WithX (fun k => gl < k) (.agg #[.int .i64 rl.n0, .int .i64 rl.n1, .string rl.t, .slice rl.A rl.an rl.ac, .slice rl.B rl.bn rl.bc]) t (kNs (ss.take (j + 1))) wb) := Lib.hid (fun W q hW hq => by
          refine (law_WithN (HML.out.deep.below_ hW) hlen hkl t hq (fun k hk => by have := HML.out.size; have := hW.size; omega)).mono ?_
          rintro e w' ⟨⟨r', rfl, hd'⟩, hbl⟩
          refine ⟨⟨r', rfl, ?_⟩, hbl⟩
          rw [ht, kNs_next hjs] at hd'
          exact hd')
        have wk := wrF hlt (by have := HBD.out; omega)
        have HOB := Aside0.mk HML.out.box
        clear hjs hjr ht hal hran hrbn hra hlen hkl
        generalize r0.B = rB at *
        subst eA
        have y0 : wb.cell? ⟨w.heap.size, 0, none⟩ = some (.int .i64 4) := (blk_cell hxb 0).trans rfl
        have y1 : wb.cell? ⟨w.heap.size, 1, none⟩ = some (.int .i64 r0.n1) := (blk_cell hxb 1).trans rfl
        have y2 : wb.cell? ⟨w.heap.size, 2, none⟩ = some (.string r0.t) := (blk_cell hxb 2).trans rfl
        have y3 : wb.cell? ⟨w.heap.size, 3, none⟩ = some (.slice r0.A r0.an r0.ac) := (blk_cell hxb 3).trans rfl
        have y4 : wb.cell? ⟨w.heap.size, 4, none⟩ = some (.slice (some ade) n r0.bc) := (blk_cell hxb 4).trans rfl
        have o0 : wb.cell? ⟨gl, 0, none⟩ = some (.int .i64 rl.n0) := (blk_cell HOB.out 0).trans rfl
        have o1 : wb.cell? ⟨gl, 1, none⟩ = some (.int .i64 rl.n1) := (blk_cell HOB.out 1).trans rfl
        have o2 : wb.cell? ⟨gl, 2, none⟩ = some (.string rl.t) := (blk_cell HOB.out 2).trans rfl
        have o3 : wb.cell? ⟨gl, 3, none⟩ = some (.slice rl.A rl.an rl.ac) := (blk_cell HOB.out 3).trans rfl
        have o4 : wb.cell? ⟨gl, 4, none⟩ = some (.slice rl.B rl.bn rl.bc) := (blk_cell HOB.out 4).trans rfl
        clear hxb
        go_upto_region 7 with fail
        refine start_ (n := 17) (S := fun w' => w'.cell? ⟨gl, 0, none⟩ = some (.int .i64 rl.n0) ∧ w'.cell? ⟨gl, 1, none⟩ = some (.int .i64 rl.n1) ∧ w'.cell? ⟨gl, 2, none⟩ = some (.string rl.t) ∧ w'.cell? ⟨gl, 3, none⟩ = some (.slice rl.A rl.an rl.ac) ∧ w'.cell? ⟨gl, 4, none⟩ = some (.slice rl.B rl.bn rl.bc) ∧ w'.cell? ⟨w.heap.size, 4, none⟩ = some (.slice (some ade) n r0.bc) ∧ w'.cell? ⟨(ade.add (j * 5)).block, (ade.add (j * 5)).off + 2, none⟩ = some (.string t)) (ds := [16]) #[false, false, false, false, false, false, false, false, false, false, false, false, false, false, false, false, false] (by kernel_rfl) rfl rfl ⟨o0, o1, o2, o3, o4, y4, he2⟩ (fun hHeld => ?_)
        refine pure_ (i := 1) (N := some 18) (v := ?_) (a' := ?_) #[false, true, false, false, false, false, false, false, false, false, false, false, false, false, false, false, false] rfl rfl (by kernel_rfl) (fun _ _ _ h => h) (Or.inl ⟨by rfl, ?_⟩) ?_ ?_
        rotate_left
        · intro w'
          go_simp
          with_reducible rfl
        rotate_left
        · simp only [Act.put, List.setIfInBounds_toArray, List.set_cons_zero, List.set_cons_succ, i64_w, i32_w]
          rfl
        refine pure_ (i := 3) (N := some 20) (v := ?_) (a' := ?_) #[false, true, false, true, false, false, false, false, false, false, false, false, false, false, false, false, false] rfl rfl (by kernel_rfl) (fun _ _ _ h => h) (Or.inl ⟨by rfl, ?_⟩) ?_ ?_
        rotate_left
        · intro w'
          go_simp
          with_reducible rfl
        rotate_left
        · simp only [Act.put, List.setIfInBounds_toArray, List.set_cons_zero, List.set_cons_succ, i64_w, i32_w]
          rfl
        refine pure_ (i := 7) (N := some 24) (v := ?_) (a' := ?_) #[false, true, false, true, false, false, false, true, false, false, false, false, false, false, false, false, false] rfl rfl (by kernel_rfl) (fun _ _ _ h => h) (Or.inl ⟨by rfl, ?_⟩) ?_ ?_
        rotate_left
        · intro w'
          go_simp
          with_reducible rfl
        rotate_left
        · simp only [Act.put, List.setIfInBounds_toArray, List.set_cons_zero, List.set_cons_succ, i64_w, i32_w]
          rfl
        refine pure_ (i := 10) (N := some 27) (v := ?_) (a' := ?_) #[false, true, false, true, false, false, false, true, false, false, true, false, false, false, false, false, false] rfl rfl (by kernel_rfl) (fun _ _ _ h => h) (Or.inl ⟨by rfl, ?_⟩) ?_ ?_
        rotate_left
        · intro w'
          go_simp
          with_reducible rfl
        rotate_left
        · simp only [Act.put, List.setIfInBounds_toArray, List.set_cons_zero, List.set_cons_succ, i64_w, i32_w]
          rfl
        refine take_ (i := 0) (N := some 17) (v := ?_) (a' := ?_) #[true, true, false, true, false, false, false, true, false, false, true, false, false, false, false, false, false] rfl rfl (by kernel_rfl) (fun _ _ _ h => h) (Or.inl ⟨by rfl, ?_⟩) hHeld ?_ ?_
        rotate_left
        · rintro w' ⟨s0, s1, s2, s3, s4, s5, s6⟩
          go_simp
          with_reducible rfl
        rotate_left
        · simp only [Act.put, List.setIfInBounds_toArray, List.set_cons_zero, List.set_cons_succ, i64_w, i32_w]
          rfl
        refine take_ (i := 2) (N := some 19) (v := ?_) (a' := ?_) #[true, true, true, true, false, false, false, true, false, false, true, false, false, false, false, false, false] rfl rfl (by kernel_rfl) (fun _ _ _ h => h) (Or.inl ⟨by rfl, ?_⟩) hHeld ?_ ?_
        rotate_left
        · rintro w' ⟨s0, s1, s2, s3, s4, s5, s6⟩
          go_simp
          with_reducible rfl
        rotate_left
        · simp only [Act.put, List.setIfInBounds_toArray, List.set_cons_zero, List.set_cons_succ, i64_w, i32_w]
          rfl
        refine pure_ (i := 4) (N := some 21) (v := ?_) (a' := ?_) #[true, true, true, true, true, false, false, true, false, false, true, false, false, false, false, false, false] rfl rfl (by kernel_rfl) (fun _ _ _ h => h) (Or.inl ⟨by rfl, ?_⟩) ?_ ?_
        rotate_left
        · intro w'
          go_simp
          with_reducible rfl
        rotate_left
        · simp only [Act.put, List.setIfInBounds_toArray, List.set_cons_zero, List.set_cons_succ, i64_w, i32_w]
          rfl
        refine pure_ (i := 5) (N := some 22) (v := ?_) (a' := ?_) #[true, true, true, true, true, true, false, true, false, false, true, false, false, false, false, false, false] rfl rfl (by kernel_rfl) (fun _ _ _ h => h) (Or.inl ⟨by rfl, ?_⟩) ?_ ?_
        rotate_left
        · intro w'
          go_simp
          with_reducible rfl
        rotate_left
        · simp only [Act.put, List.setIfInBounds_toArray, List.set_cons_zero, List.set_cons_succ, i64_w, i32_w]
          rfl
        refine take_ (i := 6) (N := some 23) (v := ?_) (a' := ?_) #[true, true, true, true, true, true, true, true, false, false, true, false, false, false, false, false, false] rfl rfl (by kernel_rfl) (fun _ _ _ h => h) (Or.inl ⟨by rfl, ?_⟩) hHeld ?_ ?_
        rotate_left
        · rintro w' ⟨s0, s1, s2, s3, s4, s5, s6⟩
          go_simp
          with_reducible rfl
        rotate_left
        · simp only [Act.put, List.setIfInBounds_toArray, List.set_cons_zero, List.set_cons_succ, i64_w, i32_w]
          rfl
        refine one_ (i := 8) (N := some 25) #[true, true, true, true, true, true, true, true, true, false, true, false, false, false, false, false, false] rfl rfl (by kernel_rfl) (by decide) (fun K hK => ?_)
        refine goes_ Try.func12 (by kernel_rfl) rfl #[.string startB] (by rfl) rfl rfl (by simp only [List.map_toArray, List.map_cons, List.map_nil]; rfl) ?_
        with_reducible refine (spec_Tx startB wb.drew).mono ?_
        rintro e w8 ⟨rfl, hb8⟩
        refine ⟨_, rfl, ?_⟩
        have hc8 : Below wb.heap.size wb w8 := below_un hb8
        have HC8 := Aside0.mk hc8
        clear hb8 hc8
        refine hK.out _ _ ⟨(HC8.out.cell (World.block_lt_of_cell? wb _ o0)).trans o0, (HC8.out.cell (World.block_lt_of_cell? wb _ o1)).trans o1, (HC8.out.cell (World.block_lt_of_cell? wb _ o2)).trans o2, (HC8.out.cell (World.block_lt_of_cell? wb _ o3)).trans o3, (HC8.out.cell (World.block_lt_of_cell? wb _ o4)).trans o4, (HC8.out.cell (World.block_lt_of_cell? wb _ y4)).trans y4, (HC8.out.cell (World.block_lt_of_cell? wb _ he2)).trans he2⟩ (fun hHeld => ?_)
        clear hK K
        refine norm_ (a' := ?_) ?_ ?_
        rotate_left
        · show Act.put _ (some 25) _ = _
          simp only [Act.put, List.setIfInBounds_toArray, List.set_cons_zero, List.set_cons_succ, i64_w, i32_w]
          rfl
        refine pure_ (i := 9) (N := some 26) (v := ?_) (a' := ?_) #[true, true, true, true, true, true, true, true, true, true, true, false, false, false, false, false, false] rfl rfl (by kernel_rfl) (fun _ _ _ h => h) (Or.inl ⟨by rfl, ?_⟩) ?_ ?_
        rotate_left
        · intro w'
          go_simp
          with_reducible rfl
        rotate_left
        · simp only [Act.put, List.setIfInBounds_toArray, List.set_cons_zero, List.set_cons_succ, i64_w, i32_w]
          rfl
        refine one_ (i := 11) (N := some 28) #[true, true, true, true, true, true, true, true, true, true, true, true, false, false, false, false, false] rfl rfl (by kernel_rfl) (by decide) (fun K hK => ?_)
        refine goes_ Try.func10 (by kernel_rfl) rfl #[.bool true] (by rfl) rfl rfl (by simp only [List.map_toArray, List.map_cons, List.map_nil]; rfl) ?_
        with_reducible refine (spec_B true w8).mono ?_
        rintro e w9 ⟨rfl, hb9⟩
        refine ⟨_, rfl, ?_⟩
        have HC9 := Aside0.mk (below_then HC8.out HC8.out.size hb9)
        clear hb9
        refine hK.out _ _ ⟨(HC9.out.cell (World.block_lt_of_cell? wb _ o0)).trans o0, (HC9.out.cell (World.block_lt_of_cell? wb _ o1)).trans o1, (HC9.out.cell (World.block_lt_of_cell? wb _ o2)).trans o2, (HC9.out.cell (World.block_lt_of_cell? wb _ o3)).trans o3, (HC9.out.cell (World.block_lt_of_cell? wb _ o4)).trans o4, (HC9.out.cell (World.block_lt_of_cell? wb _ y4)).trans y4, (HC9.out.cell (World.block_lt_of_cell? wb _ he2)).trans he2⟩ (fun hHeld => ?_)
        clear hK K
        refine norm_ (a' := ?_) ?_ ?_
        rotate_left
        · show Act.put _ (some 28) _ = _
          simp only [Act.put, List.setIfInBounds_toArray, List.set_cons_zero, List.set_cons_succ, i64_w, i32_w]
          rfl
        refine pure_ (i := 12) (N := some 29) (v := ?_) (a' := ?_) #[true, true, true, true, true, true, true, true, true, true, true, true, true, false, false, false, false] rfl rfl (by kernel_rfl) (fun _ _ _ h => h) (Or.inl ⟨by rfl, ?_⟩) ?_ ?_
        rotate_left
        · intro w'
          go_simp
          with_reducible rfl
        rotate_left
        · simp only [Act.put, List.setIfInBounds_toArray, List.set_cons_zero, List.set_cons_succ, i64_w, i32_w]
          rfl
        refine one_ (i := 13) (N := some 30) #[true, true, true, true, true, true, true, true, true, true, true, true, true, true, false, false, false] rfl rfl (by kernel_rfl) (by decide) (fun K hK => ?_)
        refine value_ (w1 := ?_) (v := ?_) (by rfl) rfl ?_ ?_
        rotate_left 2
        · go_simp
          constructor
          · rfl
          · rfl
        have HC10 : Aside0 (Below wb.heap.size wb (w9.alloc (Obj.cells #[.iface 9 (.string kCond), .iface 25 (.agg #[.int .i64 3, .int .i64 0, .string startB, .slice none 0 0, .slice none 0 0]), .iface 9 (.string kReq), .iface 25 (.agg #[.int .i64 1, .int .i64 1, .string ⟨#[]⟩, .slice none 0 0, .slice none 0 0])] 20))) := ⟨HC9.out.alloc HC9.out.size _⟩
        have HBX10 : Aside0 ((w9.alloc (Obj.cells #[.iface 9 (.string kCond), .iface 25 (.agg #[.int .i64 3, .int .i64 0, .string startB, .slice none 0 0, .slice none 0 0]), .iface 9 (.string kReq), .iface 25 (.agg #[.int .i64 1, .int .i64 1, .string ⟨#[]⟩, .slice none 0 0, .slice none 0 0])] 20)).heap[w9.heap.size]? = some (.cells #[.iface 9 (.string kCond), .iface 25 (.agg #[.int .i64 3, .int .i64 0, .string startB, .slice none 0 0, .slice none 0 0]), .iface 9 (.string kReq), .iface 25 (.agg #[.int .i64 1, .int .i64 1, .string ⟨#[]⟩, .slice none 0 0, .slice none 0 0])] 20 (0, 0))) := ⟨new_atI rfl⟩
        refine hK.out _ _ ⟨(HC10.out.cell (World.block_lt_of_cell? wb _ o0)).trans o0, (HC10.out.cell (World.block_lt_of_cell? wb _ o1)).trans o1, (HC10.out.cell (World.block_lt_of_cell? wb _ o2)).trans o2, (HC10.out.cell (World.block_lt_of_cell? wb _ o3)).trans o3, (HC10.out.cell (World.block_lt_of_cell? wb _ o4)).trans o4, (HC10.out.cell (World.block_lt_of_cell? wb _ y4)).trans y4, (HC10.out.cell (World.block_lt_of_cell? wb _ he2)).trans he2⟩ (fun hHeld => ?_)
        clear hK K
        refine norm_ (a' := ?_) ?_ ?_
        rotate_left
        · show Act.put _ (some 30) _ = _
          simp only [Act.put, List.setIfInBounds_toArray, List.set_cons_zero, List.set_cons_succ, i64_w, i32_w]
          rfl
        refine one_ (i := 14) (N := some 31) #[true, true, true, true, true, true, true, true, true, true, true, true, true, true, true, false, false] rfl rfl (by kernel_rfl) (by decide) (fun K hK => ?_)
        refine goes_ Try.func37 (by kernel_rfl) rfl #[.slice (some ⟨w9.heap.size, 0, none⟩) 4 4] (by rfl) rfl rfl (by simp only [List.map_toArray, List.map_cons, List.map_nil]; rfl) ?_
        with_reducible refine (law_std w9.heap.size (w9.alloc (Obj.cells #[.iface 9 (.string kCond), .iface 25 (.agg #[.int .i64 3, .int .i64 0, .string startB, .slice none 0 0, .slice none 0 0]), .iface 9 (.string kReq), .iface 25 (.agg #[.int .i64 1, .int .i64 1, .string ⟨#[]⟩, .slice none 0 0, .slice none 0 0])] 20)) HBX10.out).mono ?_
        rintro e w11 ⟨⟨r11, rfl, hd11⟩, hb11⟩
        refine ⟨_, rfl, ?_⟩
        have HC11 := Aside0.mk (below_then HC10.out HC10.out.size hb11)
        have HD11 : Aside0 (DeepP (fun k => gl < k) w11 stdS r11) := ⟨hd11.imp (fun k hk _ => by have h1 := HC10.out.size; have h2 := HML.out.size; omega)⟩
        clear hb11 hd11
        refine hK.out _ _ ⟨(HC11.out.cell (World.block_lt_of_cell? wb _ o0)).trans o0, (HC11.out.cell (World.block_lt_of_cell? wb _ o1)).trans o1, (HC11.out.cell (World.block_lt_of_cell? wb _ o2)).trans o2, (HC11.out.cell (World.block_lt_of_cell? wb _ o3)).trans o3, (HC11.out.cell (World.block_lt_of_cell? wb _ o4)).trans o4, (HC11.out.cell (World.block_lt_of_cell? wb _ y4)).trans y4, (HC11.out.cell (World.block_lt_of_cell? wb _ he2)).trans he2⟩ (fun hHeld => ?_)
        clear hK K
        refine norm_ (a' := ?_) ?_ ?_
        rotate_left
        · show Act.put _ (some 31) _ = _
          simp only [Act.put, List.setIfInBounds_toArray, List.set_cons_zero, List.set_cons_succ, i64_w, i32_w]
          rfl
        refine one_ (i := 15) (N := some 32) #[true, true, true, true, true, true, true, true, true, true, true, true, true, true, true, true, false] rfl rfl (by kernel_rfl) (by decide) (fun K hK => ?_)
        refine goes_ Try.func14 (by kernel_rfl) rfl #[.agg #[.int .i64 rl.n0, .int .i64 rl.n1, .string rl.t, .slice rl.A rl.an rl.ac, .slice rl.B rl.bn rl.bc], .string t, .agg #[.int .i64 r11.n0, .int .i64 r11.n1, .string r11.t, .slice r11.A r11.an r11.ac, .slice r11.B r11.bn r11.bc]] (by rfl) rfl rfl (by simp only [List.map_toArray, List.map_cons, List.map_nil]; rfl) ?_
        with_reducible refine (WithX.use HWX.out HC11.out HD11.out).mono ?_
        rintro e w12 ⟨⟨r12, rfl, hd12⟩, hb12⟩
        refine ⟨_, rfl, ?_⟩
        have HC12 := Aside0.mk (below_then HC11.out HC11.out.size hb12)
        have HD12 := Aside0.mk hd12
        clear hb12 hd12
        refine hK.out _ _ ⟨(HC12.out.cell (World.block_lt_of_cell? wb _ o0)).trans o0, (HC12.out.cell (World.block_lt_of_cell? wb _ o1)).trans o1, (HC12.out.cell (World.block_lt_of_cell? wb _ o2)).trans o2, (HC12.out.cell (World.block_lt_of_cell? wb _ o3)).trans o3, (HC12.out.cell (World.block_lt_of_cell? wb _ o4)).trans o4, (HC12.out.cell (World.block_lt_of_cell? wb _ y4)).trans y4, (HC12.out.cell (World.block_lt_of_cell? wb _ he2)).trans he2⟩ (fun hHeld => ?_)
        clear hK K
        refine norm_ (a' := ?_) ?_ ?_
        rotate_left
        · show Act.put _ (some 32) _ = _
          simp only [Act.put, List.setIfInBounds_toArray, List.set_cons_zero, List.set_cons_succ, i64_w, i32_w]
          rfl
        refine last_ (i := 16) (N := none) #[true, true, true, true, true, true, true, true, true, true, true, true, true, true, true, true, true] rfl rfl (by kernel_rfl) (by decide) (fun K hK => ?_)
        refine store_step (cur := #[.int .i64 rl.n0, .int .i64 rl.n1, .string rl.t, .slice rl.A rl.an rl.ac, .slice rl.B rl.bn rl.bc]) (e := 25) (g := gl) 25 _ _ (.agg #[.int .i64 r12.n0, .int .i64 r12.n1, .string r12.t, .slice r12.A r12.an r12.ac, .slice r12.B r12.bn r12.bc]) [.int .i64 r12.n0, .int .i64 r12.n1, .string r12.t, .slice r12.A r12.an r12.ac, .slice r12.B r12.bn r12.bc] (by rfl) rfl rfl rfl rfl ((HC12.out.block gl (blk_lt HOB.out)).trans HOB.out) rfl (show (Try.prog.info? 25).map (·.size) = some 5 by kernel_rfl) rfl (by simp [Value.oneCell']) ?_
        intro w13 h13 hg13
        have H13 := Aside0.mk h13
        have HG13 := Aside0.mk hg13
        clear h13 hg13
        refine hK.out _ _ ?_
        clear hK K
        refine done_ (by kernel_rfl) ?_
        
        go_wp2
        go_roundw
        case rel =>
          have hsz := HML.out.size
          have hsc := HC12.out.size
          have hd13 : DeepP (fun k => gl < k) w13 (kNs (ss.take (j + 1))) r12 := HD12.out.kept (fun k hk hlt' => HG13.out.block k hlt' (fun e => by injection e with e; omega))
          exact ⟨j + 1, r12, hlt, by go_num, ⟨H13.out, hd13, (HML.out.bel.trans (HC12.out.mono (by omega))).grown HG13.out (by omega) (fun k e => by injection e with e; omega), by have := HG13.out.size; omega⟩⟩
        case measure => first | exact msF hlt | (rw [wk]; exact msF hlt)
      · obtain rfl : j = n := by omega
        have hlt0 : ¬ ((j : Int) < (j : Int)) := Int.lt_irrefl _
        have hre := (HML.out.bel.block (w.heap.size + 1) (by have := HGL.out; omega)).trans HRE3.out
        have y0 : wb.cell? ⟨w.heap.size, 0, none⟩ = some (.int .i64 4) := (blk_cell hxb 0).trans rfl
        have y1 : wb.cell? ⟨w.heap.size, 1, none⟩ = some (.int .i64 r0.n1) := (blk_cell hxb 1).trans rfl
        have y2 : wb.cell? ⟨w.heap.size, 2, none⟩ = some (.string r0.t) := (blk_cell hxb 2).trans rfl
        have y3 : wb.cell? ⟨w.heap.size, 3, none⟩ = some (.slice r0.A r0.an r0.ac) := (blk_cell hxb 3).trans rfl
        have y4 : wb.cell? ⟨w.heap.size, 4, none⟩ = some (.slice r0.B j r0.bc) := (blk_cell hxb 4).trans rfl
        have o0 : wb.cell? ⟨gl, 0, none⟩ = some (.int .i64 rl.n0) := (blk_cell HML.out.box 0).trans rfl
        have o1 : wb.cell? ⟨gl, 1, none⟩ = some (.int .i64 rl.n1) := (blk_cell HML.out.box 1).trans rfl
        have o2 : wb.cell? ⟨gl, 2, none⟩ = some (.string rl.t) := (blk_cell HML.out.box 2).trans rfl
        have o3 : wb.cell? ⟨gl, 3, none⟩ = some (.slice rl.A rl.an rl.ac) := (blk_cell HML.out.box 3).trans rfl
        have o4 : wb.cell? ⟨gl, 4, none⟩ = some (.slice rl.B rl.bn rl.bc) := (blk_cell HML.out.box 4).trans rfl
        have n0 : wb.cell? ⟨w.heap.size + 1, 0, none⟩ = some (.int .i64 0) := (blk_cell hre 0).trans rfl
        have n1 : wb.cell? ⟨w.heap.size + 1, 1, none⟩ = some (.int .i64 0) := (blk_cell hre 1).trans rfl
        have n2 : wb.cell? ⟨w.heap.size + 1, 2, none⟩ = some (.string ⟨#[]⟩) := (blk_cell hre 2).trans rfl
        have n3 : wb.cell? ⟨w.heap.size + 1, 3, none⟩ = some (.slice none 0 0) := (blk_cell hre 3).trans rfl
        have n4 : wb.cell? ⟨w.heap.size + 1, 4, none⟩ = some (.slice none 0 0) := (blk_cell hre 4).trans rfl
        have f0 := blk_frozen hre 0
        have f1 := blk_frozen hre 1
        have f2 := blk_frozen hre 2
        have f3 := blk_frozen hre 3
        have f4 := blk_frozen hre 4
        clear hre hxb
        go_wp2
        refine bodyPost_ret (v := .agg #[.int .i64 rl.n0, .int .i64 rl.n1, .string rl.t, .slice rl.A rl.an rl.ac, .slice rl.B rl.bn rl.bc]) (by simp [results, Try.results30, go_sem, *]) rfl ?_
        refine ⟨⟨rl, rfl, ?_⟩, below5 HBW.out _ (Nat.le_succ _) _ _ _ _ _⟩
        rw [HMS.out]
        have hde := HML.out.deep
        rw [show ss.take j = ss by rw [HNN.out]; exact List.take_length] at hde
        exact (hde.kept (fun k hk _ => far5 (by have := HGL.out; omega) _ _ _ _ _)).imp (fun k hk _ => .inr (by have := HGL.out; omega))
end Go.Proofs.Ytgeamhmenmomhaa.A
/- The walks of spec.canonNeeds and spec.PartNeeds (printed by gen_needs.py). -/
namespace Go.Proofs.Ytgeamhmenmomhaa.A
set_option linter.unusedVariables false
set_option linter.unusedSimpArgs false
set_option linter.unusedSectionVars false
open Go.RowKit Go.Proofs.YtgeamhmenmomhaaW.PrintWords Go.Proofs.YtgeamhmenmomhaaW.PrintLast Go.Proofs.YtgeamhmenmomhaaW.PrintMore Go.Proofs.Ytgeamhmenmomhaa.PT Go.Proofs.Ytgeamhmenmomhaa.L Go.Proofs.Ytgeamhmenmomhaa.SM

def cS (s : SV) (i : Nat) : SV := ⟨5, 0, be, s.f3, (s.f4.take i).map reqS ++ s.f4.drop i⟩
theorem cS_len (s : SV) (i : Nat) : (cS s i).f4.length = s.f4.length := by
  simp only [cS, List.length_append, List.length_map, List.length_take, List.length_drop]; omega
theorem cS_get (s : SV) {i : Nat} (hi : i < s.f4.length) (h : i < (cS s i).f4.length) : (cS s i).f4[i]'h = s.f4[i]'hi := by
  have hl : ((s.f4.take i).map reqS).length = i := by simp; omega
  simp only [cS]
  have e : i - ((s.f4.take i).map reqS).length = 0 := by omega
  rw [List.getElem_append_right (by omega)]
  simp only [e, List.getElem_drop, Nat.add_zero]
theorem cS_next (s : SV) {i : Nat} (hi : i < s.f4.length) : (cS s i).f4.set i (reqS (s.f4[i]'hi)) = (cS s (i + 1)).f4 := by
  have hl : ((s.f4.take i).map reqS).length = i := by simp; omega
  simp only [cS]
  rw [List.set_append_right _ _ (by omega), hl, Nat.sub_self, List.drop_eq_getElem_cons hi, List.set_cons_zero, List.take_succ_eq_append_getElem hi, List.map_append, List.append_assoc]
  rfl
theorem cS_same (s : SV) {i : Nat} (hi : i < s.f4.length) (h : reqS (s.f4[i]'hi) = s.f4[i]'hi) : cS s (i + 1) = cS s i := by
  have e : (cS s (i + 1)).f4 = (cS s i).f4 := by
    rw [← cS_next s hi, h]
    have h2 : i < (cS s i).f4.length := by rw [cS_len]; exact hi
    rw [← cS_get s hi h2]
    exact List.set_getElem_self h2
  show (⟨5, 0, be, s.f3, (cS s (i + 1)).f4⟩ : SV) = ⟨5, 0, be, s.f3, (cS s i).f4⟩
  rw [e]
theorem cS_zero {s : SV} (h : s = ⟨5, 0, be, s.f3, s.f4⟩) : cS s 0 = s := by
  unfold cS
  rw [List.take_zero, List.drop_zero]
  exact h.symm
theorem cS_all {s : SV} (h : s = ⟨5, 0, be, s.f3, s.f4⟩) : cS s s.f4.length = allS reqS s := by
  unfold cS allS
  rw [List.take_length, List.drop_length, List.append_nil]
  rw [h]
theorem fineS_std : FineS stdS := by
  refine .map ?_ rfl (by simp) (fun i hi => ?_)
  · exact List.pairwise_cons.2 ⟨fun k hk => by rw [List.mem_singleton.1 hk]; decide +kernel, List.pairwise_singleton _ _⟩
  · rcases i with _ | _ | i
    · exact FineS.text _
    · exact FineS.bool true
    · exact absurd hi (by simp)
theorem fineS_merge {x : SV} (hf : FineS x) (hw : wt x ≤ 1048576) (hn : NeedsS x) : FineS (mergeS x) ∧ (mergeS x).f0 = 5 ∧ ∀ (i : Nat) (hi : i < (mergeS x).f4.length), ((mergeS x).f4[i]'hi).f0 = 5 := by
  unfold mergeS
  by_cases h5 : x.f0 = 5
  · rw [if_pos h5]
    refine ⟨hf, h5, fun i hi => ?_⟩
    rcases hn with ⟨h4, _⟩ | ⟨_, hk⟩
    · omega
    · exact (hk _ (List.getElem_mem hi)).1
  · rw [if_neg h5]
    have h1 := namesK_len (x.f4.map (·.f2))
    have h2 := (fineS_bnd hf).2
    rw [List.length_map] at h1
    refine ⟨.map (namesK_spec _).1 (by simp) (by rw [List.length_map]; omega) (fun i hi => ?_), rfl, fun i hi => ?_⟩
    · rw [List.getElem_map]; exact fineS_std
    · simp only [List.getElem_map]; rfl
def OffP (P : Nat → Prop) (lo gl : Nat) (k : Nat) : Prop := (P k ∨ lo ≤ k) ∧ k ≠ gl
structure CanL (P : Nat → Prop) (w W3 wr : World) (s : SV) (gl n i : Nat) (rl : RV) : Prop where
  box : wr.heap[gl]? = some (.cells #[.int .i64 rl.n0, .int .i64 rl.n1, .string rl.t, .slice rl.A n rl.ac, .slice rl.B n rl.bc] 25 (0, 0))
  deep : DeepP (OffP P (w.heap.size + 2) gl) wr (cS s i) rl
  bel : Below gl W3 wr
  size : gl < wr.heap.size
theorem val_n {r : RV} {n : Nat} (h1 : r.an = n) (h2 : r.bn = n) : r.val = .agg #[.int .i64 r.n0, .int .i64 r.n1, .string r.t, .slice r.A n r.ac, .slice r.B n r.bc] := by unfold RV.val; rw [h1, h2]
def WithC (P : Nat → Prop) (v : Value) (key : ByteArray) (y z : SV) (w : World) : Prop := ∀ W (q : RV), Below w.heap.size w W → DeepP P W y q → Calls Try.prog 14 #[v, .string key, .agg #[.int .i64 q.n0, .int .i64 q.n1, .string q.t, .slice q.A q.an q.ac, .slice q.B q.bn q.bc]] W fun e w' => (∃ r' : RV, e = .returned (.agg #[.int .i64 r'.n0, .int .i64 r'.n1, .string r'.t, .slice r'.A r'.an r'.ac, .slice r'.B r'.bn r'.bc]) ∧ DeepP P w' z r') ∧ Below W.heap.size W w'
theorem WithC.use {P : Nat → Prop} {v : Value} {key : ByteArray} {y z : SV} {w : World} (h : WithC P v key y z w) {W : World} {q : RV} (hW : Below w.heap.size w W) (hq : DeepP P W y q) : Calls Try.prog 14 #[v, .string key, .agg #[.int .i64 q.n0, .int .i64 q.n1, .string q.t, .slice q.A q.an q.ac, .slice q.B q.bn q.bc]] W fun e w' => (∃ r' : RV, e = .returned (.agg #[.int .i64 r'.n0, .int .i64 r'.n1, .string r'.t, .slice r'.A r'.an r'.ac, .slice r'.B r'.bn r'.bc]) ∧ DeepP P w' z r') ∧ Below W.heap.size W w' := h W q hW hq
theorem WithC.useT {P : Nat → Prop} {v : Value} {key : ByteArray} {z : SV} {w : World} (h : WithC P v key trueS z w) {W : World} (hW : Below w.heap.size w W) : Calls Try.prog 14 #[v, .string key, .agg #[.int .i64 1, .int .i64 1, .string ⟨#[]⟩, .slice none 0 0, .slice none 0 0]] W fun e w' => (∃ r' : RV, e = .returned (.agg #[.int .i64 r'.n0, .int .i64 r'.n1, .string r'.t, .slice r'.A r'.an r'.ac, .slice r'.B r'.bn r'.bc]) ∧ DeepP P w' z r') ∧ Below W.heap.size W w' := h W trueR hW (deepP_true _ _)
def CanSays (P : Nat → Prop) (x : SV) (w : World) (e : Ending) (w' : World) : Prop := (∃ r' : RV, e = .returned (.agg #[.int .i64 r'.n0, .int .i64 r'.n1, .string r'.t, .slice r'.A r'.an r'.ac, .slice r'.B r'.bn r'.bc]) ∧ DeepP (fun k => P k ∨ w.heap.size ≤ k) w' (needsS x) r') ∧ Below w.heap.size w w'
set_option maxHeartbeats 8000000 in
set_option maxRecDepth 100000 in
theorem spec_canonNeeds {P : Nat → Prop} {x : SV} (hf : FineS x) (hw : wt x ≤ 1048576) (hn : NeedsS x) {r0 : RV} {w : World} (hd : DeepP P w x r0) (hP : ∀ k, P k → k < w.heap.size) :
    Calls Try.prog 16 #[.agg #[.int .i64 r0.n0, .int .i64 r0.n1, .string r0.t, .slice r0.A r0.an r0.ac, .slice r0.B r0.bn r0.bc]] w (CanSays P x w) := by
  obtain ⟨hfm, hm5, hmk⟩ := fineS_merge hf hw hn
  obtain ⟨s, hs⟩ : ∃ s, s = mergeS x := ⟨_, rfl⟩
  rw [← hs] at hfm hm5 
  have hmk' : ∀ (i : Nat) (hi : i < s.f4.length), (s.f4[i]'hi).f0 = 5 := by rw [hs]; exact hmk
  obtain ⟨hse, hsasc, hsl, hsb, hsfe⟩ := fineS_map hfm hm5
  obtain ⟨W0, hW0⟩ : ∃ W0 : World, W0 = (w.alloc (Obj.cells #[.int .i64 r0.n0, .int .i64 r0.n1, .string r0.t, .slice r0.A r0.an r0.ac, .slice r0.B r0.bn r0.bc] 25)).alloc (Obj.cells #[.int .i64 0, .int .i64 0, .string ⟨#[]⟩, .slice none 0 0, .slice none 0 0] 25) := ⟨_, rfl⟩
  have hb0 : Below w.heap.size w W0 := by rw [hW0]; exact ((Below.refl _ _).alloc (Nat.le_refl _) _).alloc (by simp) _
  have hx : W0.heap[w.heap.size]? = some (.cells #[.int .i64 r0.n0, .int .i64 r0.n1, .string r0.t, .slice r0.A r0.an r0.ac, .slice r0.B r0.bn r0.bc] 25 (0, 0)) := by rw [hW0]; exact heap_oldI (new_atI rfl)
  have HRE : Aside0 (W0.heap[w.heap.size + 1]? = some (.cells zV 25 (0, 0))) := ⟨by rw [hW0]; exact new_atI (by simp)⟩
  have HS0 : Hid (W0.heap.size = w.heap.size + 2) := Lib.hid (by rw [hW0]; simp)
  have HB0 := Aside0.mk hb0
  have HMRG : Hid (Calls Try.prog 30 #[.agg #[.int .i64 r0.n0, .int .i64 r0.n1, .string r0.t, .slice r0.A r0.an r0.ac, .slice r0.B r0.bn r0.bc]] W0 (MrgSays P x W0)) := Lib.hid (spec_mergeNeeds hf hw hn (hd.below_ hb0) (fun k hk => by have := hP k hk; have := hb0.size; omega))
  have HW0 := Lib.hid hW0
  have HPP := Lib.hid hP
  have HSE := Lib.hid hs
  have HEND : Hid (cS s s.f4.length = needsS x) := Lib.hid (by rw [cS_all hse, hs]; rfl)
  obtain ⟨n, hnn⟩ : ∃ n, n = s.f3.length := ⟨_, rfl⟩
  have hn4 : s.f4.length = n := by rw [hnn]; exact hsl
  have HN := Lib.hid hnn
  have HN4 := Lib.hid hn4
  have HNB : Hid (n ≤ 1099511627776) := Lib.hid (by rw [← hn4]; exact hsb)
  have HASC := Lib.hid hsasc
  have HSL := Lib.hid hsl
  have HFE := Lib.hid hsfe
  have HK5 := Lib.hid hmk'
  have HZERO : Hid (cS s 0 = s) := Lib.hid (cS_zero hse)
  have x0 : W0.cell? ⟨w.heap.size, 0, none⟩ = some (.int .i64 r0.n0) := (blk_cell hx 0).trans rfl
  have x1 : W0.cell? ⟨w.heap.size, 1, none⟩ = some (.int .i64 r0.n1) := (blk_cell hx 1).trans rfl
  have x2 : W0.cell? ⟨w.heap.size, 2, none⟩ = some (.string r0.t) := (blk_cell hx 2).trans rfl
  have x3 : W0.cell? ⟨w.heap.size, 3, none⟩ = some (.slice r0.A r0.an r0.ac) := (blk_cell hx 3).trans rfl
  have x4 : W0.cell? ⟨w.heap.size, 4, none⟩ = some (.slice r0.B r0.bn r0.bc) := (blk_cell hx 4).trans rfl
  clear hf hw hn hd hP hfm hm5 hmk hmk' hse hsasc hsl hsb hsfe hb0 hW0 hx hs hnn hn4
  go_enter Try.func16, Try.ntmps16
  go_upto_region 1 with fail
  rw [← HW0.out]
  go_wp2_with fail
  refine HMRG.out.mono ?_
  clear x0 x1 x2 x3 x4
  rintro e w1 ⟨⟨r1, rfl, hd1⟩, hb1⟩
  obtain ⟨gl, hgl⟩ : ∃ gl, gl = w1.heap.size := ⟨_, rfl⟩
  obtain ⟨W3, hW3⟩ : ∃ W3 : World, W3 = w1.alloc (Obj.cells #[.int .i64 r1.n0, .int .i64 r1.n1, .string r1.t, .slice r1.A r1.an r1.ac, .slice r1.B r1.bn r1.bc] 25) := ⟨_, rfl⟩
  have hg3 : W3.heap[gl]? = some (.cells #[.int .i64 r1.n0, .int .i64 r1.n1, .string r1.t, .slice r1.A r1.an r1.ac, .slice r1.B r1.bn r1.bc] 25 (0, 0)) := by rw [hW3, hgl]; exact new_atI rfl
  have hb3 : Below W0.heap.size W0 W3 := by rw [hW3]; exact hb1.alloc hb1.size _
  have HRE3 := Aside0.mk (blk_below HRE.out hb3)
  have HB3 : Aside0 (Below w.heap.size w W3) := ⟨HB0.out.trans (hb3.mono HB0.out.size)⟩
  have HGL : Hid (w.heap.size + 2 ≤ gl) := Lib.hid (by rw [hgl]; have := HS0.out; have := hb1.size; omega)
  have HGL3 : Hid (gl < W3.heap.size) := Lib.hid (by rw [hW3, hgl]; simp)
  have hd3 : DeepP (OffP P (w.heap.size + 2) gl) W3 s r1 := by
    rw [HSE.out]
    refine (DeepP.below_ (hd1.imp (fun k hk hlt => ⟨?_, ?_⟩)) (by rw [hW3]; exact (Below.refl _ _).alloc (Nat.le_refl _) _))
    · rcases hk with hk | hk
      · exact .inl hk
      · exact .inr (by have := HS0.out; omega)
    · omega
  obtain ⟨_, -, -, -, hran, -, -, hrbn, -, -, -⟩ := hd3.rows
  have HST : Aside0 (CanL P w W3 W3 s gl n 0 r1) := ⟨⟨by rw [hran, hrbn, ← HN.out, HN4.out] at hg3; exact hg3, by rw [HZERO.out]; exact hd3, Below.refl _ _, HGL3.out⟩⟩
  have HW3 := Lib.hid hW3
  have HGLE := Lib.hid hgl
  clear hb1 hd1 hg3 hb3 hd3 hran hrbn hW3 hgl HMRG
  go_upto_region 2 with fail
  rw [← HW3.out, ← HGLE.out]
  go_wp2
  go_loopw [4] (fun v4 wr => ∃ (i : Nat) (rl : RV), i ≤ n ∧ v4 = .int .i64 i ∧ Aside0 (CanL P w W3 wr s gl n i rl)) (fun v4 _ => n - (intOf v4).toNat)
  case atStart => exact ⟨0, r1, Nat.zero_le _, rfl, HST⟩
  case round =>
    obtain ⟨i, rl, hi, rfl, HCL⟩ := hrel
    obtain ⟨wb, hwb⟩ : ∃ wb, wb = wr := ⟨_, rfl⟩
    subst hwb
    have HBW : Aside0 (Below w.heap.size w wb) := ⟨HB3.out.trans (HCL.out.bel.mono (by have := HGL.out; omega))⟩
    by_cases hlt : i < n
    · have i0 : (0 : Int) ≤ (i : Int) := Int.natCast_nonneg _
      have i1 : (i : Int) < (n : Int) := Int.ofNat_lt.2 hlt
      have hi3 : i < s.f3.length := by rw [← HN.out]; exact hlt
      have hi4 : i < s.f4.length := by rw [HN4.out]; exact hlt
      have hil : i < (cS s i).f4.length := by rw [cS_len]; exact hi4
      obtain ⟨rs, -, -, -, hran, -, hrk, hrbn, -, hrr, hra⟩ := HCL.out.deep.rows
      have hran' : rl.an = n := hran.trans HN.out.symm
      have hrbn' : rl.bn = n := by rw [hrbn, cS_len]; exact HN4.out
      have hir : i < rs.length := by have := hra.1; rw [cS_len] at this; omega
      obtain ⟨adk, eK, hkc⟩ := Kd.at_string (n := s.f3.length) hrk (i : Int) i0 (by rw [← HN.out]; exact i1)
      replace hkc : wb.cell? (adk.add i) = some (.string (s.f3[i]'hi3)) := by rw [Int.toNat_natCast] at hkc; rw [hkc]; exact congrArg (fun k => some (Value.string k)) (rdK (ks := s.f3) hi3)
      obtain ⟨ade, eA, he0, he1, he2, he3, he4⟩ := at_R hrr i hir hir
      obtain ⟨rx, hrx⟩ : ∃ rx, rx = rs[i]'hir := ⟨_, rfl⟩
      obtain ⟨y, hy⟩ : ∃ y, y = s.f4[i]'hi4 := ⟨_, rfl⟩
      obtain ⟨key, hkey⟩ : ∃ key, key = s.f3[i]'hi3 := ⟨_, rfl⟩
      have hdx := hra.2 i hil hir
      rw [cS_get _ hi4, ← hrx, ← hy] at hdx
      have hyf := HFE.out i hi4
      have hy5 := HK5.out i hi4
      rw [← hy] at hyf hy5
      rw [← hrx] at he0 he1 he2 he3 he4
      rw [← hkey] at hkc
      obtain ⟨hye, hyasc, hyl, _, hyfe⟩ := fineS_map hyf hy5
      obtain ⟨ge, bh, hgete, hget1, hget2⟩ := get_ex hdx hyf kReq
      have HHAS : Hid (∀ W, Below wb.heap.size wb W → Calls Try.prog 31 #[rx.val, .string kReq] W fun e w' => e = .returned (.bool bh) ∧ Below W.heap.size W w') := Lib.hid (fun W hW => spec_HasX rx kReq ge bh W (fun W' hW' => hgete W' (hW.trans (hW'.mono hW.size))))
      have HSAME : Hid (bh = true → cS s (i + 1) = cS s i) := Lib.hid (fun hb => cS_same s hi4 (by
        rw [← hy]
        obtain ⟨_, q, q3, q4, qk, _⟩ := hget1 hb
        unfold reqS
        rw [if_pos ((place_mem hyasc).2 (by rw [← qk]; exact List.getElem_mem q3))]))
      have HREQ : Hid (bh = false → (⟨5, 0, be, withKs kReq y.f3, withL kReq y.f3 y.f4 trueS⟩ : SV) = reqS y) := Lib.hid (fun hb => by
        unfold reqS
        rw [if_neg (fun h => hget2 hb hy5 ((place_mem hyasc).1 h))])
      have hPn : ∀ {W : World}, Below wb.heap.size wb W → ∀ k, W.heap.size ≤ k → OffP P (w.heap.size + 2) gl k := fun {W} hW k hk => by
        have h1 := HCL.out.size
        have h2 := hW.size
        have h3 := HGL.out
        exact ⟨.inr (by omega), by omega⟩
      have HWC : Hid (WithC (OffP P (w.heap.size + 2) gl) (.agg #[.int .i64 rx.n0, .int .i64 rx.n1, .string rx.t, .slice rx.A rx.an rx.ac, .slice rx.B rx.bn rx.bc]) kReq trueS ⟨5, 0, be, withKs kReq y.f3, withL kReq y.f3 y.f4 trueS⟩ wb) := Lib.hid (fun W qv hW hq => by
        refine (law_WithN (hdx.below_ hW) hyl (fineS_bnd hyf).1 kReq hq (hPn hW)).mono ?_
        rintro e w' ⟨⟨r', rfl, hd'⟩, hbl⟩
        exact ⟨⟨r', rfl, hd'⟩, hbl⟩)
      have HWL : Hid (WithC (OffP P (w.heap.size + 2) gl) (.agg #[.int .i64 rl.n0, .int .i64 rl.n1, .string rl.t, .slice rl.A n rl.ac, .slice rl.B n rl.bc]) key (reqS y) (cS s (i + 1)) wb) := Lib.hid (fun W qv hW hq => by
        rw [← val_n hran' hrbn']
        refine (law_WithD (HCL.out.deep.below_ hW) (show Ord.Asc id (cS s i).f3 from HASC.out) (by rw [cS_len]; exact HSL.out) (show s.f3.length ≤ _ by rw [← HN.out]; exact HNB.out) (i := i) hi3 hkey.symm hq (hPn hW)).mono ?_
        rintro e w' ⟨⟨r', rfl, hd'⟩, hbl⟩
        refine ⟨⟨r', rfl, ?_⟩, hbl⟩
        rw [hy, cS_next _ hi4] at hd'
        exact hd')
      have wk := wrF hlt HNB.out
      have HKC := Aside0.mk hkc
      have HE0 := Aside0.mk he0
      have HE1 := Aside0.mk he1
      have HE2 := Aside0.mk he2
      have HE3 := Aside0.mk he3
      have HE4 := Aside0.mk he4
      unfold RV.val at HHAS
      have hob := HCL.out.box
      rw [eK, eA] at hob
      rw [eK, eA] at HWL
      have HOB := Aside0.mk hob
      have o0 : wb.cell? ⟨gl, 0, none⟩ = some (.int .i64 rl.n0) := (blk_cell hob 0).trans rfl
      have o1 : wb.cell? ⟨gl, 1, none⟩ = some (.int .i64 rl.n1) := (blk_cell hob 1).trans rfl
      have o2 : wb.cell? ⟨gl, 2, none⟩ = some (.string rl.t) := (blk_cell hob 2).trans rfl
      have o3 : wb.cell? ⟨gl, 3, none⟩ = some (.slice (some adk) n rl.ac) := (blk_cell hob 3).trans rfl
      have o4 : wb.cell? ⟨gl, 4, none⟩ = some (.slice (some ade) n rl.bc) := (blk_cell hob 4).trans rfl
      clear hrx hy hkey hdx hyf hy5 hye hyasc hyl hyfe hgete hget1 hget2 hran hrk hrbn hrr hra hran' hrbn' hir hil hi3 hi4 eK eA hPn hob hkc
      go_wp2_with fail
      refine (HHAS.out wb (Below.refl _ _)).mono ?_
      clear o0 o1 o2 o3 o4 he0 he1 he2 he3 he4
      rintro e w8 ⟨rfl, hb8⟩
      have HB8 := Aside0.mk hb8
      clear hb8
      cases bh with
      | true =>
        have HSM := Lib.hid (HSAME.out (by first | rfl | trivial))
        go_wp2
        go_roundw
        case rel => exact ⟨i + 1, rl, hlt, by go_num, ⟨(HB8.out.block gl HCL.out.size).trans HCL.out.box, by rw [HSM.out]; exact HCL.out.deep.below_ HB8.out, HCL.out.bel.trans (HB8.out.mono (Nat.le_of_lt HCL.out.size)), Nat.lt_of_lt_of_le HCL.out.size HB8.out.size⟩⟩
        case measure => first | exact msF hlt | (rw [wk]; exact msF hlt)
      | false =>
        have HRQ := Lib.hid (HREQ.out (by first | rfl | trivial))
        have hob8 := (HB8.out.block gl HCL.out.size).trans HOB.out
        have HOB8 := Aside0.mk hob8
        have tr : ∀ {q : Addr} {u : Value}, wb.cell? q = some u → w8.cell? q = some u := fun h => (HB8.out.cell (World.block_lt_of_cell? wb _ h)).trans h
        have hkc := tr HKC.out
        have he0 := tr HE0.out
        have he1 := tr HE1.out
        have he2 := tr HE2.out
        have he3 := tr HE3.out
        have he4 := tr HE4.out
        have o0 : w8.cell? ⟨gl, 0, none⟩ = some (.int .i64 rl.n0) := (blk_cell hob8 0).trans rfl
        have o1 : w8.cell? ⟨gl, 1, none⟩ = some (.int .i64 rl.n1) := (blk_cell hob8 1).trans rfl
        have o2 : w8.cell? ⟨gl, 2, none⟩ = some (.string rl.t) := (blk_cell hob8 2).trans rfl
        have o3 : w8.cell? ⟨gl, 3, none⟩ = some (.slice (some adk) n rl.ac) := (blk_cell hob8 3).trans rfl
        have o4 : w8.cell? ⟨gl, 4, none⟩ = some (.slice (some ade) n rl.bc) := (blk_cell hob8 4).trans rfl
        clear hob8 tr
        go_upto_region 6 with fail
        refine start_ (n := 15) (S := fun w' => w'.cell? ⟨gl, 0, none⟩ = some (.int .i64 rl.n0) ∧ w'.cell? ⟨gl, 1, none⟩ = some (.int .i64 rl.n1) ∧ w'.cell? ⟨gl, 2, none⟩ = some (.string rl.t) ∧ w'.cell? ⟨gl, 3, none⟩ = some (.slice (some adk) n rl.ac) ∧ w'.cell? ⟨gl, 4, none⟩ = some (.slice (some ade) n rl.bc) ∧ w'.cell? (adk.add i) = some (.string key) ∧ w'.cell? (ade.add (i * 5)) = some (.int .i64 rx.n0) ∧ w'.cell? ⟨(ade.add (i * 5)).block, (ade.add (i * 5)).off + 1, none⟩ = some (.int .i64 rx.n1) ∧ w'.cell? ⟨(ade.add (i * 5)).block, (ade.add (i * 5)).off + 2, none⟩ = some (.string rx.t) ∧ w'.cell? ⟨(ade.add (i * 5)).block, (ade.add (i * 5)).off + 3, none⟩ = some (.slice rx.A rx.an rx.ac) ∧ w'.cell? ⟨(ade.add (i * 5)).block, (ade.add (i * 5)).off + 4, none⟩ = some (.slice rx.B rx.bn rx.bc)) (ds := [14]) #[false, false, false, false, false, false, false, false, false, false, false, false, false, false, false] (by kernel_rfl) rfl rfl ⟨o0, o1, o2, o3, o4, hkc, he0, he1, he2, he3, he4⟩ (fun hHeld => ?_)
        refine pure_ (i := 1) (N := some 22) (v := ?_) (a' := ?_) #[false, true, false, false, false, false, false, false, false, false, false, false, false, false, false] rfl rfl (by kernel_rfl) (fun _ _ _ h => h) (Or.inl ⟨by rfl, ?_⟩) ?_ ?_
        rotate_left
        · intro w'
          go_simp
          with_reducible rfl
        rotate_left
        · simp only [Act.put, List.setIfInBounds_toArray, List.set_cons_zero, List.set_cons_succ, i64_w, i32_w]
          rfl
        refine pure_ (i := 3) (N := some 24) (v := ?_) (a' := ?_) #[false, true, false, true, false, false, false, false, false, false, false, false, false, false, false] rfl rfl (by kernel_rfl) (fun _ _ _ h => h) (Or.inl ⟨by rfl, ?_⟩) ?_ ?_
        rotate_left
        · intro w'
          go_simp
          with_reducible rfl
        rotate_left
        · simp only [Act.put, List.setIfInBounds_toArray, List.set_cons_zero, List.set_cons_succ, i64_w, i32_w]
          rfl
        refine pure_ (i := 6) (N := some 27) (v := ?_) (a' := ?_) #[false, true, false, true, false, false, true, false, false, false, false, false, false, false, false] rfl rfl (by kernel_rfl) (fun _ _ _ h => h) (Or.inl ⟨by rfl, ?_⟩) ?_ ?_
        rotate_left
        · intro w'
          go_simp
          with_reducible rfl
        rotate_left
        · simp only [Act.put, List.setIfInBounds_toArray, List.set_cons_zero, List.set_cons_succ, i64_w, i32_w]
          rfl
        refine pure_ (i := 8) (N := some 29) (v := ?_) (a' := ?_) #[false, true, false, true, false, false, true, false, true, false, false, false, false, false, false] rfl rfl (by kernel_rfl) (fun _ _ _ h => h) (Or.inl ⟨by rfl, ?_⟩) ?_ ?_
        rotate_left
        · intro w'
          go_simp
          with_reducible rfl
        rotate_left
        · simp only [Act.put, List.setIfInBounds_toArray, List.set_cons_zero, List.set_cons_succ, i64_w, i32_w]
          rfl
        refine take_ (i := 0) (N := some 21) (v := ?_) (a' := ?_) #[true, true, false, true, false, false, true, false, true, false, false, false, false, false, false] rfl rfl (by kernel_rfl) (fun _ _ _ h => h) (Or.inl ⟨by rfl, ?_⟩) hHeld ?_ ?_
        rotate_left
        · rintro w' ⟨s0, s1, s2, s3, s4, s5, s6, s7, s8, s9, s10⟩
          go_simp
          with_reducible rfl
        rotate_left
        · simp only [Act.put, List.setIfInBounds_toArray, List.set_cons_zero, List.set_cons_succ, i64_w, i32_w]
          rfl
        refine take_ (i := 2) (N := some 23) (v := ?_) (a' := ?_) #[true, true, true, true, false, false, true, false, true, false, false, false, false, false, false] rfl rfl (by kernel_rfl) (fun _ _ _ h => h) (Or.inl ⟨by rfl, ?_⟩) hHeld ?_ ?_
        rotate_left
        · rintro w' ⟨s0, s1, s2, s3, s4, s5, s6, s7, s8, s9, s10⟩
          go_simp
          with_reducible rfl
        rotate_left
        · simp only [Act.put, List.setIfInBounds_toArray, List.set_cons_zero, List.set_cons_succ, i64_w, i32_w]
          rfl
        refine pure_ (i := 4) (N := some 25) (v := ?_) (a' := ?_) #[true, true, true, true, true, false, true, false, true, false, false, false, false, false, false] rfl rfl (by kernel_rfl) (fun _ _ _ h => h) (Or.inl ⟨by rfl, ?_⟩) ?_ ?_
        rotate_left
        · intro w'
          go_simp
          with_reducible rfl
        rotate_left
        · simp only [Act.put, List.setIfInBounds_toArray, List.set_cons_zero, List.set_cons_succ, i64_w, i32_w]
          rfl
        refine take_ (i := 5) (N := some 26) (v := ?_) (a' := ?_) #[true, true, true, true, true, true, true, false, true, false, false, false, false, false, false] rfl rfl (by kernel_rfl) (fun _ _ _ h => h) (Or.inl ⟨by rfl, ?_⟩) hHeld ?_ ?_
        rotate_left
        · rintro w' ⟨s0, s1, s2, s3, s4, s5, s6, s7, s8, s9, s10⟩
          go_simp
          with_reducible rfl
        rotate_left
        · simp only [Act.put, List.setIfInBounds_toArray, List.set_cons_zero, List.set_cons_succ, i64_w, i32_w]
          rfl
        refine take_ (i := 7) (N := some 28) (v := ?_) (a' := ?_) #[true, true, true, true, true, true, true, true, true, false, false, false, false, false, false] rfl rfl (by kernel_rfl) (fun _ _ _ h => h) (Or.inl ⟨by rfl, ?_⟩) hHeld ?_ ?_
        rotate_left
        · rintro w' ⟨s0, s1, s2, s3, s4, s5, s6, s7, s8, s9, s10⟩
          go_simp
          with_reducible rfl
        rotate_left
        · simp only [Act.put, List.setIfInBounds_toArray, List.set_cons_zero, List.set_cons_succ, i64_w, i32_w]
          rfl
        refine pure_ (i := 9) (N := some 30) (v := ?_) (a' := ?_) #[true, true, true, true, true, true, true, true, true, true, false, false, false, false, false] rfl rfl (by kernel_rfl) (fun _ _ _ h => h) (Or.inl ⟨by rfl, ?_⟩) ?_ ?_
        rotate_left
        · intro w'
          go_simp
          with_reducible rfl
        rotate_left
        · simp only [Act.put, List.setIfInBounds_toArray, List.set_cons_zero, List.set_cons_succ, i64_w, i32_w]
          rfl
        refine take_ (i := 10) (N := some 31) (v := ?_) (a' := ?_) #[true, true, true, true, true, true, true, true, true, true, true, false, false, false, false] rfl rfl (by kernel_rfl) (fun _ _ _ h => h) (Or.inl ⟨by rfl, ?_⟩) hHeld ?_ ?_
        rotate_left
        · rintro w' ⟨s0, s1, s2, s3, s4, s5, s6, s7, s8, s9, s10⟩
          go_simp
          with_reducible rfl
        rotate_left
        · simp only [Act.put, List.setIfInBounds_toArray, List.set_cons_zero, List.set_cons_succ, i64_w, i32_w]
          rfl
        refine one_ (i := 11) (N := some 32) #[true, true, true, true, true, true, true, true, true, true, true, true, false, false, false] rfl rfl (by kernel_rfl) (by decide) (fun K hK => ?_)
        refine goes_ Try.func10 (by kernel_rfl) rfl #[.bool true] (by rfl) rfl rfl (by simp only [List.map_toArray, List.map_cons, List.map_nil]; rfl) ?_
        with_reducible refine (spec_B true w8.drew).mono ?_
        rintro e w9 ⟨rfl, hb9⟩
        refine ⟨_, rfl, ?_⟩
        have hc9 : Below w8.heap.size w8 w9 := below_un hb9
        have HC9 := Aside0.mk hc9
        clear hb9 hc9
        refine hK.out _ _ ⟨(HC9.out.cell (World.block_lt_of_cell? w8 _ o0)).trans o0, (HC9.out.cell (World.block_lt_of_cell? w8 _ o1)).trans o1, (HC9.out.cell (World.block_lt_of_cell? w8 _ o2)).trans o2, (HC9.out.cell (World.block_lt_of_cell? w8 _ o3)).trans o3, (HC9.out.cell (World.block_lt_of_cell? w8 _ o4)).trans o4, (HC9.out.cell (World.block_lt_of_cell? w8 _ hkc)).trans hkc, (HC9.out.cell (World.block_lt_of_cell? w8 _ he0)).trans he0, (HC9.out.cell (World.block_lt_of_cell? w8 _ he1)).trans he1, (HC9.out.cell (World.block_lt_of_cell? w8 _ he2)).trans he2, (HC9.out.cell (World.block_lt_of_cell? w8 _ he3)).trans he3, (HC9.out.cell (World.block_lt_of_cell? w8 _ he4)).trans he4⟩ (fun hHeld => ?_)
        clear hK K
        refine norm_ (a' := ?_) ?_ ?_
        rotate_left
        · show Act.put _ (some 32) _ = _
          simp only [Act.put, List.setIfInBounds_toArray, List.set_cons_zero, List.set_cons_succ, i64_w, i32_w]
          rfl
        refine one_ (i := 12) (N := some 33) #[true, true, true, true, true, true, true, true, true, true, true, true, true, false, false] rfl rfl (by kernel_rfl) (by decide) (fun K hK => ?_)
        refine goes_ Try.func14 (by kernel_rfl) rfl #[.agg #[.int .i64 rx.n0, .int .i64 rx.n1, .string rx.t, .slice rx.A rx.an rx.ac, .slice rx.B rx.bn rx.bc], .string kReq, .agg #[.int .i64 1, .int .i64 1, .string ⟨#[]⟩, .slice none 0 0, .slice none 0 0]] (by rfl) rfl rfl (by simp only [List.map_toArray, List.map_cons, List.map_nil]; rfl) ?_
        with_reducible refine (WithC.useT HWC.out (below_then HB8.out HB8.out.size HC9.out)).mono ?_
        rintro e w10 ⟨⟨r10, rfl, hd10⟩, hb10⟩
        refine ⟨_, rfl, ?_⟩
        have HC10 := Aside0.mk (below_then HC9.out HC9.out.size hb10)
        have HD10 : Aside0 (DeepP (OffP P (w.heap.size + 2) gl) w10 (reqS y) r10) := ⟨by rw [HRQ.out] at hd10; exact hd10⟩
        clear hb10 hd10
        refine hK.out _ _ ⟨(HC10.out.cell (World.block_lt_of_cell? w8 _ o0)).trans o0, (HC10.out.cell (World.block_lt_of_cell? w8 _ o1)).trans o1, (HC10.out.cell (World.block_lt_of_cell? w8 _ o2)).trans o2, (HC10.out.cell (World.block_lt_of_cell? w8 _ o3)).trans o3, (HC10.out.cell (World.block_lt_of_cell? w8 _ o4)).trans o4, (HC10.out.cell (World.block_lt_of_cell? w8 _ hkc)).trans hkc, (HC10.out.cell (World.block_lt_of_cell? w8 _ he0)).trans he0, (HC10.out.cell (World.block_lt_of_cell? w8 _ he1)).trans he1, (HC10.out.cell (World.block_lt_of_cell? w8 _ he2)).trans he2, (HC10.out.cell (World.block_lt_of_cell? w8 _ he3)).trans he3, (HC10.out.cell (World.block_lt_of_cell? w8 _ he4)).trans he4⟩ (fun hHeld => ?_)
        clear hK K
        refine norm_ (a' := ?_) ?_ ?_
        rotate_left
        · show Act.put _ (some 33) _ = _
          simp only [Act.put, List.setIfInBounds_toArray, List.set_cons_zero, List.set_cons_succ, i64_w, i32_w]
          rfl
        refine one_ (i := 13) (N := some 34) #[true, true, true, true, true, true, true, true, true, true, true, true, true, true, false] rfl rfl (by kernel_rfl) (by decide) (fun K hK => ?_)
        refine goes_ Try.func14 (by kernel_rfl) rfl #[.agg #[.int .i64 rl.n0, .int .i64 rl.n1, .string rl.t, .slice (some adk) n rl.ac, .slice (some ade) n rl.bc], .string key, .agg #[.int .i64 r10.n0, .int .i64 r10.n1, .string r10.t, .slice r10.A r10.an r10.ac, .slice r10.B r10.bn r10.bc]] (by rfl) rfl rfl (by simp only [List.map_toArray, List.map_cons, List.map_nil]; rfl) ?_
        with_reducible refine (WithC.use HWL.out (below_then HB8.out HB8.out.size HC10.out) HD10.out).mono ?_
        rintro e w11 ⟨⟨r11, rfl, hd11⟩, hb11⟩
        refine ⟨_, rfl, ?_⟩
        have HC11 := Aside0.mk (below_then HC10.out HC10.out.size hb11)
        have HD11 := Aside0.mk hd11
        clear hb11 hd11
        refine hK.out _ _ ⟨(HC11.out.cell (World.block_lt_of_cell? w8 _ o0)).trans o0, (HC11.out.cell (World.block_lt_of_cell? w8 _ o1)).trans o1, (HC11.out.cell (World.block_lt_of_cell? w8 _ o2)).trans o2, (HC11.out.cell (World.block_lt_of_cell? w8 _ o3)).trans o3, (HC11.out.cell (World.block_lt_of_cell? w8 _ o4)).trans o4, (HC11.out.cell (World.block_lt_of_cell? w8 _ hkc)).trans hkc, (HC11.out.cell (World.block_lt_of_cell? w8 _ he0)).trans he0, (HC11.out.cell (World.block_lt_of_cell? w8 _ he1)).trans he1, (HC11.out.cell (World.block_lt_of_cell? w8 _ he2)).trans he2, (HC11.out.cell (World.block_lt_of_cell? w8 _ he3)).trans he3, (HC11.out.cell (World.block_lt_of_cell? w8 _ he4)).trans he4⟩ (fun hHeld => ?_)
        clear hK K
        refine norm_ (a' := ?_) ?_ ?_
        rotate_left
        · show Act.put _ (some 34) _ = _
          simp only [Act.put, List.setIfInBounds_toArray, List.set_cons_zero, List.set_cons_succ, i64_w, i32_w]
          rfl
        refine last_ (i := 14) (N := none) #[true, true, true, true, true, true, true, true, true, true, true, true, true, true, true] rfl rfl (by kernel_rfl) (by decide) (fun K hK => ?_)
        refine store_step (cur := #[.int .i64 rl.n0, .int .i64 rl.n1, .string rl.t, .slice (some adk) n rl.ac, .slice (some ade) n rl.bc]) (e := 25) (g := gl) 25 _ _ (.agg #[.int .i64 r11.n0, .int .i64 r11.n1, .string r11.t, .slice r11.A r11.an r11.ac, .slice r11.B r11.bn r11.bc]) [.int .i64 r11.n0, .int .i64 r11.n1, .string r11.t, .slice r11.A r11.an r11.ac, .slice r11.B r11.bn r11.bc] (by rfl) rfl rfl rfl rfl ((HC11.out.block gl (blk_lt HOB8.out)).trans HOB8.out) rfl (show (Try.prog.info? 25).map (·.size) = some 5 by kernel_rfl) rfl (by simp [Value.oneCell']) ?_
        intro w12 h12 hg12
        have H12 := Aside0.mk h12
        have HG12 := Aside0.mk hg12
        clear h12 hg12
        refine hK.out _ _ ?_
        clear hK K
        refine done_ (by kernel_rfl) ?_
        
        go_wp2
        go_roundw
        case rel =>
          have hsz := HCL.out.size
          have hs8 := HB8.out.size
          have hsc := HC11.out.size
          have hd12 : DeepP (OffP P (w.heap.size + 2) gl) w12 (cS s (i + 1)) r11 := HD11.out.kept (fun k hk hlt' => HG12.out.block k hlt' (fun e => by injection e with e; exact hk.2 e))
          obtain ⟨_, _, _, _, h1, _, _, h2, _, _, _⟩ := hd12.rows
          refine ⟨i + 1, r11, hlt, by go_num, ⟨?_, hd12, ((HCL.out.bel.trans (HB8.out.mono (Nat.le_of_lt hsz))).trans (HC11.out.mono (by omega))).grown HG12.out (by omega) (fun k e => by injection e with e; omega), by have := HG12.out.size; omega⟩⟩
          have := H12.out
          rwa [h1, h2, cS_len, HN4.out, show (cS s (i + 1)).f3.length = n from HN.out.symm] at this
        case measure => first | exact msF hlt | (rw [wk]; exact msF hlt)
    · obtain rfl : i = n := by omega
      have hlt0 : ¬ ((i : Int) < (i : Int)) := Int.lt_irrefl _
      have hre := (HCL.out.bel.block (w.heap.size + 1) (by have := HGL.out; omega)).trans HRE3.out
      obtain ⟨_, -, -, -, hran, -, -, hrbn, -, -, -⟩ := HCL.out.deep.rows
      have hran' : rl.an = i := hran.trans HN.out.symm
      have hrbn' : rl.bn = i := by rw [hrbn, cS_len]; exact HN4.out
      have HVN : Hid (Value.agg #[.int .i64 rl.n0, .int .i64 rl.n1, .string rl.t, .slice rl.A i rl.ac, .slice rl.B i rl.bc] = rl.val) := Lib.hid (val_n hran' hrbn').symm
      have o0 : wb.cell? ⟨gl, 0, none⟩ = some (.int .i64 rl.n0) := (blk_cell HCL.out.box 0).trans rfl
      have o1 : wb.cell? ⟨gl, 1, none⟩ = some (.int .i64 rl.n1) := (blk_cell HCL.out.box 1).trans rfl
      have o2 : wb.cell? ⟨gl, 2, none⟩ = some (.string rl.t) := (blk_cell HCL.out.box 2).trans rfl
      have o3 : wb.cell? ⟨gl, 3, none⟩ = some (.slice rl.A i rl.ac) := (blk_cell HCL.out.box 3).trans rfl
      have o4 : wb.cell? ⟨gl, 4, none⟩ = some (.slice rl.B i rl.bc) := (blk_cell HCL.out.box 4).trans rfl
      have n0 : wb.cell? ⟨w.heap.size + 1, 0, none⟩ = some (.int .i64 0) := (blk_cell hre 0).trans rfl
      have n1 : wb.cell? ⟨w.heap.size + 1, 1, none⟩ = some (.int .i64 0) := (blk_cell hre 1).trans rfl
      have n2 : wb.cell? ⟨w.heap.size + 1, 2, none⟩ = some (.string ⟨#[]⟩) := (blk_cell hre 2).trans rfl
      have n3 : wb.cell? ⟨w.heap.size + 1, 3, none⟩ = some (.slice none 0 0) := (blk_cell hre 3).trans rfl
      have n4 : wb.cell? ⟨w.heap.size + 1, 4, none⟩ = some (.slice none 0 0) := (blk_cell hre 4).trans rfl
      have f0 := blk_frozen hre 0
      have f1 := blk_frozen hre 1
      have f2 := blk_frozen hre 2
      have f3 := blk_frozen hre 3
      have f4 := blk_frozen hre 4
      clear hre hran hrbn hran' hrbn'
      go_wp2
      refine bodyPost_ret (v := .agg #[.int .i64 rl.n0, .int .i64 rl.n1, .string rl.t, .slice rl.A i rl.ac, .slice rl.B i rl.bc]) (by simp [results, Try.results16, go_sem, *]) rfl ?_
      refine ⟨⟨rl, by rw [HVN.out]; rfl, ?_⟩, below5 HBW.out _ (Nat.le_succ _) _ _ _ _ _⟩
      have hde := HCL.out.deep
      rw [← HN4.out, HEND.out] at hde
      exact (hde.kept (fun k hk _ => far5 (by
        have h1 := HPP.out k
        rcases hk.1 with hk | hk
        · have := h1 hk; omega
        · omega) _ _ _ _ _)).imp (fun k hk _ => by
          rcases hk.1 with hk | hk
          · exact .inl hk
          · exact .inr (by omega))
def PartSays (x : SV) (w : World) (e : Ending) (w' : World) : Prop := (∃ (r' : RV) (said : Bool), e = .returned (.tuple #[.agg #[.int .i64 r'.n0, .int .i64 r'.n1, .string r'.t, .slice r'.A r'.an r'.ac, .slice r'.B r'.bn r'.bc], .bool said]) ∧ (said = true → NeedsS x ∧ MadeS (needsS x) w' r'.val)) ∧ Below w.heap.size w w'
set_option maxHeartbeats 4000000 in
set_option maxRecDepth 100000 in
theorem spec_PartNeeds {x : SV} (hf : FineS x) (hw : wt x ≤ 1048576) {v : Value} {w : World} (hv : MadeS x w v) : Calls Try.prog 6 #[v] w (PartSays x w) := by
  obtain ⟨r0, rfl, hd0⟩ := deep_of_made _ x (Nat.le_refl _) hv
  obtain ⟨W0, hW0⟩ : ∃ W0 : World, W0 = (w.alloc (Obj.cells #[.int .i64 r0.n0, .int .i64 r0.n1, .string r0.t, .slice r0.A r0.an r0.ac, .slice r0.B r0.bn r0.bc] 25)).alloc (Obj.cells #[.int .i64 0, .int .i64 0, .string ⟨#[]⟩, .slice none 0 0, .slice none 0 0] 25) := ⟨_, rfl⟩
  have hb0 : Below w.heap.size w W0 := by rw [hW0]; exact ((Below.refl _ _).alloc (Nat.le_refl _) _).alloc (by simp) _
  have HBX : Aside0 (W0.heap[w.heap.size]? = some (.cells #[.int .i64 r0.n0, .int .i64 r0.n1, .string r0.t, .slice r0.A r0.an r0.ac, .slice r0.B r0.bn r0.bc] 25 (0, 0))) := ⟨by rw [hW0]; exact heap_oldI (new_atI rfl)⟩
  have HRE : Aside0 (W0.heap[w.heap.size + 1]? = some (.cells zV 25 (0, 0))) := ⟨by rw [hW0]; exact new_atI (by simp)⟩
  have HS0 : Hid (W0.heap.size = w.heap.size + 2) := Lib.hid (by rw [hW0]; simp)
  have HB0 := Aside0.mk hb0
  have HW0 := Lib.hid hW0
  have HSAY : Hid (Calls Try.prog 15 #[r0.val] W0 fun e w' => (∃ r, e = .returned (.bool r) ∧ (r = true → NeedsS x)) ∧ Below W0.heap.size W0 w') := Lib.hid (law_sayNeeds hf hw (hd0.below_ hb0).parts)
  have HCAN : Hid (∀ W, Below w.heap.size w W → NeedsS x → Calls Try.prog 16 #[.agg #[.int .i64 r0.n0, .int .i64 r0.n1, .string r0.t, .slice r0.A r0.an r0.ac, .slice r0.B r0.bn r0.bc]] W (CanSays (fun k => k < w.heap.size) x W)) := Lib.hid (fun W hW hn => spec_canonNeeds hf hw hn (hd0.below_ hW) (fun k hk => Nat.lt_of_lt_of_le hk hW.size))
  unfold RV.val at HSAY ⊢
  have hx := HBX.out
  have x0 : W0.cell? ⟨w.heap.size, 0, none⟩ = some (.int .i64 r0.n0) := (blk_cell hx 0).trans rfl
  have x1 : W0.cell? ⟨w.heap.size, 1, none⟩ = some (.int .i64 r0.n1) := (blk_cell hx 1).trans rfl
  have x2 : W0.cell? ⟨w.heap.size, 2, none⟩ = some (.string r0.t) := (blk_cell hx 2).trans rfl
  have x3 : W0.cell? ⟨w.heap.size, 3, none⟩ = some (.slice r0.A r0.an r0.ac) := (blk_cell hx 3).trans rfl
  have x4 : W0.cell? ⟨w.heap.size, 4, none⟩ = some (.slice r0.B r0.bn r0.bc) := (blk_cell hx 4).trans rfl
  clear hf hw hv hd0 hb0 hW0 hx
  go_enter Try.func6, Try.ntmps6
  go_upto_region 1 with fail
  rw [← HW0.out]
  go_wp2_with fail
  refine HSAY.out.mono ?_
  clear x0 x1 x2 x3 x4
  rintro e w1 ⟨⟨b, rfl, hbn⟩, hb1⟩
  have HB1 := Aside0.mk (HB0.out.trans (hb1.mono HB0.out.size))
  have hre := blk_below HRE.out hb1
  have hx := blk_below HBX.out hb1
  have HRE1 := Aside0.mk hre
  have HS1 : Hid (w.heap.size + 2 ≤ w1.heap.size) := Lib.hid (by have := HS0.out; have := hb1.size; omega)
  cases b with
  | false =>
    have n0 : w1.cell? ⟨w.heap.size + 1, 0, none⟩ = some (.int .i64 0) := (blk_cell hre 0).trans rfl
    have n1 : w1.cell? ⟨w.heap.size + 1, 1, none⟩ = some (.int .i64 0) := (blk_cell hre 1).trans rfl
    have n2 : w1.cell? ⟨w.heap.size + 1, 2, none⟩ = some (.string ⟨#[]⟩) := (blk_cell hre 2).trans rfl
    have n3 : w1.cell? ⟨w.heap.size + 1, 3, none⟩ = some (.slice none 0 0) := (blk_cell hre 3).trans rfl
    have n4 : w1.cell? ⟨w.heap.size + 1, 4, none⟩ = some (.slice none 0 0) := (blk_cell hre 4).trans rfl
    have f0 := blk_frozen hre 0
    have f1 := blk_frozen hre 1
    have f2 := blk_frozen hre 2
    have f3 := blk_frozen hre 3
    have f4 := blk_frozen hre 4
    clear hre hx hb1 hbn
    go_wp2
    refine bodyPost_ret (v := .tuple #[.agg zV, .bool false]) (by simp [results, Try.results6, go_sem, *]) rfl ?_
    exact ⟨⟨RV.zero, false, rfl, fun h => Bool.noConfusion h⟩, below5 HB1.out _ (Nat.le_succ _) _ _ _ _ _⟩
  | true =>
    have HNS := Lib.hid (hbn (by first | rfl | trivial))
    have x0 : w1.cell? ⟨w.heap.size, 0, none⟩ = some (.int .i64 r0.n0) := (blk_cell hx 0).trans rfl
    have x1 : w1.cell? ⟨w.heap.size, 1, none⟩ = some (.int .i64 r0.n1) := (blk_cell hx 1).trans rfl
    have x2 : w1.cell? ⟨w.heap.size, 2, none⟩ = some (.string r0.t) := (blk_cell hx 2).trans rfl
    have x3 : w1.cell? ⟨w.heap.size, 3, none⟩ = some (.slice r0.A r0.an r0.ac) := (blk_cell hx 3).trans rfl
    have x4 : w1.cell? ⟨w.heap.size, 4, none⟩ = some (.slice r0.B r0.bn r0.bc) := (blk_cell hx 4).trans rfl
    clear hre hx hb1 hbn
    go_wp2_with fail
    refine (HCAN.out w1 HB1.out HNS.out).mono ?_
    clear x0 x1 x2 x3 x4
    rintro e w2 ⟨⟨r2, rfl, hd2⟩, hb2⟩
    have hre := blk_below HRE1.out hb2
    have HB2 := Aside0.mk (HB1.out.trans (hb2.mono HB1.out.size))
    have HD2 := Aside0.mk hd2
    have n0 : w2.cell? ⟨w.heap.size + 1, 0, none⟩ = some (.int .i64 0) := (blk_cell hre 0).trans rfl
    have n1 : w2.cell? ⟨w.heap.size + 1, 1, none⟩ = some (.int .i64 0) := (blk_cell hre 1).trans rfl
    have n2 : w2.cell? ⟨w.heap.size + 1, 2, none⟩ = some (.string ⟨#[]⟩) := (blk_cell hre 2).trans rfl
    have n3 : w2.cell? ⟨w.heap.size + 1, 3, none⟩ = some (.slice none 0 0) := (blk_cell hre 3).trans rfl
    have n4 : w2.cell? ⟨w.heap.size + 1, 4, none⟩ = some (.slice none 0 0) := (blk_cell hre 4).trans rfl
    have f0 := blk_frozen hre 0
    have f1 := blk_frozen hre 1
    have f2 := blk_frozen hre 2
    have f3 := blk_frozen hre 3
    have f4 := blk_frozen hre 4
    clear hre hd2 hb2
    go_wp2
    refine bodyPost_ret (v := .tuple #[.agg #[.int .i64 r2.n0, .int .i64 r2.n1, .string r2.t, .slice r2.A r2.an r2.ac, .slice r2.B r2.bn r2.bc], .bool true]) (by simp [results, Try.results6, go_sem, *]) rfl ?_
    refine ⟨⟨r2, true, rfl, fun _ => ⟨HNS.out, (HD2.out.kept (fun k hk _ => far5 (by have := HS1.out; rcases hk with hk | hk <;> omega) _ _ _ _ _)).parts⟩⟩, below5 HB2.out _ (Nat.le_succ _) _ _ _ _ _⟩
end Go.Proofs.Ytgeamhmenmomhaa.A
