/- The walk of impl.fromAny, of everything that the package may tell. -/
import Derived.Test.YtiamiagjkfioiaaGreatDoorFrom
namespace Go.Proofs.YtiamiagjkfioiaaGreatDoor.A
set_option linter.unusedVariables false
set_option linter.unusedSimpArgs false
set_option linter.unusedSectionVars false
open Go.RowKit Go.Proofs.YtiamiagjkfioiaaGreatDoorW.PrintWords Go.Proofs.YtiamiagjkfioiaaGreatDoorW.PrintLast Go.Proofs.YtiamiagjkfioiaaGreatDoorW.PrintMore Go.Proofs.YtiamiagjkfioiaaGreatDoor.PT Go.Proofs.YtiamiagjkfioiaaGreatDoor.SM Go.Proofs.YtiamiagjkfioiaaGreatDoor.L

/-! ### what an assertion with ok answers -/
section
variable (xT : TypeId) (w : World)
theorem as_bool (b : Bool) : (Instr.typeAssert (.iface 4 (.bool b)) xT 4 true).run Tryz.prog w = .ok (.tuple #[.bool b, .bool true]) w := by simp [Instr.typeAssert, run_underlying Tryz.underlying4, go_sem, Result.andThen]
theorem as_int (i : Int) : (Instr.typeAssert (.iface 3 (.int .i64 i)) xT 3 true).run Tryz.prog w = .ok (.tuple #[.int .i64 i, .bool true]) w := by simp [Instr.typeAssert, run_underlying Tryz.underlying3, go_sem, Result.andThen]
theorem as_string (s : ByteArray) : (Instr.typeAssert (.iface 9 (.string s)) xT 9 true).run Tryz.prog w = .ok (.tuple #[.string s, .bool true]) w := by simp [Instr.typeAssert, run_underlying Tryz.underlying9, go_sem, Result.andThen]
theorem as_list (v : Value) : (Instr.typeAssert (.iface 48 v) xT 48 true).run Tryz.prog w = .ok (.tuple #[v, .bool true]) w := by simp [Instr.typeAssert, run_underlying Tryz.underlying48, go_sem, Result.andThen]
theorem as_map (v : Value) : (Instr.typeAssert (.iface 55 v) xT 55 true).run Tryz.prog w = .ok (.tuple #[v, .bool true]) w := by simp [Instr.typeAssert, run_underlying Tryz.underlying55, go_sem, Result.andThen]
theorem no_bool (t : TypeId) (v : Value) (h : ¬ t = 4) : (Instr.typeAssert (.iface t v) xT 4 true).run Tryz.prog w = .ok (.tuple #[.bool false, .bool false]) w := by
  have hz : (zeroValue 4).run Tryz.prog w = .ok (.bool false) w := by kernel_rfl
  simp [Instr.typeAssert, run_underlying Tryz.underlying4, go_sem, Result.andThen, h, hz]
theorem no_int (t : TypeId) (v : Value) (h : ¬ t = 3) : (Instr.typeAssert (.iface t v) xT 3 true).run Tryz.prog w = .ok (.tuple #[.int .i64 0, .bool false]) w := by
  have hz : (zeroValue 3).run Tryz.prog w = .ok (.int .i64 0) w := by kernel_rfl
  simp [Instr.typeAssert, run_underlying Tryz.underlying3, go_sem, Result.andThen, h, hz]
theorem no_int64 (t : TypeId) (v : Value) (h : ¬ t = 2) : (Instr.typeAssert (.iface t v) xT 2 true).run Tryz.prog w = .ok (.tuple #[.int .i64 0, .bool false]) w := by
  have hz : (zeroValue 2).run Tryz.prog w = .ok (.int .i64 0) w := by kernel_rfl
  simp [Instr.typeAssert, run_underlying Tryz.underlying2, go_sem, Result.andThen, h, hz]
theorem no_uint64 (t : TypeId) (v : Value) (h : ¬ t = 97) : (Instr.typeAssert (.iface t v) xT 97 true).run Tryz.prog w = .ok (.tuple #[.int .u64 0, .bool false]) w := by
  have hz : (zeroValue 97).run Tryz.prog w = .ok (.int .u64 0) w := by kernel_rfl
  simp [Instr.typeAssert, run_underlying Tryz.underlying97, go_sem, Result.andThen, h, hz]
theorem no_string (t : TypeId) (v : Value) (h : ¬ t = 9) : (Instr.typeAssert (.iface t v) xT 9 true).run Tryz.prog w = .ok (.tuple #[.string ⟨#[]⟩, .bool false]) w := by
  have hz : (zeroValue 9).run Tryz.prog w = .ok (.string ⟨#[]⟩) w := by kernel_rfl
  simp [Instr.typeAssert, run_underlying Tryz.underlying9, go_sem, Result.andThen, h, hz]
theorem no_list (t : TypeId) (v : Value) (h : ¬ t = 48) : (Instr.typeAssert (.iface t v) xT 48 true).run Tryz.prog w = .ok (.tuple #[.slice none 0 0, .bool false]) w := by
  have hz : (zeroValue 48).run Tryz.prog w = .ok (.slice none 0 0) w := by kernel_rfl
  simp [Instr.typeAssert, run_underlying Tryz.underlying48, go_sem, Result.andThen, h, hz]
theorem no_map (t : TypeId) (v : Value) (h : ¬ t = 55) : (Instr.typeAssert (.iface t v) xT 55 true).run Tryz.prog w = .ok (.tuple #[.map none, .bool false]) w := by
  have hz : (zeroValue 55).run Tryz.prog w = .ok (.map none) w := by kernel_rfl
  simp [Instr.typeAssert, run_underlying Tryz.underlying55, go_sem, Result.andThen, h, hz]
end
theorem Told.rows {y : IV} {w w' : World} (A3 : Option Addr) (c3 : Nat) (A4 : Option Addr) (c4 : Nat) (h3 : Kd.R Kd.string 9 w' w.heap.size (fun _ => True) (.slice A3 y.f3.length c3) y.f3) (h4 : Kd.R kI 34 w' w.heap.size (fun k => some k ≠ (Value.slice A3 y.f3.length c3).ownBlock) (.slice A4 y.f4.length c4) y.f4) (hb : Below w.heap.size w w') : Told y w (.returned (.tuple #[cellsI y A3 c3 A4 c4, .bool true])) w' := ⟨A3, c3, A4, c4, rfl, h3, h4, hb⟩
theorem told_flat {x : IV} {w w' : World} (h3 : x.f3 = []) (h4 : x.f4 = []) (hb : Below w.heap.size w w') : Told x w (.returned (.tuple #[.agg #[.int .i64 x.f0, .int .i64 x.f1, .string x.f2, .slice none 0 0, .slice none 0 0], .bool true])) w' := by
  obtain ⟨f0, f1, f2, f3, f4⟩ := x
  subst h3 h4
  exact ⟨none, 0, none, 0, rfl, Kd.R_nil _ _ _ _ _, Kd.R_nil _ _ _ _ _, hb⟩
structure FromL (w : World) (wr : World) (A4 : Option Addr) (c4 : Nat) (vs : List IV) : Prop where
  box : wr.heap[w.heap.size + 1]? = some (.cells #[.int .i64 4, .int .i64 0, .string ⟨#[]⟩, .slice none 0 0, .slice A4 vs.length c4] 34 (0, 0))
  res : wr.heap[w.heap.size]? = some (.cells zV 34 (0, 0))
  vals : Kd.R kI 34 wr w.heap.size (fun k => k ≠ w.heap.size ∧ k ≠ w.heap.size + 1) (.slice A4 vs.length c4) vs
  bel : Below w.heap.size w wr
set_option maxHeartbeats 8000000 in
set_option maxRecDepth 100000 in
theorem from_flat (w : World) (v : AV) (y : IV) (h3 : y.f3 = []) (h4 : y.f4 = []) (h : (v = .nil ∧ y = ⟨0, 0, be, [], []⟩) ∨ (∃ b, v = .bool b ∧ y = ⟨1, if b then 1 else 0, be, [], []⟩) ∨ (∃ i, v = .int i ∧ y = ⟨2, i, be, [], []⟩) ∨ (∃ s, v = .text s ∧ y = ⟨3, 0, s, [], []⟩)) : FromC v y w := by
  unfold FromC
  have hb : Below w.heap.size w (w.alloc (Obj.cells zV 34)) := (Below.refl _ _).alloc (Nat.le_refl _) _
  have HB := Aside0.mk hb
  clear hb
  rcases h with ⟨rfl, rfl⟩ | ⟨b, rfl, rfl⟩ | ⟨i, rfl, rfl⟩ | ⟨s, rfl, rfl⟩
  · unfold AV.enc
    go_enter Tryz.func50, Tryz.ntmps50
    go_wp2
    refine bodyPost_ret (v := .tuple #[.agg zV, .bool true]) (by simp [results, Tryz.results50, go_sem, *]) rfl ?_
    exact told_flat (x := ⟨0, 0, be, [], []⟩) rfl rfl ((Below.refl _ _).alloc (Nat.le_refl _) _)
  · have e1 := as_bool 20 (w.alloc (Obj.cells #[.int .i64 0, .int .i64 0, .string ⟨#[]⟩, .slice none 0 0, .slice none 0 0] 34)) b
    unfold AV.enc
    cases b
    · go_enter Tryz.func50, Tryz.ntmps50
      go_wp2
      refine bodyPost_ret (v := .tuple #[.agg #[.int .i64 1, .int .i64 0, .string ⟨#[]⟩, .slice none 0 0, .slice none 0 0], .bool true]) (by simp [results, Tryz.results50, go_sem, *]) rfl ?_
      exact told_flat (x := ⟨1, 0, be, [], []⟩) rfl rfl ((Below.refl _ _).alloc (Nat.le_refl _) _)
    · go_enter Tryz.func50, Tryz.ntmps50
      go_wp2
      refine bodyPost_ret (v := .tuple #[.agg #[.int .i64 1, .int .i64 1, .string ⟨#[]⟩, .slice none 0 0, .slice none 0 0], .bool true]) (by simp [results, Tryz.results50, go_sem, *]) rfl ?_
      exact told_flat (x := ⟨1, 1, be, [], []⟩) rfl rfl ((Below.refl _ _).alloc (Nat.le_refl _) _)
  · have e1 := no_bool 20 (w.alloc (Obj.cells #[.int .i64 0, .int .i64 0, .string ⟨#[]⟩, .slice none 0 0, .slice none 0 0] 34)) 3 (.int .i64 i) (by decide)
    have e2 := as_int 20 (w.alloc (Obj.cells #[.int .i64 0, .int .i64 0, .string ⟨#[]⟩, .slice none 0 0, .slice none 0 0] 34)) i
    unfold AV.enc
    go_enter Tryz.func50, Tryz.ntmps50
    go_wp2
    refine bodyPost_ret (v := .tuple #[.agg #[.int .i64 2, .int .i64 i, .string ⟨#[]⟩, .slice none 0 0, .slice none 0 0], .bool true]) (by simp [results, Tryz.results50, go_sem, *]) rfl ?_
    exact told_flat (x := ⟨2, i, be, [], []⟩) rfl rfl ((Below.refl _ _).alloc (Nat.le_refl _) _)
  · have e1 := no_bool 20 (w.alloc (Obj.cells #[.int .i64 0, .int .i64 0, .string ⟨#[]⟩, .slice none 0 0, .slice none 0 0] 34)) 9 (.string s) (by decide)
    have e2 := no_int 20 (w.alloc (Obj.cells #[.int .i64 0, .int .i64 0, .string ⟨#[]⟩, .slice none 0 0, .slice none 0 0] 34)) 9 (.string s) (by decide)
    have e3 := no_int64 20 (w.alloc (Obj.cells #[.int .i64 0, .int .i64 0, .string ⟨#[]⟩, .slice none 0 0, .slice none 0 0] 34)) 9 (.string s) (by decide)
    have e4 := no_uint64 20 (w.alloc (Obj.cells #[.int .i64 0, .int .i64 0, .string ⟨#[]⟩, .slice none 0 0, .slice none 0 0] 34)) 9 (.string s) (by decide)
    have e5 := as_string 20 (w.alloc (Obj.cells #[.int .i64 0, .int .i64 0, .string ⟨#[]⟩, .slice none 0 0, .slice none 0 0] 34)) s
    unfold AV.enc
    go_enter Tryz.func50, Tryz.ntmps50
    go_wp2
    refine bodyPost_ret (v := .tuple #[.agg #[.int .i64 3, .int .i64 0, .string s, .slice none 0 0, .slice none 0 0], .bool true]) (by simp [results, Tryz.results50, go_sem, *]) rfl ?_
    exact told_flat (x := ⟨3, 0, s, [], []⟩) rfl rfl ((Below.refl _ _).alloc (Nat.le_refl _) _)
set_option maxHeartbeats 8000000 in
set_option maxRecDepth 100000 in
theorem from_map (hsort : SortC) (w : World) (b : Nat) (m : List (ByteArray × AV)) (ks : List ByteArray) (ys : List IV) (hm : TMap w b AV.enc m) (hb : m.length ≤ 1099511627776) (hk : ks = Ord.sortS (keys m)) (hl : ys.length = ks.length)
    (IH : ∀ (i : Nat) (h1 : i < ks.length) (h2 : i < ys.length) (v : AV), SM.look m (ks[i]'h1) = some v → ∀ W, Below w.heap.size w W → FromC v (ys[i]'h2) W) : FromC (.map b) ⟨5, 0, be, ks, ys⟩ w := by
  unfold FromC
  have hb0 : Below w.heap.size w (w.alloc (Obj.cells zV 34)) := (Below.refl _ _).alloc (Nat.le_refl _) _
  have HC := Lib.hid (impl_fromMap hsort b m ks ys (w.alloc (Obj.cells zV 34)) (hm.below hb0) hb hk hl (fun i h1 h2 v hv W hW => IH i h1 h2 v hv W (hb0.trans (hW.mono (by simp)))))
  have HB0 := Aside0.mk hb0
  clear hm hb hk hl IH hb0
  have e1 := no_bool 20 (w.alloc (Obj.cells #[.int .i64 0, .int .i64 0, .string ⟨#[]⟩, .slice none 0 0, .slice none 0 0] 34)) 55 (.map (some b)) (by decide)
  have e2 := no_int 20 (w.alloc (Obj.cells #[.int .i64 0, .int .i64 0, .string ⟨#[]⟩, .slice none 0 0, .slice none 0 0] 34)) 55 (.map (some b)) (by decide)
  have e3 := no_int64 20 (w.alloc (Obj.cells #[.int .i64 0, .int .i64 0, .string ⟨#[]⟩, .slice none 0 0, .slice none 0 0] 34)) 55 (.map (some b)) (by decide)
  have e4 := no_uint64 20 (w.alloc (Obj.cells #[.int .i64 0, .int .i64 0, .string ⟨#[]⟩, .slice none 0 0, .slice none 0 0] 34)) 55 (.map (some b)) (by decide)
  have e5 := no_string 20 (w.alloc (Obj.cells #[.int .i64 0, .int .i64 0, .string ⟨#[]⟩, .slice none 0 0, .slice none 0 0] 34)) 55 (.map (some b)) (by decide)
  have e6 := no_list 20 (w.alloc (Obj.cells #[.int .i64 0, .int .i64 0, .string ⟨#[]⟩, .slice none 0 0, .slice none 0 0] 34)) 55 (.map (some b)) (by decide)
  have e7 := as_map 20 (w.alloc (Obj.cells #[.int .i64 0, .int .i64 0, .string ⟨#[]⟩, .slice none 0 0, .slice none 0 0] 34)) (.map (some b))
  unfold AV.enc
  go_enter Tryz.func50, Tryz.ntmps50
  go_wp2_with fail
  refine HC.out.mono ?_
  clear e1 e2 e3 e4 e5 e6 e7
  rintro e w2 ⟨A3, c3, A4, c4, rfl, h3, h4, hbb⟩
  have hre : w2.heap[w.heap.size]? = some (.cells zV 34 (0, 0)) := (hbb.block w.heap.size (by simp)).trans (new_atI rfl)
  have H3 := Aside0.mk h3
  have H4 := Aside0.mk h4
  have HBB := Aside0.mk (below_then HB0.out HB0.out.size hbb)
  have hs1 : (w.alloc (Obj.cells zV 34)).heap.size = w.heap.size + 1 := by simp
  have HS1 := Lib.hid hs1
  clear h3 h4 hbb hs1
  have n0 : w2.cell? ⟨w.heap.size, 0, none⟩ = some (.int .i64 0) := (blk_cell hre 0).trans rfl
  have n1 : w2.cell? ⟨w.heap.size, 1, none⟩ = some (.int .i64 0) := (blk_cell hre 1).trans rfl
  have n2 : w2.cell? ⟨w.heap.size, 2, none⟩ = some (.string ⟨#[]⟩) := (blk_cell hre 2).trans rfl
  have n3 : w2.cell? ⟨w.heap.size, 3, none⟩ = some (.slice none 0 0) := (blk_cell hre 3).trans rfl
  have n4 : w2.cell? ⟨w.heap.size, 4, none⟩ = some (.slice none 0 0) := (blk_cell hre 4).trans rfl
  have f0 := blk_frozen hre 0
  have f1 := blk_frozen hre 1
  have f2 := blk_frozen hre 2
  have f3 := blk_frozen hre 3
  have f4 := blk_frozen hre 4
  clear hre
  unfold cellsI
  go_wp2
  refine bodyPost_ret (v := .tuple #[.agg #[.int .i64 5, .int .i64 0, .string ⟨#[]⟩, .slice A3 ks.length c3, .slice A4 ys.length c4], .bool true]) (by simp [results, Tryz.results50, go_sem, *]) rfl ?_
  refine Told.rows (y := ⟨5, 0, be, ks, ys⟩) A3 c3 A4 c4 ?_ ?_ (below5 HBB.out _ (Nat.le_refl _) _ _ _ _ _)
  · exact Kd.R_mono (Kd.R_lower (R_far5 (Kd.R_bound H3.out) w.heap.size (fun k hk e => by have h1 := hk.2.1; rw [HS1.out, e] at h1; exact Nat.not_succ_le_self _ h1) _ _ _ _ _) (by rw [HS1.out]; exact Nat.le_succ _)) (fun _ _ => trivial)
  · exact Kd.R_mono (Kd.R_lower (R_far5 (Kd.R_bound H4.out) w.heap.size (fun k hk e => by have h1 := hk.2.1; rw [HS1.out, e] at h1; exact Nat.not_succ_le_self _ h1) _ _ _ _ _) (by rw [HS1.out]; exact Nat.le_succ _)) (fun _ h => h.1)
set_option maxHeartbeats 8000000 in
set_option maxRecDepth 100000 in
theorem from_list (w : World) (A : Option Addr) (n c : Nat) (vs : List AV) (ys : List IV) (hn : n = vs.length) (hl : vs.length = ys.length) (hbd : vs.length ≤ 1099511627776) (hr : kA.C w A vs.length vs)
    (IH : ∀ (i : Nat) (h1 : i < vs.length) (h2 : i < ys.length), ∀ W, Below w.heap.size w W → FromC (vs[i]'h1) (ys[i]'h2) W) : FromC (.sl A n c) ⟨4, 0, be, [], ys⟩ w := by
  unfold FromC
  have HN := Lib.hid hn
  have HL := Lib.hid hl
  have HBD := Lib.hid hbd
  rw [← hn] at hr
  have HR := Aside0.mk hr
  have HIH := Lib.hid IH
  clear hn hl hbd hr IH
  have e1 := no_bool 20 (w.alloc (Obj.cells #[.int .i64 0, .int .i64 0, .string ⟨#[]⟩, .slice none 0 0, .slice none 0 0] 34)) 48 (.slice A n c) (by decide)
  have e2 := no_int 20 (w.alloc (Obj.cells #[.int .i64 0, .int .i64 0, .string ⟨#[]⟩, .slice none 0 0, .slice none 0 0] 34)) 48 (.slice A n c) (by decide)
  have e3 := no_int64 20 (w.alloc (Obj.cells #[.int .i64 0, .int .i64 0, .string ⟨#[]⟩, .slice none 0 0, .slice none 0 0] 34)) 48 (.slice A n c) (by decide)
  have e4 := no_uint64 20 (w.alloc (Obj.cells #[.int .i64 0, .int .i64 0, .string ⟨#[]⟩, .slice none 0 0, .slice none 0 0] 34)) 48 (.slice A n c) (by decide)
  have e5 := no_string 20 (w.alloc (Obj.cells #[.int .i64 0, .int .i64 0, .string ⟨#[]⟩, .slice none 0 0, .slice none 0 0] 34)) 48 (.slice A n c) (by decide)
  have e6 := as_list 20 (w.alloc (Obj.cells #[.int .i64 0, .int .i64 0, .string ⟨#[]⟩, .slice none 0 0, .slice none 0 0] 34)) (.slice A n c)
  unfold AV.enc
  obtain ⟨W0, hW0⟩ : ∃ W0 : World, W0 = (w.alloc (Obj.cells #[.int .i64 0, .int .i64 0, .string ⟨#[]⟩, .slice none 0 0, .slice none 0 0] 34)).alloc (Obj.cells #[.int .i64 4, .int .i64 0, .string ⟨#[]⟩, .slice none 0 0, .slice none 0 0] 34) := ⟨_, rfl⟩
  have HRES0 : Aside0 (W0.heap[w.heap.size]? = some (.cells zV 34 (0, 0))) := ⟨by rw [hW0]; exact heap_oldI (new_atI rfl)⟩
  have HBOX0 : Aside0 (W0.heap[w.heap.size + 1]? = some (.cells #[.int .i64 4, .int .i64 0, .string ⟨#[]⟩, .slice none 0 0, .slice none 0 0] 34 (0, 0))) := ⟨by rw [hW0]; exact new_atI (by simp)⟩
  have HB0 : Aside0 (Below w.heap.size w W0) := ⟨by rw [hW0]; exact ((Below.refl _ _).alloc (Nat.le_refl _) _).alloc (by simp) _⟩
  have HW0 := Lib.hid hW0
  clear hW0
  go_enter Tryz.func50, Tryz.ntmps50
  go_wp2
  rw [← HW0.out]
  clear e1 e2 e3 e4 e5 e6
  go_loopw [52] (fun v52 wr => ∃ (i : Nat) (zs : List IV) (A4 : Option Addr) (c4 : Nat), i ≤ n ∧ v52 = .int .i64 i ∧ Hid (zs = ys.take i) ∧ Aside0 (FromL w wr A4 c4 zs)) (fun v52 _ => n - (intOf v52).toNat)
  case atStart => exact ⟨0, [], none, 0, Nat.zero_le _, rfl, Lib.hid rfl, ⟨HBOX0.out, HRES0.out, Kd.R_nil _ _ _ _ _, HB0.out⟩⟩
  case round =>
    obtain ⟨i, zs, A4, c4, hi, rfl, HVS, HF⟩ := hrel
    by_cases hlt : i < n
    · have i0 : (0 : Int) ≤ (i : Int) := Int.natCast_nonneg _
      have i1 : (i : Int) < (n : Int) := Int.ofNat_lt.2 hlt
      obtain ⟨adk, eA, hk0⟩ := at_A HR.out i hlt
      replace hk0 := (HF.out.bel.cell (World.block_lt_of_cell? w _ hk0)).trans hk0
      have hiv : i < vs.length := by rw [← HN.out]; exact hlt
      have hiy : i < ys.length := by rw [← HL.out]; exact hiv
      obtain ⟨v, hv⟩ : ∃ v, v = vs.getD i .nil := ⟨_, rfl⟩
      obtain ⟨y, hy⟩ : ∃ y, y = ys[i]'hiy := ⟨_, rfl⟩
      rw [← hv] at hk0
      have hv2 : v = vs[i]'hiv := by rw [hv]; simp [List.getD_eq_getElem?_getD, List.getElem?_eq_getElem hiv]
      have HC : Hid (∀ W, Below w.heap.size w W → FromC v y W) := Lib.hid (by rw [hy, hv2]; exact HIH.out i hiv hiy)
      have hvl : zs.length = i := by rw [HVS.out, List.length_take]; omega
      have HVL := Lib.hid hvl
      have HV1 : Hid (ys.take (i + 1) = zs ++ [y]) := Lib.hid (by rw [HVS.out, List.take_succ_eq_append_getElem hiy, hy])
      have wk := wrF hlt (by rw [HN.out]; exact HBD.out)
      have hszr : w.heap.size ≤ wr.heap.size := HF.out.bel.size
      have hvb : (zs.length + 1) * 80 ≤ 140737488355328 := by have := HVL.out; have := HN.out; have := HBD.out; omega
      have HVB := Lib.hid hvb
      subst eA
      clear hv hv2 hy hvl hiy hiv hvb
      go_upto_region 31 with (first
        | (go_at_call 50; refine (FromC.use (HC.out wr HF.out.bel)).mono ?_; rintro e w4 ⟨B3, d3, B4, d4, rfl, hq3, hq4, hq⟩; obtain ⟨W5, hW5⟩ : ∃ W5 : World, W5 = w4.alloc (Obj.cells #[.int .i64 y.f0, .int .i64 y.f1, .string y.f2, .slice B3 y.f3.length d3, .slice B4 y.f4.length d4] 34) := ⟨_, rfl⟩; have Q3 := Aside0.mk hq3; have Q4 := Aside0.mk hq4; have QB := Aside0.mk hq; have HW5 := Lib.hid hW5; clear hq3 hq4 hq hW5))
      rw [← HW5.out]
      have HB5 : Aside0 (Below wr.heap.size wr W5) := ⟨by rw [HW5.out]; exact QB.out.alloc QB.out.size _⟩
      have BX5 := Aside0.mk (blk_below HF.out.box HB5.out)
      have RS5 := Aside0.mk (blk_below HF.out.res HB5.out)
      have hb5 : W5.cell? ⟨w.heap.size + 1, 4, none⟩ = some (.slice A4 zs.length c4) := (blk_cell BX5.out 4).trans rfl
      have h85 : W5.heap[w4.heap.size]? = some (.cells #[.int .i64 y.f0, .int .i64 y.f1, .string y.f2, .slice B3 y.f3.length d3, .slice B4 y.f4.length d4] 34 (0, 0)) := by rw [HW5.out]; exact new_atI rfl
      have g0 : W5.cell? ⟨w4.heap.size, 0, none⟩ = some (.int .i64 y.f0) := (blk_cell h85 0).trans rfl
      have g1 : W5.cell? ⟨w4.heap.size, 1, none⟩ = some (.int .i64 y.f1) := (blk_cell h85 1).trans rfl
      have g2 : W5.cell? ⟨w4.heap.size, 2, none⟩ = some (.string y.f2) := (blk_cell h85 2).trans rfl
      have g3 : W5.cell? ⟨w4.heap.size, 3, none⟩ = some (.slice B3 y.f3.length d3) := (blk_cell h85 3).trans rfl
      have g4 : W5.cell? ⟨w4.heap.size, 4, none⟩ = some (.slice B4 y.f4.length d4) := (blk_cell h85 4).trans rfl
      have VAL5 := Aside0.mk (Kd.R_below HF.out.vals HB5.out)
      have hbR : w.heap.size + 2 ≤ wr.heap.size := blk_lt HF.out.box
      have hfr : ∀ k, wr.heap.size ≤ k → (k ≠ w.heap.size ∧ k ≠ w.heap.size + 1) ∧ some k ≠ (Value.slice A4 zs.length c4).ownBlock := fun k hk => ⟨⟨by omega, by omega⟩, fun e => by have := Kd.R_lt HF.out.vals k e.symm; omega⟩
      have HFR := Lib.hid hfr
      have hs5 : wr.heap.size ≤ W5.heap.size := HB5.out.size
      have P3 : Aside0 (Kd.R Kd.string 9 W5 w.heap.size (fun k => (k ≠ w.heap.size ∧ k ≠ w.heap.size + 1) ∧ some k ≠ (Value.slice A4 zs.length c4).ownBlock) (.slice B3 y.f3.length d3) y.f3) := ⟨by rw [HW5.out]; exact Kd.R_alloc (Kd.R_lower (Kd.R_mono (Kd.R_bound Q3.out) (fun k hk => HFR.out k hk.2.1)) hszr) _⟩
      have P4 : Aside0 (Kd.R kI 34 W5 w.heap.size (fun k => (k ≠ w.heap.size ∧ k ≠ w.heap.size + 1) ∧ some k ≠ (Value.slice A4 zs.length c4).ownBlock) (.slice B4 y.f4.length d4) y.f4) := ⟨by rw [HW5.out]; exact Kd.R_alloc (Kd.R_lower (Kd.R_mono (Kd.R_bound Q4.out) (fun k hk => HFR.out k hk.2.1)) hszr) _⟩
      have HBW5 := Aside0.mk (below_then HF.out.bel HF.out.bel.size HB5.out)
      clear hfr h85
      go_wp2_with (at_builtin; refine Kd.R_append kI (w0 := w) w.heap.size rfl _ _ 32 34 (.agg zV) 80 rfl Tryz.underlying32 infoIV rfl (show 0 < 5 by decide) (by decide) (.slice A4 zs.length c4) zs y [.int .i64 y.f0, .int .i64 y.f1, .string y.f2, .slice B3 y.f3.length d3, .slice B4 y.f4.length d4] (fun k => k ≠ w.heap.size ∧ k ≠ w.heap.size + 1) (fun k => (k ≠ w.heap.size ∧ k ≠ w.heap.size + 1) ∧ some k ≠ (Value.slice A4 zs.length c4).ownBlock) rfl rfl ?hp (fun _ h => h) ?hF ?hO ?hB ?hS ?hL ?_; (case hp => exact k34_mkM _ _ _ y P3.out P4.out); (case hF => exact fun k hk => (HFR.out k (Nat.le_trans hs5 hk)).1); (case hO => exact VAL5.out); (case hB => exact HBW5.out); (case hS => exact Nat.le_trans hszr hs5); (case hL => exact HVB.out); intro v6 w6 ho6 hb6 hg6 hat6; obtain ⟨A6, c6, eo⟩ := Kd.R_slice ho6; subst eo; rw [List.length_append, List.length_singleton] at ho6; have HO6 := Aside0.mk ho6; have HB6 := Aside0.mk hb6; have BX6 := Aside0.mk (blk_kept BX5.out hg6 (fun e => (VAL5.out.1 _ e.symm).2 rfl)); have RS6 := Aside0.mk (blk_kept RS5.out hg6 (fun e => (VAL5.out.1 _ e.symm).1 rfl)); have hb6 : w6.cell? ⟨w.heap.size + 1, 4, none⟩ = some (.slice A4 zs.length c4) := (blk_cell BX6.out 4).trans rfl; have hfr6 := blk_frozen BX6.out 4; clear ho6 hg6 hat6)
      go_roundw
      case rel =>
        have e1 : (zs ++ [y]).length = zs.length + 1 := by simp
        refine ⟨i + 1, zs ++ [y], A6, c6, hlt, by go_num, Lib.hid HV1.out.symm, ⟨?_, ?_, ?_, ?_⟩⟩
        · rw [e1]; exact blk_put BX6.out 4 _ rfl
        · exact (Below.heap_setCell _ _ _ _ (by show w.heap.size ≠ w.heap.size + 1; omega)).trans RS6.out
        · rw [e1]; exact Kd.R_far (p := ⟨w.heap.size + 1, 4, none⟩) HO6.out (fun k hk => hk.2) _
        · exact HB6.out.setCell (Nat.le_succ _) _
      case measure => first | exact msF hlt | (rw [wk]; exact msF hlt)
    · have hin : i = n := by omega
      subst hin
      have hvy : zs = ys := by rw [HVS.out, HN.out, HL.out, List.take_length]
      have m0 : wr.cell? ⟨w.heap.size + 1, 0, none⟩ = some (.int .i64 4) := (blk_cell HF.out.box 0).trans rfl
      have m1 : wr.cell? ⟨w.heap.size + 1, 1, none⟩ = some (.int .i64 0) := (blk_cell HF.out.box 1).trans rfl
      have m2 : wr.cell? ⟨w.heap.size + 1, 2, none⟩ = some (.string ⟨#[]⟩) := (blk_cell HF.out.box 2).trans rfl
      have m3 : wr.cell? ⟨w.heap.size + 1, 3, none⟩ = some (.slice none 0 0) := (blk_cell HF.out.box 3).trans rfl
      have m4 : wr.cell? ⟨w.heap.size + 1, 4, none⟩ = some (.slice A4 zs.length c4) := (blk_cell HF.out.box 4).trans rfl
      have n0 : wr.cell? ⟨w.heap.size, 0, none⟩ = some (.int .i64 0) := (blk_cell HF.out.res 0).trans rfl
      have n1 : wr.cell? ⟨w.heap.size, 1, none⟩ = some (.int .i64 0) := (blk_cell HF.out.res 1).trans rfl
      have n2 : wr.cell? ⟨w.heap.size, 2, none⟩ = some (.string ⟨#[]⟩) := (blk_cell HF.out.res 2).trans rfl
      have n3 : wr.cell? ⟨w.heap.size, 3, none⟩ = some (.slice none 0 0) := (blk_cell HF.out.res 3).trans rfl
      have n4 : wr.cell? ⟨w.heap.size, 4, none⟩ = some (.slice none 0 0) := (blk_cell HF.out.res 4).trans rfl
      have f0 := blk_frozen HF.out.res 0
      have f1 := blk_frozen HF.out.res 1
      have f2 := blk_frozen HF.out.res 2
      have f3 := blk_frozen HF.out.res 3
      have f4 := blk_frozen HF.out.res 4
      have HVY := Lib.hid hvy
      clear hvy
      go_wp2
      refine bodyPost_ret (v := .tuple #[.agg #[.int .i64 4, .int .i64 0, .string ⟨#[]⟩, .slice none 0 0, .slice A4 zs.length c4], .bool true]) (by simp [results, Tryz.results50, go_sem, *]) rfl ?_
      rw [← HVY.out]
      refine Told.rows (y := ⟨4, 0, be, [], zs⟩) none 0 A4 c4 (Kd.R_nil _ _ _ _ _) ?_ (below5 HF.out.bel _ (Nat.le_refl _) _ _ _ _ _)
      exact Kd.R_mono (R_far5 HF.out.vals w.heap.size (fun k hk => hk.1) _ _ _ _ _) (fun k _ e => by cases e)
theorem impl_fromAny (hsort : SortC) {w : World} {v : AV} {y : IV} (h : FromIs w v y) : ∀ W, Below w.heap.size w W → FromC v y W := by
  induction h with
  | nil => exact fun W _ => from_flat W _ _ rfl rfl (.inl ⟨rfl, rfl⟩)
  | bool b => exact fun W _ => from_flat W _ _ rfl rfl (.inr (.inl ⟨b, rfl, rfl⟩))
  | int i => exact fun W _ => from_flat W _ _ rfl rfl (.inr (.inr (.inl ⟨i, rfl, rfl⟩)))
  | text s => exact fun W _ => from_flat W _ _ rfl rfl (.inr (.inr (.inr ⟨s, rfl, rfl⟩)))
  | list hl hc hb hr he ih => exact fun W hW => from_list W _ _ _ _ _ rfl hl hb (Kd.C_below hr hW) (fun i h1 h2 V hV => ih i h1 h2 V (hW.trans (hV.mono hW.size)))
  | map hm hb hk hl he ih => exact fun W hW => from_map hsort W _ _ _ _ (hm.below hW) hb hk hl (fun i h1 h2 v hv V hV => ih i h1 h2 v hv V (hW.trans (hV.mono hW.size)))
end Go.Proofs.YtiamiagjkfioiaaGreatDoor.A
