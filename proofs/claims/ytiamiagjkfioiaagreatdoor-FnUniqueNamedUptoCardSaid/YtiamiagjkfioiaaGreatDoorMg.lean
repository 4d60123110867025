/- The walk of spec.M, of any operands. -/
import Derived.Test.YtiamiagjkfioiaaGreatDoorWithL
namespace Go.Proofs.YtiamiagjkfioiaaGreatDoor.A
set_option linter.unusedVariables false
set_option linter.unusedSimpArgs false
set_option linter.unusedSectionVars false
open Go.RowKit Go.Proofs.YtiamiagjkfioiaaGreatDoorW.PrintWords Go.Proofs.YtiamiagjkfioiaaGreatDoorW.PrintLast Go.Proofs.YtiamiagjkfioiaaGreatDoorW.PrintMore Go.Proofs.YtiamiagjkfioiaaGreatDoor.PT Go.Proofs.YtiamiagjkfioiaaGreatDoor.L

def MMq : List (ByteArray × RV) → List ByteArray × List RV := fun ps => ps.foldl (fun (q : List ByteArray × List RV) p => (withKs p.1 q.1, withVs p.1 q.1 q.2 p.2)) ([], [])
theorem MMq_snoc (ps : List (ByteArray × RV)) (p : ByteArray × RV) : MMq (ps ++ [p]) = (withKs p.1 (MMq ps).1, withVs p.1 (MMq ps).1 (MMq ps).2 p.2) := by unfold MMq; rw [List.foldl_append]; rfl
theorem MMq_take (ps : List (ByteArray × RV)) (k : Nat) (h : k < ps.length) : MMq (ps.take (k + 1)) = (withKs (ps[k]'h).1 (MMq (ps.take k)).1, withVs (ps[k]'h).1 (MMq (ps.take k)).1 (MMq (ps.take k)).2 (ps[k]'h).2) := by
  rw [List.take_succ_eq_append_getElem h, MMq_snoc]
theorem MMq_len (ps : List (ByteArray × RV)) : ∀ k, k ≤ ps.length → (MMq (ps.take k)).1.length ≤ k ∧ (MMq (ps.take k)).2.length = (MMq (ps.take k)).1.length
  | 0, _ => by simp [MMq]
  | k + 1, h => by
    obtain ⟨h1, h2⟩ := MMq_len ps k (by omega)
    rw [MMq_take ps k (by omega)]
    exact ⟨Nat.le_trans (withKs_len _ _) (Nat.succ_le_succ h1), withVs_len _ _ _ _ h2⟩

theorem assertT_string (s : ByteArray) (xT : TypeId) (w : World) : (Instr.typeAssert (.iface 9 (.string s)) xT 9 false).run Tryz.prog w = .ok (.string s) w := by
  simp [Instr.typeAssert, run_underlying Tryz.underlying9, go_sem, Result.andThen]
theorem assertT_val (v : Value) (xT : TypeId) (w : World) : (Instr.typeAssert (.iface 26 v) xT 26 false).run Tryz.prog w = .ok v w := by
  simp [Instr.typeAssert, run_underlying Tryz.underlying26, go_sem, Result.andThen]

theorem msJ {n j : Nat} (h : j + 1 < n) : n - (intOf (.int .i64 ((j + 2 : Nat) : Int))).toNat < n - (intOf (.int .i64 (j : Int))).toNat := by simp only [intOf, Int.toNat_natCast]; omega
theorem dblJ {j k : Nat} (h : j = 2 * k) : j + 2 = 2 * (k + 1) := by omega
theorem ltA {a b c : Nat} (h : a + 3 ≤ b) (h2 : b ≤ c) : a < c := by omega
theorem ltB {a b : Nat} (h : a + 3 ≤ b) : a < b := by omega
theorem ltC {j k n m : Nat} (h : j = 2 * k) (hn : n = 2 * m) (hk : k < m) : j + 1 < n := by omega
theorem ltD {a b : Nat} (h : a + 3 ≤ b) (e : a + 1 + 1 = b) : False := by omega
theorem leK {a k : Nat} {m : Nat} (h : a ≤ k) (hk : k ≤ m) (hm : m ≤ 1000000) : a ≤ 1099511627776 := by omega
theorem wrJ {j j' : Nat} (h : j' = j + 1) (hb : j + 2 ≤ 2000002) : wrap64 ((j : Int) + 1) = (j' : Int) := by unfold wrap64; omega
theorem wrK {j : Nat} (hb : j + 2 ≤ 2000002) : wrap64 ((j : Int) + 2) = ((j + 2 : Nat) : Int) := by unfold wrap64; omega
def MRel (w : World) (ps : List (ByteArray × RV)) (k : Nat) (wr : World) : Prop := ∃ A c A' c', wr.heap[w.heap.size + 1 + 1]? = some (.cells #[.int .i64 5, .int .i64 0, .string ⟨#[]⟩, .slice A (MMq (ps.take k)).1.length c, .slice A' (MMq (ps.take k)).2.length c'] 26 (0, 0)) ∧
  wr.heap[w.heap.size]? = some (.cells #[.int .i64 0, .int .i64 0, .string ⟨#[]⟩, .slice none 0 0, .slice none 0 0] 26 (0, 0)) ∧ (MMq (ps.take k)).1.length ≤ c ∧ Kd.C Kd.string wr A (MMq (ps.take k)).1.length (MMq (ps.take k)).1 ∧ (MMq (ps.take k)).2.length ≤ c' ∧ Kd.C kR wr A' (MMq (ps.take k)).2.length (MMq (ps.take k)).2 ∧
  Fr (w.heap.size + 3) A ∧ Fr (w.heap.size + 3) A' ∧ Below w.heap.size w wr ∧ w.heap.size + 3 ≤ wr.heap.size

set_option maxHeartbeats 4000000 in
set_option maxRecDepth 100000 in
theorem spec_M (ps : List (ByteArray × RV)) (ad : Addr) (n : Nat) (w : World) (hp : ∀ j (hj : j < ps.length), w.cell? (ad.add (2 * j)) = some (.iface 9 (.string (ps[j]'hj).1)) ∧ w.cell? (ad.add (2 * j + 1)) = some (.iface 26 (ps[j]'hj).2.val)) (hn : n = 2 * ps.length) (hb : ps.length ≤ 1000000) :
    Calls Tryz.prog 9 #[.slice (some ad) n n] w (WithSays w (MMq ps).1 (MMq ps).2) := by
  have HP := Lib.hid hp
  have HN := Lib.hid hn
  have HPB := Lib.hid hb
  have hn2 : n ≤ 2000000 := by omega
  clear hp hn hb
  go_enter Tryz.func9, Tryz.ntmps9
  go_wp2_with fail
  refine (spec_Empty _).mono ?_
  rintro e w1 ⟨rfl, rfl⟩
  go_wp2_with fail
  go_loopw [4] (fun i wr => ∃ k j : Nat, k ≤ ps.length ∧ Hid (j = 2 * k) ∧ i = .int .i64 (j : Int) ∧ Aside0 (MRel w ps k wr)) (fun i _ => n - (intOf i).toNat)
  case atStart =>
    refine ⟨0, 0, Nat.zero_le _, Lib.hid rfl, rfl, ⟨none, 0, none, 0, ?_, ?_, Nat.le_refl _, C_nil _ _ _, Nat.le_refl _, C_nil _ _ _, Fr.none _, Fr.none _, ?_, ?_⟩⟩
    · exact new_at (by simp)
    · exact heap_old (heap_old (new_at rfl))
    · exact (((Below.refl _ _).alloc (Nat.le_refl _) _).alloc (by simp) _).alloc (by simp; omega) _
    · simp
  case round =>
    obtain ⟨k, j, hk, HJ, rfl, HM⟩ := hrel
    obtain ⟨A, c, A', c', hbox, hres, hc3, hC3, hc4, hC4, hf3, hf4, hbl, hsz⟩ := HM.out
    have m0 : wr.cell? ⟨w.heap.size + 1 + 1, 0, none⟩ = some (.int .i64 5) := by simp [World.cell?, hbox]
    have m1 : wr.cell? ⟨w.heap.size + 1 + 1, 1, none⟩ = some (.int .i64 0) := by simp [World.cell?, hbox]
    have m2 : wr.cell? ⟨w.heap.size + 1 + 1, 2, none⟩ = some (.string ⟨#[]⟩) := by simp [World.cell?, hbox]
    have m3 : wr.cell? ⟨w.heap.size + 1 + 1, 3, none⟩ = some (.slice A (MMq (ps.take k)).1.length c) := by simp [World.cell?, hbox]
    have m4 : wr.cell? ⟨w.heap.size + 1 + 1, 4, none⟩ = some (.slice A' (MMq (ps.take k)).2.length c') := by simp [World.cell?, hbox]
    obtain ⟨lk, lv⟩ := MMq_len ps k hk
    obtain ⟨ks, hks⟩ : ∃ ks, ks = (MMq (ps.take k)).1 := ⟨_, rfl⟩
    obtain ⟨vs, hvs⟩ : ∃ vs, vs = (MMq (ps.take k)).2 := ⟨_, rfl⟩
    rw [← hks] at hbox hc3 hC3 m3 lk lv
    rw [← hvs] at hbox hc4 hC4 m4 lv
    have HBOX := Aside0.mk hbox
    have HRES := Aside0.mk hres
    have HC3 := Aside0.mk hC3
    have HC4 := Aside0.mk hC4
    have HF3 := Aside0.mk hf3
    have HF4 := Aside0.mk hf4
    have HBL := Aside0.mk hbl
    have HKS := Lib.hid hks
    have HVS := Lib.hid hvs
    have HLK := Lib.hid lk
    have HLV := Lib.hid lv
    clear hbox hres hC3 hC4 hf3 hf4 hbl hks hvs lk lv HM
    by_cases hlt : k < ps.length
    · obtain ⟨o0, o1⟩ := HP.out k hlt
      obtain ⟨key, hkey⟩ : ∃ key, key = (ps[k]'hlt).1 := ⟨_, rfl⟩
      obtain ⟨x, hx⟩ : ∃ x, x = (ps[k]'hlt).2 := ⟨_, rfl⟩
      rw [← hkey] at o0
      rw [← hx] at o1
      have HKEY : Hid (∀ h : k < ps.length, key = (ps[k]'h).1) := Lib.hid (fun _ => hkey)
      have HX : Hid (∀ h : k < ps.length, x = (ps[k]'h).2) := Lib.hid (fun _ => hx)
      clear hkey hx
      have hj2 : j + 1 < n := ltC HJ.out HN.out hlt
      obtain ⟨j', hj'⟩ : ∃ j' : Nat, j' = j + 1 := ⟨_, rfl⟩
      rw [← HJ.out] at o0 o1
      rw [← hj'] at o1
      have i0 : (0 : Int) ≤ (j : Int) := Int.natCast_nonneg _
      have i1 : (j : Int) < (n : Int) := Int.ofNat_lt.2 (Nat.lt_of_succ_lt hj2)
      have i2 : (0 : Int) ≤ (j' : Int) := Int.natCast_nonneg _
      have i3 : (j' : Int) < (n : Int) := Int.ofNat_lt.2 (by rw [hj']; exact hj2)
      have hjb : j + 2 ≤ 2000002 := Nat.le_trans (Nat.succ_le_succ (Nat.le_of_lt (Nat.lt_of_lt_of_le hj2 hn2))) (by decide)
      have hkb : ks.length ≤ 1099511627776 := leK HLK.out hk HPB.out
      have wj : wrap64 ((j : Int) + 1) = (j' : Int) := wrJ hj' hjb
      have wk : wrap64 ((j : Int) + 2) = ((j + 2 : Nat) : Int) := wrK hjb
      have HJ' := Lib.hid hj'
      clear hj'
      replace o0 := (HBL.out.cell (World.block_lt_of_cell? w _ o0)).trans o0
      replace o1 := (HBL.out.cell (World.block_lt_of_cell? w _ o1)).trans o1
      unfold RV.val at o1
      have HC3D := Aside0.mk (Kd.C_below HC3.out (below_drew1 (Below.refl _ _)))
      have HC4D := Aside0.mk (Kd.C_below HC4.out (below_drew1 (Below.refl _ _)))
      have HJ3 : Hid (j + 2 = 2 * (k + 1)) := Lib.hid (dblJ HJ.out)
      have eS := fun xT u => assertT_string key xT u
      have eV := fun xT u => assertT_val (.agg #[.int .i64 x.n0, .int .i64 x.n1, .string x.t, .slice x.A x.an x.ac, .slice x.B x.bn x.bc]) xT u
      have HXV : Hid (x.val = .agg #[.int .i64 x.n0, .int .i64 x.n1, .string x.t, .slice x.A x.an x.ac, .slice x.B x.bn x.bc]) := Lib.hid rfl
      have HLT := Lib.hid hlt
      clear hlt
      go_upto_region 5 with fail
      refine start_ (n := 14) (S := fun w' => w'.cell? ⟨w.heap.size + 1 + 1, 0, none⟩ = some (.int .i64 5) ∧ w'.cell? ⟨w.heap.size + 1 + 1, 1, none⟩ = some (.int .i64 0) ∧ w'.cell? ⟨w.heap.size + 1 + 1, 2, none⟩ = some (.string ⟨#[]⟩) ∧ w'.cell? ⟨w.heap.size + 1 + 1, 3, none⟩ = some (.slice A ks.length c) ∧ w'.cell? ⟨w.heap.size + 1 + 1, 4, none⟩ = some (.slice A' vs.length c') ∧ w'.cell? (ad.add j) = some (.iface 9 (.string key)) ∧ w'.cell? (ad.add j') = some (.iface 26 (.agg #[.int .i64 x.n0, .int .i64 x.n1, .string x.t, .slice x.A x.an x.ac, .slice x.B x.bn x.bc]))) (ds := [13]) #[false, false, false, false, false, false, false, false, false, false, false, false, false, false] (by kernel_rfl) rfl rfl ⟨m0, m1, m2, m3, m4, o0, o1⟩ (fun hHeld => ?_)
      refine pure_ (i := 1) (N := some 14) (v := ?_) (a' := ?_) #[false, true, false, false, false, false, false, false, false, false, false, false, false, false] rfl rfl (by kernel_rfl) (fun _ _ _ h => h) (Or.inl ⟨by rfl, ?_⟩) ?_ ?_
      rotate_left
      · intro w'
        go_simp
        with_reducible rfl
      rotate_left
      · simp only [Act.put, List.setIfInBounds_toArray, List.set_cons_zero, List.set_cons_succ, i64_w, i32_w]
        rfl
      refine pure_ (i := 2) (N := some 15) (v := ?_) (a' := ?_) #[false, true, true, false, false, false, false, false, false, false, false, false, false, false] rfl rfl (by kernel_rfl) (fun _ _ _ h => h) (Or.inl ⟨by rfl, ?_⟩) ?_ ?_
      rotate_left
      · intro w'
        go_simp
        with_reducible rfl
      rotate_left
      · simp only [Act.put, List.setIfInBounds_toArray, List.set_cons_zero, List.set_cons_succ, i64_w, i32_w]
        rfl
      refine pure_ (i := 3) (N := some 16) (v := ?_) (a' := ?_) #[false, true, true, true, false, false, false, false, false, false, false, false, false, false] rfl rfl (by kernel_rfl) (fun _ _ _ h => h) (Or.inl ⟨by rfl, ?_⟩) ?_ ?_
      rotate_left
      · intro w'
        go_simp
        with_reducible rfl
      rotate_left
      · simp only [Act.put, List.setIfInBounds_toArray, List.set_cons_zero, List.set_cons_succ, i64_w, i32_w]
        rfl
      refine pure_ (i := 6) (N := some 19) (v := ?_) (a' := ?_) #[false, true, true, true, false, false, true, false, false, false, false, false, false, false] rfl rfl (by kernel_rfl) (fun _ _ _ h => h) (Or.inl ⟨by rfl, ?_⟩) ?_ ?_
      rotate_left
      · intro w'
        go_simp
        with_reducible rfl
      rotate_left
      · simp only [Act.put, List.setIfInBounds_toArray, List.set_cons_zero, List.set_cons_succ, i64_w, i32_w]
        rfl
      refine pure_ (i := 7) (N := some 20) (v := ?_) (a' := ?_) #[false, true, true, true, false, false, true, true, false, false, false, false, false, false] rfl rfl (by kernel_rfl) (fun _ _ _ h => h) (Or.inl ⟨by rfl, ?_⟩) ?_ ?_
      rotate_left
      · intro w'
        go_simp
        with_reducible rfl
      rotate_left
      · simp only [Act.put, List.setIfInBounds_toArray, List.set_cons_zero, List.set_cons_succ, i64_w, i32_w]
        rfl
      refine pure_ (i := 8) (N := some 21) (v := ?_) (a' := ?_) #[false, true, true, true, false, false, true, true, true, false, false, false, false, false] rfl rfl (by kernel_rfl) (fun _ _ _ h => h) (Or.inl ⟨by rfl, ?_⟩) ?_ ?_
      rotate_left
      · intro w'
        go_simp
        with_reducible rfl
      rotate_left
      · simp only [Act.put, List.setIfInBounds_toArray, List.set_cons_zero, List.set_cons_succ, i64_w, i32_w]
        rfl
      refine pure_ (i := 9) (N := some 22) (v := ?_) (a' := ?_) #[false, true, true, true, false, false, true, true, true, true, false, false, false, false] rfl rfl (by kernel_rfl) (fun _ _ _ h => h) (Or.inl ⟨by rfl, ?_⟩) ?_ ?_
      rotate_left
      · intro w'
        go_simp
        with_reducible rfl
      rotate_left
      · simp only [Act.put, List.setIfInBounds_toArray, List.set_cons_zero, List.set_cons_succ, i64_w, i32_w]
        rfl
      refine take_ (i := 0) (N := some 13) (v := ?_) (a' := ?_) #[true, true, true, true, false, false, true, true, true, true, false, false, false, false] rfl rfl (by kernel_rfl) (fun _ _ _ h => h) (Or.inl ⟨by rfl, ?_⟩) hHeld ?_ ?_
      rotate_left
      · rintro w' ⟨s0, s1, s2, s3, s4, s5, s6⟩
        go_simp
        with_reducible rfl
      rotate_left
      · simp only [Act.put, List.setIfInBounds_toArray, List.set_cons_zero, List.set_cons_succ, i64_w, i32_w]
        rfl
      refine take_ (i := 4) (N := some 17) (v := ?_) (a' := ?_) #[true, true, true, true, true, false, true, true, true, true, false, false, false, false] rfl rfl (by kernel_rfl) (fun _ _ _ h => h) (Or.inl ⟨by rfl, ?_⟩) hHeld ?_ ?_
      rotate_left
      · rintro w' ⟨s0, s1, s2, s3, s4, s5, s6⟩
        go_simp
        with_reducible rfl
      rotate_left
      · simp only [Act.put, List.setIfInBounds_toArray, List.set_cons_zero, List.set_cons_succ, i64_w, i32_w]
        rfl
      refine pure_ (i := 5) (N := some 18) (v := ?_) (a' := ?_) #[true, true, true, true, true, true, true, true, true, true, false, false, false, false] rfl rfl (by kernel_rfl) (fun _ _ _ h => h) (Or.inl ⟨by rfl, ?_⟩) ?_ ?_
      rotate_left
      · intro w'
        go_simp
        with_reducible rfl
      rotate_left
      · simp only [Act.put, List.setIfInBounds_toArray, List.set_cons_zero, List.set_cons_succ, i64_w, i32_w]
        rfl
      refine take_ (i := 10) (N := some 23) (v := ?_) (a' := ?_) #[true, true, true, true, true, true, true, true, true, true, true, false, false, false] rfl rfl (by kernel_rfl) (fun _ _ _ h => h) (Or.inl ⟨by rfl, ?_⟩) hHeld ?_ ?_
      rotate_left
      · rintro w' ⟨s0, s1, s2, s3, s4, s5, s6⟩
        go_simp
        with_reducible rfl
      rotate_left
      · simp only [Act.put, List.setIfInBounds_toArray, List.set_cons_zero, List.set_cons_succ, i64_w, i32_w]
        rfl
      refine pure_ (i := 11) (N := some 24) (v := ?_) (a' := ?_) #[true, true, true, true, true, true, true, true, true, true, true, true, false, false] rfl rfl (by kernel_rfl) (fun _ _ _ h => h) (Or.inl ⟨by rfl, ?_⟩) ?_ ?_
      rotate_left
      · intro w'
        go_simp
        with_reducible rfl
      rotate_left
      · simp only [Act.put, List.setIfInBounds_toArray, List.set_cons_zero, List.set_cons_succ, i64_w, i32_w]
        rfl
      refine one_ (i := 12) (N := some 25) #[true, true, true, true, true, true, true, true, true, true, true, true, true, false] rfl rfl (by kernel_rfl) (by decide) (fun K hK => ?_)
      refine goes_ Tryz.func22 (by kernel_rfl) rfl #[.agg #[.int .i64 5, .int .i64 0, .string ⟨#[]⟩, .slice A ks.length c, .slice A' vs.length c'], .string key, .agg #[.int .i64 x.n0, .int .i64 x.n1, .string x.t, .slice x.A x.an x.ac, .slice x.B x.bn x.bc]] (by rfl) rfl rfl (by simp only [List.map_toArray, List.map_cons, List.map_nil]; rfl) ?_
      with_reducible refine (spec_WithR 5 0 ⟨#[]⟩ key ks vs x A c A' c' _ HC3D.out HC4D.out hkb HLV.out).mono ?_
      rintro e w3 ⟨A3, c3, A4, c4, rfl, hd3, hD3, hd4, hD4, hg3, hg4, hb⟩
      refine ⟨_, rfl, ?_⟩
      have hb' : Below wr.heap.size wr w3 := below_un hb
      have HD3 := Aside0.mk hD3
      have HD4 := Aside0.mk hD4
      have HG3 := Aside0.mk hg3
      have HG4 := Aside0.mk hg4
      have HB3 := Aside0.mk hb'
      clear hb hD3 hD4 hg3 hg4
      refine hK.out _ _ ⟨(hb'.cell (World.block_lt_of_cell? wr _ m0)).trans m0, (hb'.cell (World.block_lt_of_cell? wr _ m1)).trans m1, (hb'.cell (World.block_lt_of_cell? wr _ m2)).trans m2, (hb'.cell (World.block_lt_of_cell? wr _ m3)).trans m3, (hb'.cell (World.block_lt_of_cell? wr _ m4)).trans m4, (hb'.cell (World.block_lt_of_cell? wr _ o0)).trans o0, (hb'.cell (World.block_lt_of_cell? wr _ o1)).trans o1⟩ (fun hHeld => ?_)
      clear hK K
      refine norm_ (a' := ?_) ?_ ?_
      rotate_left
      · show Act.put _ (some 25) _ = _
        simp only [Act.put, List.setIfInBounds_toArray, List.set_cons_zero, List.set_cons_succ, i64_w, i32_w]
        rfl
      refine last_ (i := 13) (N := none) #[true, true, true, true, true, true, true, true, true, true, true, true, true, true] rfl rfl (by kernel_rfl) (by decide) (fun K hK => ?_)
      refine store_step (cur := #[.int .i64 5, .int .i64 0, .string ⟨#[]⟩, .slice A ks.length c, .slice A' vs.length c']) (e := 26) (g := w.heap.size + 1 + 1) 26 _ _ (.agg #[.int .i64 5, .int .i64 0, .string ⟨#[]⟩, .slice A3 (withKs key ks).length c3, .slice A4 (withVs key ks vs x).length c4]) [.int .i64 5, .int .i64 0, .string ⟨#[]⟩, .slice A3 (withKs key ks).length c3, .slice A4 (withVs key ks vs x).length c4] (by rfl) rfl rfl rfl rfl ((HB3.out.block _ (blk_lt HBOX.out)).trans HBOX.out) rfl (show (Tryz.prog.info? 26).map (·.size) = some 5 by kernel_rfl) rfl (by simp [Value.oneCell']) ?_
      intro w4 h4 hg4
      have H4 := Aside0.mk h4
      have HGR := Aside0.mk hg4
      clear h4 hg4
      refine hK.out _ _ ?_
      clear hK K
      refine done_ (by kernel_rfl) ?_
      
      go_wp2
      go_roundw
      case rel =>
        clear wj
        have WK := Lib.hid wk
        clear wk
        have hsz3 := HB3.out.size
        have hf3 : Fr (w.heap.size + 3) A3 := HG3.out.lower hsz
        have hf4 : Fr (w.heap.size + 3) A4 := HG4.out.lower hsz
        have hmv : ∀ a : Option Addr, Fr (w.heap.size + 3) a → ∀ ad, a = some ad → ad.block < w3.heap.size → w4.heap[ad.block]? = w3.heap[ad.block]? := fun a ha ad e hlt => HGR.out.block _ hlt (fun e' => by injection e' with e'; exact ltD (ha ad e) e'.symm)
        have hb4 : Below w.heap.size w w4 := (below_then HBL.out HBL.out.size HB3.out).grown HGR.out (Nat.le_trans HBL.out.size hsz3) (fun q e => by injection e with e; rw [← e]; exact Nat.le_add_right _ 2)
        have hq := MMq_take ps k HLT.out
        rw [← HKS.out, ← HVS.out, ← HKEY.out HLT.out, ← HX.out HLT.out] at hq
        refine ⟨k + 1, j + 2, HLT.out, HJ3, (by first | rfl | exact congrArg (Value.int .i64) WK.out | exact congrArg (Value.int .i64) WK.out.symm | (simp; done) | (trace_state; fail)), ⟨A3, c3, A4, c4, ?_, ?_, ?_, ?_, ?_, ?_, hf3, hf4, hb4, ?_⟩⟩
        · rw [hq]; exact H4.out
        · exact (HGR.out.block w.heap.size (ltA hsz hsz3) (fun e' => by injection e' with e'; exact absurd e' (Nat.ne_of_lt (Nat.lt_succ_of_lt (Nat.lt_succ_self _))))).trans ((HB3.out.block w.heap.size (ltB hsz)).trans HRES.out)
        · rw [hq]; exact hd3
        · rw [hq]; exact kd_move HD3.out (fun _ _ q => q) (hmv _ hf3)
        · rw [hq]; exact hd4
        · rw [hq]; exact kd_move HD4.out (fun _ _ q => q) (hmv _ hf4)
        · exact Nat.le_trans hsz (Nat.le_trans hsz3 HGR.out.size)
      case measure => rw [wk]; exact msJ hj2
    · obtain rfl : k = ps.length := by omega
      have hjn : j = n := by rw [HJ.out, HN.out]
      subst hjn
      have hnl : ¬ ((j + 1 : Nat) : Int) < (j : Int) := fun h => absurd (Int.ofNat_lt.1 h) (Nat.not_lt.2 (Nat.le_succ _))
      have wj : wrap64 ((j : Int) + 1) = ((j + 1 : Nat) : Int) := wrJ rfl (Nat.succ_le_succ (Nat.succ_le_succ hn2))
      go_wp2_with (refine store_list (cur := #[.int .i64 0, .int .i64 0, .string ⟨#[]⟩, .slice none 0 0, .slice none 0 0]) (e := 26) (g := w.heap.size) 26 _ _ (.agg #[.int .i64 5, .int .i64 0, .string ⟨#[]⟩, .slice A ks.length c, .slice A' vs.length c']) [.int .i64 5, .int .i64 0, .string ⟨#[]⟩, .slice A ks.length c, .slice A' vs.length c'] rfl rfl rfl rfl rfl HRES.out rfl (show (Tryz.prog.info? 26).map (·.size) = some 5 by kernel_rfl) rfl (by simp [Value.oneCell']) ?_; intro w7 h7 hg7; have H7 := Aside0.mk h7; have HG7 := Aside0.mk hg7; have z0 : w7.cell? ⟨w.heap.size, 0, none⟩ = some (.int .i64 5) := (by simp [World.cell?, h7]); have z1 : w7.cell? ⟨w.heap.size, 1, none⟩ = some (.int .i64 0) := (by simp [World.cell?, h7]); have z2 : w7.cell? ⟨w.heap.size, 2, none⟩ = some (.string ⟨#[]⟩) := (by simp [World.cell?, h7]); have z3 : w7.cell? ⟨w.heap.size, 3, none⟩ = some (.slice A ks.length c) := (by simp [World.cell?, h7]); have z4 : w7.cell? ⟨w.heap.size, 4, none⟩ = some (.slice A' vs.length c') := (by simp [World.cell?, h7]); clear h7 hg7)
      refine bodyPost_ret (v := .agg #[.int .i64 5, .int .i64 0, .string ⟨#[]⟩, .slice A ks.length c, .slice A' vs.length c']) (by simp [results, Tryz.results9, go_sem, z0, z1, z2, z3, z4]) rfl ?_
      clear wj hnl
      have hmv : ∀ a : Option Addr, Fr (w.heap.size + 3) a → ∀ ad, a = some ad → ad.block < wr.heap.size → w7.heap[ad.block]? = wr.heap[ad.block]? := fun a ha ad e hlt => HG7.out.block _ hlt (fun e' => by injection e' with e'; exact absurd e'.symm (Nat.ne_of_lt (ltB (ha ad e))))
      have e1 : (MMq ps).1 = ks := by rw [HKS.out, List.take_length]
      have e2 : (MMq ps).2 = vs := by rw [HVS.out, List.take_length]
      rw [e1, e2]
      exact ⟨A, c, A', c', rfl, hc3, kd_move HC3.out (fun _ _ q => q) (hmv _ HF3.out), hc4, kd_move HC4.out (fun _ _ q => q) (hmv _ HF4.out), HF3.out.lower (Nat.le_add_right _ 3), HF4.out.lower (Nat.le_add_right _ 3), HBL.out.grown HG7.out HBL.out.size (fun q e => by injection e with e; rw [← e]; exact Nat.le_refl _)⟩
end Go.Proofs.YtiamiagjkfioiaaGreatDoor.A
