/- The walks of impl.toAny and impl.toMap, of every value of the document's form. -/
import Derived.Test.YtgeamhmenmomhaaDoorAny
import Derived.Test.YtgeamhmenmomhaaDoorPTx1
import Derived.Test.YtgeamhmenmomhaaDoorL
import Derived.Lib.Hide
import Derived.Outline
namespace Go.Proofs.YtgeamhmenmomhaaDoor.A
set_option linter.unusedVariables false
set_option linter.unusedSimpArgs false
set_option linter.unusedSectionVars false
open Go.RowKit Go.Proofs.YtgeamhmenmomhaaDoorW.PrintWords Go.Proofs.YtgeamhmenmomhaaDoorW.PrintLast Go.Proofs.YtgeamhmenmomhaaDoorW.PrintMore Go.Proofs.YtgeamhmenmomhaaDoor.PT Go.Proofs.YtgeamhmenmomhaaDoor.SM Go.Proofs.YtgeamhmenmomhaaDoor.L

theorem wp_put_step {β : Type} {cenc : β → Value} {m : List (ByteArray × β)} {P : Program} {ops : Array Oper} {o : Oper} {a : Act} {Q : Exit → Act → World → Prop} {Kc : Act → World → Prop} {w : World} {b : Nat} {t k e : TypeId} (hw : Region.wanted o (yielded ops a.tmps) = true) (mo xo vo : Operand) (hop : o.op = Op.mapUpdate t mo xo vo) (ht : P.underlying t = some (.map k e)) (hk : P.underlying k = some .string)
    (hm : a.eval mo = .map (some b)) (h : TMap w b cenc m) (s : ByteArray) (v : β) (hx : a.eval xo = .string s) (hv : a.eval vo = cenc v) {w0 : World} {B : Nat} (HB : Below B w0 w) (hB : B ≤ b)
    (hK : ∀ w', TMap w' b cenc (put m s v) → Below B w0 w' → w.grownBy w' (some b) → Kc (a.put o.dst undef) w') : if Region.wanted o (yielded ops a.tmps) = true then Oper.wp P o a w Kc Q else Kc (a.put o.dst undef) w := by
  rw [if_pos hw]
  obtain ⟨ob, hrun, hs⟩ := run_put (P := P) ht hk h s (cenc v)
  rw [put_mapE] at hs
  unfold Oper.wp
  simp [execOp, hop, hm, hx, hv, hrun, Result.andThen]
  exact hK _ hs (HB.grown (setBlock_grown w b ob) (Nat.le_trans hB (Nat.le_of_lt h.lt)) (fun j hj => by cases hj; exact hB)) (setBlock_grown w b ob)
/-- a value's cells, as a call is handed them -/
abbrev cellsI (x : IV) (A3 : Option Addr) (c3 : Nat) (A4 : Option Addr) (c4 : Nat) : Value := .agg #[.int .i64 x.f0, .int .i64 x.f1, .string x.f2, .slice A3 x.f3.length c3, .slice A4 x.f4.length c4]
def ToAnyC (y : IV) (w : World) : Prop := ∀ (A3 : Option Addr) (c3 : Nat) (A4 : Option Addr) (c4 : Nat), y.f3.length ≤ c3 → Kd.C Kd.string w A3 y.f3.length y.f3 → y.f4.length ≤ c4 → Kd.C kI w A4 y.f4.length y.f4 →
  Calls Tryd.prog 30 #[cellsI y A3 c3 A4 c4] w fun e w' => ∃ v : AV, e = .returned v.enc ∧ AnyIs w.heap.size w' y v ∧ Below w.heap.size w w'
theorem ToAnyC.use {y : IV} {w : World} (h : ToAnyC y w) (A3 : Option Addr) (c3 : Nat) (A4 : Option Addr) (c4 : Nat) (m3 : y.f3.length ≤ c3) (q3 : Kd.C Kd.string w A3 y.f3.length y.f3) (m4 : y.f4.length ≤ c4) (q4 : Kd.C kI w A4 y.f4.length y.f4) :
    Calls Tryd.prog 30 #[cellsI y A3 c3 A4 c4] w fun e w' => ∃ v : AV, e = .returned v.enc ∧ AnyIs w.heap.size w' y v ∧ Below w.heap.size w w' := h A3 c3 A4 c4 m3 q3 m4 q4
theorem put_new {β : Type} {m : List (ByteArray × β)} {k : ByteArray} {v : β} (h : k ∉ m.map (·.1)) : put m k v = m ++ [(k, v)] := by
  unfold put
  rw [if_neg]
  intro e
  exact h (has_iff.1 e)
theorem nodup_take {α : Type} {l : List α} {i : Nat} (h : l.Nodup) (hi : i < l.length) : l[i] ∉ l.take i := by
  intro hm
  obtain ⟨j, hj, e⟩ := List.mem_take_iff_getElem.1 hm
  have := (List.getElem_inj h).1 e
  omega
theorem rd_getI {l : List IV} {i : Nat} (h : i < l.length) : rd_T36 l i = l[i] := by
  simp [rd_T36, List.getD_eq_getElem?_getD, List.getElem?_eq_getElem h]
theorem wr1 {i n : Nat} (h : i < n) (hn : n ≤ 140737488355328) : wrap64 ((i : Int) + 1) = ((i + 1 : Nat) : Int) := by unfold wrap64; omega
/-- the part of a map that has been made -/
def MapTo (lo : Nat) (w : World) (b : Nat) (x : IV) (i : Nat) : Prop := ∃ m : List (ByteArray × AV), TMap w b AV.enc m ∧ m.map (·.1) = x.f3.take i ∧ ∀ (j : Nat) (h1 : j < x.f4.length) (h2 : j < m.length), AnyIs lo w (x.f4[j]'h1) (m[j]'h2).2
set_option maxHeartbeats 8000000 in
set_option maxRecDepth 100000 in
theorem impl_toMap (x : IV) (hc : Canon x) (h5 : x.f0 = 5) (A3 : Option Addr) (c3 : Nat) (A4 : Option Addr) (c4 : Nat) (w : World) (g3 : Kd.C Kd.string w A3 x.f3.length x.f3) (g4 : Kd.C kI w A4 x.f4.length x.f4)
    (IH : ∀ y ∈ x.f4, ∀ W, Below w.heap.size w W → ToAnyC y W) :
    Calls Tryd.prog 38 #[cellsI x A3 c3 A4 c4] w fun e w' => ∃ b, e = .returned (.map (some b)) ∧ MapTo w.heap.size w' b x x.f3.length ∧ w.heap.size ≤ b ∧ Below w.heap.size w w' := by
  obtain ⟨hnd, hlen⟩ := hc.keys h5
  have hsh := hc.short
  obtain ⟨n, hn⟩ : ∃ n, n = x.f3.length := ⟨_, rfl⟩
  have hn4 : x.f4.length = n := by rw [hn, hlen]
  have hnb : n ≤ 1099511627776 := by omega
  unfold cellsI
  rw [hn4]
  rw [hn4] at g4
  rw [← hn]
  rw [← hn] at g3
  have G3 := Aside0.mk g3
  have G4 := Aside0.mk g4
  have HI := Lib.hid IH
  have HND := Lib.hid hnd
  have HN := Lib.hid hn
  have HN4 := Lib.hid hn4
  clear hc h5 g3 g4 IH hnd hlen hn hn4 hsh
  have hmm := fun (W : World) (n : Int) => run_makeHint (P := Tryd.prog) Tryd.underlying73 .i64 n W
  obtain ⟨W0, hW0⟩ : ∃ W0 : World, W0 = w.alloc (Obj.cells #[.int .i64 x.f0, .int .i64 x.f1, .string x.f2, .slice A3 n c3, .slice A4 n c4] 36) := ⟨_, rfl⟩
  have HBX : Aside0 (W0.heap.size = w.heap.size + 1 ∧ Below w.heap.size w W0 ∧ W0.heap[w.heap.size]? = some (.cells #[.int .i64 x.f0, .int .i64 x.f1, .string x.f2, .slice A3 n c3, .slice A4 n c4] 36 (0, 0))) := ⟨by rw [hW0]; exact ⟨by simp, (Below.refl _ _).alloc (Nat.le_refl _) _, (MapKept.heap_alloc w _).1⟩⟩
  have HW0 := Lib.hid hW0
  clear hW0
  go_enter Tryd.func38, Tryd.ntmps38
  go_wp2
  rw [← HW0.out]
  go_loopw [4] (fun v4 wr => ∃ i : Nat, i ≤ n ∧ v4 = .int .i64 i ∧ Aside0 (MapTo (w.heap.size + 2) wr (w.heap.size + 1) x i) ∧ Aside0 (Below W0.heap.size W0 wr)) (fun v4 _ => n - (intOf v4).toNat)
  case atStart => exact ⟨0, Nat.zero_le _, rfl, ⟨[], HBX.out.1 ▸ TMap.made W0 _, by simp, fun j h1 h2 => by cases h2⟩, ⟨(Below.refl _ _).alloc (Nat.le_refl _) _⟩⟩
  case round =>
    obtain ⟨i, hi, rfl, HM, HB⟩ := hrel
    have hbox := (HB.out.block w.heap.size (by rw [HBX.out.1]; exact Nat.lt_succ_self _)).trans HBX.out.2.2
    have b3 : wr.cell? ⟨w.heap.size, 3, none⟩ = some (.slice A3 n c3) := by simp [World.cell?, hbox]
    have b4 : wr.cell? ⟨w.heap.size, 4, none⟩ = some (.slice A4 n c4) := by simp [World.cell?, hbox]
    have HBW : Aside0 (Below w.heap.size w wr) := ⟨HBX.out.2.1.trans (HB.out.mono (by rw [HBX.out.1]; exact Nat.le_succ _))⟩
    clear hbox
    by_cases hlt : i < n
    · have i0 : (0 : Int) ≤ (i : Int) := by omega
      have i1 : (i : Int) < (n : Int) := by omega
      have w1 := wr1 hlt (by omega)
      obtain ⟨adk, rfl, hk0⟩ := Kd.at_string G3.out (i : Int) i0 i1
      obtain ⟨ade, E3, d3, E4, d4, rfl, he0, he1, he2, he3, he4, m3, q3, m4, q4⟩ := at_T36 G4.out (i : Int) i0 i1
      replace hk0 := (HBW.out.cell (World.block_lt_of_cell? w _ hk0)).trans hk0
      replace he0 := (HBW.out.cell (World.block_lt_of_cell? w _ he0)).trans he0
      replace he1 := (HBW.out.cell (World.block_lt_of_cell? w _ he1)).trans he1
      replace he2 := (HBW.out.cell (World.block_lt_of_cell? w _ he2)).trans he2
      replace he3 := (HBW.out.cell (World.block_lt_of_cell? w _ he3)).trans he3
      replace he4 := (HBW.out.cell (World.block_lt_of_cell? w _ he4)).trans he4
      have hi4 : i < x.f4.length := by rw [HN4.out]; exact hlt
      have hi3 : i < x.f3.length := by rw [← HN.out]; exact hlt
      obtain ⟨y, hy⟩ : ∃ y, y = rd_T36 x.f4 (i : Int) := ⟨_, rfl⟩
      rw [← hy] at he0 he1 he2 he3 he4 m3 q3 m4 q4
      have hyi : y = x.f4[i]'hi4 := hy.trans (rd_getI hi4)
      obtain ⟨s, hs⟩ : ∃ s, s = rdOf ByteArray.empty x.f3 (i : Int) := ⟨_, rfl⟩
      rw [← hs] at hk0
      have hsi : s = x.f3[i]'hi3 := by rw [hs]; simp [rdOf, List.getD_eq_getElem?_getD, List.getElem?_eq_getElem hi3]
      simp only [Int.toNat_natCast] at hk0 he0 he1 he2 he3 he4
      have HY := Lib.hid (HI.out y (by rw [hyi]; exact List.getElem_mem hi4))
      have HYI : Hid (∀ h : i < x.f4.length, y = x.f4[i]'h) := Lib.hid (fun _ => hyi)
      have HSI : Hid (∀ h : i < x.f3.length, s = x.f3[i]'h) := Lib.hid (fun _ => hsi)
      have Q3 := Aside0.mk q3
      have Q4 := Aside0.mk q4
      have M3 := Aside0.mk m3
      have M4 := Aside0.mk m4
      have HI4 := Lib.hid hi4
      have HI3 := Lib.hid hi3
      clear hy hs hyi hsi q3 q4 m3 m4 hi4 hi3
      obtain ⟨m, hm, hmk, hme⟩ := HM.out
      have HM0 := Aside0.mk hm
      have HMK := Lib.hid hmk
      have HME := Lib.hid hme
      clear hm hmk hme HM
      go_upto_region 5 with fail
      refine start_ (n := 13) (S := fun w' => w'.cell? ⟨w.heap.size, 3, none⟩ = some (.slice (some adk) n c3) ∧ w'.cell? ⟨w.heap.size, 4, none⟩ = some (.slice (some ade) n c4) ∧ w'.cell? (adk.add i) = some (.string s) ∧ w'.cell? (ade.add (i * 5)) = some (.int .i64 y.f0) ∧ w'.cell? ⟨(ade.add (i * 5)).block, (ade.add (i * 5)).off + 1, none⟩ = some (.int .i64 y.f1) ∧ w'.cell? ⟨(ade.add (i * 5)).block, (ade.add (i * 5)).off + 2, none⟩ = some (.string y.f2) ∧ w'.cell? ⟨(ade.add (i * 5)).block, (ade.add (i * 5)).off + 3, none⟩ = some (.slice E3 y.f3.length d3) ∧ w'.cell? ⟨(ade.add (i * 5)).block, (ade.add (i * 5)).off + 4, none⟩ = some (.slice E4 y.f4.length d4)) (ds := [12]) #[false, false, false, false, false, false, false, false, false, false, false, false, false] (by kernel_rfl) rfl rfl ⟨b3, b4, hk0, he0, he1, he2, he3, he4⟩ (fun hHeld => ?_)
      refine pure_ (i := 0) (N := some 23) (v := ?_) (a' := ?_) #[true, false, false, false, false, false, false, false, false, false, false, false, false] rfl rfl (by kernel_rfl) (fun _ _ _ h => h) (Or.inl ⟨by rfl, ?_⟩) ?_ ?_
      rotate_left
      · intro w'
        go_simp
        with_reducible rfl
      rotate_left
      · simp only [Act.put, List.setIfInBounds_toArray, List.set_cons_zero, List.set_cons_succ, i64_w, i32_w]
        rfl
      refine pure_ (i := 1) (N := some 24) (v := ?_) (a' := ?_) #[true, true, false, false, false, false, false, false, false, false, false, false, false] rfl rfl (by kernel_rfl) (fun _ _ _ h => h) (Or.inl ⟨by rfl, ?_⟩) ?_ ?_
      rotate_left
      · intro w'
        go_simp
        with_reducible rfl
      rotate_left
      · simp only [Act.put, List.setIfInBounds_toArray, List.set_cons_zero, List.set_cons_succ, i64_w, i32_w]
        rfl
      refine pure_ (i := 3) (N := some 26) (v := ?_) (a' := ?_) #[true, true, false, true, false, false, false, false, false, false, false, false, false] rfl rfl (by kernel_rfl) (fun _ _ _ h => h) (Or.inl ⟨by rfl, ?_⟩) ?_ ?_
      rotate_left
      · intro w'
        go_simp
        with_reducible rfl
      rotate_left
      · simp only [Act.put, List.setIfInBounds_toArray, List.set_cons_zero, List.set_cons_succ, i64_w, i32_w]
        rfl
      refine pure_ (i := 6) (N := some 29) (v := ?_) (a' := ?_) #[true, true, false, true, false, false, true, false, false, false, false, false, false] rfl rfl (by kernel_rfl) (fun _ _ _ h => h) (Or.inl ⟨by rfl, ?_⟩) ?_ ?_
      rotate_left
      · intro w'
        go_simp
        with_reducible rfl
      rotate_left
      · simp only [Act.put, List.setIfInBounds_toArray, List.set_cons_zero, List.set_cons_succ, i64_w, i32_w]
        rfl
      refine pure_ (i := 8) (N := some 31) (v := ?_) (a' := ?_) #[true, true, false, true, false, false, true, false, true, false, false, false, false] rfl rfl (by kernel_rfl) (fun _ _ _ h => h) (Or.inl ⟨by rfl, ?_⟩) ?_ ?_
      rotate_left
      · intro w'
        go_simp
        with_reducible rfl
      rotate_left
      · simp only [Act.put, List.setIfInBounds_toArray, List.set_cons_zero, List.set_cons_succ, i64_w, i32_w]
        rfl
      refine take_ (i := 2) (N := some 25) (v := ?_) (a' := ?_) #[true, true, true, true, false, false, true, false, true, false, false, false, false] rfl rfl (by kernel_rfl) (fun _ _ _ h => h) (Or.inl ⟨by rfl, ?_⟩) hHeld ?_ ?_
      rotate_left
      · rintro w' ⟨s0, s1, s2, s3, s4, s5, s6, s7⟩
        go_simp
        with_reducible rfl
      rotate_left
      · simp only [Act.put, List.setIfInBounds_toArray, List.set_cons_zero, List.set_cons_succ, i64_w, i32_w]
        rfl
      refine pure_ (i := 4) (N := some 27) (v := ?_) (a' := ?_) #[true, true, true, true, true, false, true, false, true, false, false, false, false] rfl rfl (by kernel_rfl) (fun _ _ _ h => h) (Or.inl ⟨by rfl, ?_⟩) ?_ ?_
      rotate_left
      · intro w'
        go_simp
        with_reducible rfl
      rotate_left
      · simp only [Act.put, List.setIfInBounds_toArray, List.set_cons_zero, List.set_cons_succ, i64_w, i32_w]
        rfl
      refine take_ (i := 5) (N := some 28) (v := ?_) (a' := ?_) #[true, true, true, true, true, true, true, false, true, false, false, false, false] rfl rfl (by kernel_rfl) (fun _ _ _ h => h) (Or.inl ⟨by rfl, ?_⟩) hHeld ?_ ?_
      rotate_left
      · rintro w' ⟨s0, s1, s2, s3, s4, s5, s6, s7⟩
        go_simp
        with_reducible rfl
      rotate_left
      · simp only [Act.put, List.setIfInBounds_toArray, List.set_cons_zero, List.set_cons_succ, i64_w, i32_w]
        rfl
      refine take_ (i := 7) (N := some 30) (v := ?_) (a' := ?_) #[true, true, true, true, true, true, true, true, true, false, false, false, false] rfl rfl (by kernel_rfl) (fun _ _ _ h => h) (Or.inl ⟨by rfl, ?_⟩) hHeld ?_ ?_
      rotate_left
      · rintro w' ⟨s0, s1, s2, s3, s4, s5, s6, s7⟩
        go_simp
        with_reducible rfl
      rotate_left
      · simp only [Act.put, List.setIfInBounds_toArray, List.set_cons_zero, List.set_cons_succ, i64_w, i32_w]
        rfl
      refine pure_ (i := 9) (N := some 32) (v := ?_) (a' := ?_) #[true, true, true, true, true, true, true, true, true, true, false, false, false] rfl rfl (by kernel_rfl) (fun _ _ _ h => h) (Or.inl ⟨by rfl, ?_⟩) ?_ ?_
      rotate_left
      · intro w'
        go_simp
        with_reducible rfl
      rotate_left
      · simp only [Act.put, List.setIfInBounds_toArray, List.set_cons_zero, List.set_cons_succ, i64_w, i32_w]
        rfl
      refine take_ (i := 10) (N := some 33) (v := ?_) (a' := ?_) #[true, true, true, true, true, true, true, true, true, true, true, false, false] rfl rfl (by kernel_rfl) (fun _ _ _ h => h) (Or.inl ⟨by rfl, ?_⟩) hHeld ?_ ?_
      rotate_left
      · rintro w' ⟨s0, s1, s2, s3, s4, s5, s6, s7⟩
        go_simp
        with_reducible rfl
      rotate_left
      · simp only [Act.put, List.setIfInBounds_toArray, List.set_cons_zero, List.set_cons_succ, i64_w, i32_w]
        rfl
      refine one_ (i := 11) (N := some 34) #[true, true, true, true, true, true, true, true, true, true, true, true, false] rfl rfl (by kernel_rfl) (by decide) (fun K hK => ?_)
      refine goes_ Tryd.func30 (by kernel_rfl) rfl #[cellsI y E3 d3 E4 d4] (by rfl) rfl rfl (by simp only [List.map_toArray, List.map_cons, List.map_nil]; rfl) ?_
      with_reducible refine (ToAnyC.use (HY.out _ (by repeat (first | (with_reducible first | exact HBW.out | apply below_alloc | apply pw_below_drewN | apply below_drew1) | exact HBW.out))) E3 d3 E4 d4 M3.out (Kd.C_below Q3.out (by repeat (first | (with_reducible first | exact HBW.out | apply below_alloc | apply pw_below_drewN | apply below_drew1) | exact HBW.out))) M4.out (Kd.C_below Q4.out (by repeat (first | (with_reducible first | exact HBW.out | apply below_alloc | apply pw_below_drewN | apply below_drew1) | exact HBW.out)))).mono ?_
      rintro e w3 ⟨v, rfl, hv, hb⟩
      refine ⟨_, rfl, ?_⟩
      have hb' : Below wr.heap.size wr w3 := below_un hb
      have HB3 := Aside0.mk (below_then HBW.out HBW.out.size hb')
      have HV3 := Aside0.mk hv
      have HM3 := Aside0.mk (TMap.below (show TMap wr _ _ _ from HM0.out) hb')
      have HB' := Aside0.mk hb'
      clear hv hb
      refine hK.out _ _ ⟨(hb'.cell (World.block_lt_of_cell? wr _ b3)).trans b3, (hb'.cell (World.block_lt_of_cell? wr _ b4)).trans b4, (hb'.cell (World.block_lt_of_cell? wr _ hk0)).trans hk0, (hb'.cell (World.block_lt_of_cell? wr _ he0)).trans he0, (hb'.cell (World.block_lt_of_cell? wr _ he1)).trans he1, (hb'.cell (World.block_lt_of_cell? wr _ he2)).trans he2, (hb'.cell (World.block_lt_of_cell? wr _ he3)).trans he3, (hb'.cell (World.block_lt_of_cell? wr _ he4)).trans he4⟩ (fun hHeld => ?_)
      clear hK K
      refine norm_ (a' := ?_) ?_ ?_
      rotate_left
      · show Act.put _ (some 34) _ = _
        simp only [Act.put, List.setIfInBounds_toArray, List.set_cons_zero, List.set_cons_succ, i64_w, i32_w]
        rfl
      refine last_ (i := 12) (N := none) #[true, true, true, true, true, true, true, true, true, true, true, true, true] rfl rfl (by kernel_rfl) (by decide) (fun K hK => ?_)
      refine wp_put_step (cenc := AV.enc) (m := m) (b := w.heap.size + 1) (by rfl) _ _ _ rfl Tryd.underlying73 Tryd.underlying9 rfl ?hT s v rfl rfl (w0 := w) (B := w.heap.size) ?hB (Nat.le_succ _) ?_; (case hT => exact HM3.out); (case hB => repeat (first | (with_reducible first | exact HB3.out | apply below_alloc | apply pw_below_drewN | apply below_drew1) | exact HB3.out))
      intro w4 hm4 hb4 hg4
      have HM4 := Aside0.mk hm4
      have HB4 := Aside0.mk hb4
      have HG4 := Aside0.mk hg4
      clear hm4 hb4 hg4
      refine hK.out _ _ ?_
      clear hK K
      refine done_ (by kernel_rfl) ?_
      
      go_wp2
      go_roundw
      case rel =>
        have hsz : w.heap.size + 2 ≤ wr.heap.size := HM0.out.lt
        have hW0 := HBX.out.1
        refine ⟨i + 1, hlt, by go_num, ⟨⟨m ++ [(s, v)], ?_, ?_, ?_⟩⟩, ⟨?_⟩⟩
        · rw [← put_new (k := s) (v := v) (m := m) (by
            rw [HMK.out, HSI.out HI3.out]
            exact fun hmem => nodup_take HND.out HI3.out hmem)]
          exact HM4.out
        · rw [List.map_append, HMK.out, List.take_succ_eq_append_getElem HI3.out, HSI.out HI3.out]; rfl
        · intro j h1 h2
          have hml : m.length = i := by
            have := congrArg List.length HMK.out
            rw [List.length_map, List.length_take] at this
            have := HI3.out
            omega
          have hkeep : ∀ k, w.heap.size + 2 ≤ k → k < w3.heap.size → w4.heap[k]? = w3.heap[k]? := fun k hk hlt' => HG4.out.block k hlt' (fun e => by injection e with e; omega)
          rcases Nat.lt_or_ge j m.length with hj | hj
          · rw [List.getElem_append_left hj]
            exact ((HME.out j h1 hj).below_ HB'.out).kept hkeep
          · have hji : j = i := by rw [List.length_append, List.length_singleton] at h2; omega
            subst hji
            have e : (m ++ [(s, v)])[j]'h2 = (s, v) := by rw [List.getElem_append_right hj]; simp [hml]
            rw [e, ← HYI.out HI4.out]
            exact (HV3.out.lower (show w.heap.size + 2 ≤ wr.drew.heap.size from hsz)).kept hkeep
        · exact (below_then HB.out HB.out.size HB'.out).grown HG4.out (by have := HB'.out.size; have := HB.out.size; omega) (fun k e => by injection e with e; omega)
      case measure => first | (simp [intOf]; done) | (simp [intOf]; omega)
    · obtain rfl : i = n := by omega
      go_wp2
      go_ret
      obtain ⟨m, hm, hmk, hme⟩ := HM.out
      exact ⟨_, rfl, ⟨m, hm, hmk, fun j h1 h2 => (hme j h1 h2).lower (by omega)⟩, Nat.le_succ _, HBW.out⟩
theorem infoA : (Tryd.prog.info? 20).map (fun i => (i.zero, i.size, i.bytes)) = some (some .nilIface, 1, 16) := by kernel_rfl
theorem at_A {w : World} {A : Option Addr} {n : Nat} {xs : List AV} (h : kA.C w A n xs) (i : Nat) (hi : i < n) : ∃ ad, A = some ad ∧ w.cell? (ad.add i) = some (xs.getD i .nil).enc := by
  obtain ⟨ad, c, e, _, hK, hc⟩ := Kd.C_get h .nil (i : Int) (by omega) (by omega)
  have hK' : c = [(xs.getD i .nil).enc] := hK
  have h0 := hc 0 (xs.getD i .nil).enc (by rw [hK']; rfl)
  refine ⟨ad, e, ?_⟩
  simpa [kA, Kd.scalar] using h0
/-- the part of a list that has been made -/
def ListTo (lo : Nat) (w : World) (x : IV) (i : Nat) (vs : List AV) : Prop := ∀ (j : Nat) (h1 : j < x.f4.length) (h2 : j < vs.length), j < i → AnyIs lo w (x.f4[j]'h1) (vs[j]'h2)
set_option maxHeartbeats 8000000 in
set_option maxRecDepth 100000 in
theorem toAny_step (x : IV) (hc : Canon x) (w : World) (IH : ∀ y ∈ x.f4, ∀ W, Below w.heap.size w W → ToAnyC y W) : ToAnyC x w := by
  intro A3 c3 A4 c4 m3 q3 m4 q4
  have HTM := Lib.hid (fun (h5 : x.f0 = 5) (W : World) (hW : Below w.heap.size w W) => impl_toMap x hc h5 A3 c3 A4 c4 W (Kd.C_below q3 hW) (Kd.C_below q4 hW) (fun y hy V hV => IH y hy V (below_then hW hW.size hV)))
  have HI := Lib.hid IH
  have HC := Lib.hid hc
  have Q4 := Aside0.mk q4
  have Q3 := Aside0.mk q3
  have M3 := Aside0.mk m3
  have M4 := Aside0.mk m4
  clear hc IH q3 q4 m3 m4
  unfold cellsI at *
  by_cases h1 : x.f0 = 1
  · have HF0 := Lib.hid h1
    rw [h1]
    clear h1
    go_enter Tryd.func30, Tryd.ntmps30
    go_wp2
    go_ret
    exact ⟨.bool (x.f1 != 0), rfl, .bool HF0.out, (Below.refl _ _).alloc (Nat.le_refl _) _⟩
  by_cases h2 : x.f0 = 2
  · have HF0 := Lib.hid h2
    rw [h2]
    clear h2
    go_enter Tryd.func30, Tryd.ntmps30
    go_wp2
    go_ret
    exact ⟨.int x.f1, rfl, .int HF0.out, (Below.refl _ _).alloc (Nat.le_refl _) _⟩
  by_cases h3 : x.f0 = 3
  · have HF0 := Lib.hid h3
    rw [h3]
    clear h3
    go_enter Tryd.func30, Tryd.ntmps30
    go_wp2
    go_ret
    exact ⟨.text x.f2, rfl, .text HF0.out, (Below.refl _ _).alloc (Nat.le_refl _) _⟩
  by_cases h4 : x.f0 = 4
  · have HF0 := Lib.hid h4
    rw [h4]
    clear h4 HTM h1 h2 h3
    have hsh := HC.out.short
    obtain ⟨n, hn⟩ : ∃ n, n = x.f4.length := ⟨_, rfl⟩
    rw [← hn] at Q4 hsh
    rw [← hn]
    have HN := Lib.hid hn
    clear hn
    obtain ⟨W0, hW0⟩ : ∃ W0 : World, W0 = w.alloc (Obj.cells #[.int .i64 4, .int .i64 x.f1, .string x.f2, .slice A3 x.f3.length c3, .slice A4 n c4] 36) := ⟨_, rfl⟩
    have HBX : Aside0 (W0.heap.size = w.heap.size + 1 ∧ Below w.heap.size w W0 ∧ W0.heap[w.heap.size]? = some (.cells #[.int .i64 4, .int .i64 x.f1, .string x.f2, .slice A3 x.f3.length c3, .slice A4 n c4] 36 (0, 0))) := ⟨by rw [hW0]; exact ⟨by simp, (Below.refl _ _).alloc (Nat.le_refl _) _, (MapKept.heap_alloc w _).1⟩⟩
    have HW0 := Lib.hid hW0
    clear hW0
    go_enter Tryd.func30, Tryd.ntmps30
    go_wp2_with (rw [← HW0.out]; refine Kd.R_make kA (w0 := W0) W0.heap.size 20 rfl (N := 28) rfl 81 _ _ rfl (n : Int) rfl rfl Tryd.underlying81 .nilIface 16 infoA rfl (by decide) (by decide) AV.nil (ok := fun _ => True) (okp := fun _ => True) rfl (fun _ hk => hk) trivial (by omega) ?hl ?hB ?hS ?_; (case hl => simp only [Int.toNat_natCast]; omega); (case hB => exact Below.refl _ _); (case hS => exact Nat.le_refl _); intro v1 w1 ho1 hb1 hg1 hn1; simp only [Int.toNat_natCast] at ho1; have HO1 := Aside0.mk ho1; have HB1 := Aside0.mk hb1; have HN1 := Aside0.mk hn1; have k4 : w1.cell? ⟨w.heap.size, 4, none⟩ = some (.slice A4 n c4) := (by have h := (hb1.block w.heap.size (by rw [HBX.out.1]; exact Nat.lt_succ_self _)).trans HBX.out.2.2; simp [World.cell?, h]); clear ho1 hb1 hg1 hn1)
    obtain ⟨g, cap, rfl, hgb, hgl⟩ : ∃ g cap, v1 = .slice (some ⟨g, 0, none⟩) n cap ∧ W0.heap.size ≤ g ∧ g < w1.heap.size := by
      obtain ⟨b, hb, _⟩ := HN1.out
      obtain ⟨_, inner, hown, _⟩ := HO1.out
      have hlt := own_lt hown b hb
      have hbs := own_base hown b hb
      rcases hown.2 with ⟨hv, _⟩ | ⟨g, cap, cur, hv, _⟩
      · rw [hv] at hb; simp [Value.ownBlock] at hb
      · rw [hv] at hb
        have : g = b := by simpa [Value.ownBlock] using hb
        subst this
        exact ⟨g, cap, by rw [hv, List.length_replicate], hbs, hlt⟩
    go_loopw [32] (fun v32 wr => ∃ (i : Nat) (vs : List AV), i ≤ n ∧ v32 = .int .i64 i ∧ vs.length = n ∧ Aside0 (kA.R 20 wr W0.heap.size (fun _ => True) (.slice (some ⟨g, 0, none⟩) n cap) vs) ∧ Aside0 (ListTo (g + 1) wr x i vs) ∧ Aside0 (Below W0.heap.size W0 wr)) (fun v32 _ => n - (intOf v32).toNat)
    case atStart => exact ⟨0, List.replicate n AV.nil, Nat.zero_le _, rfl, List.length_replicate, HO1, ⟨fun j _ _ h => absurd h (Nat.not_lt_zero _)⟩, HB1⟩
    case round =>
      obtain ⟨i, vs, hi, rfl, hvl, HO, HL, HB⟩ := hrel
      have hbox := (HB.out.block w.heap.size (by rw [HBX.out.1]; exact Nat.lt_succ_self _)).trans HBX.out.2.2
      have b4 : wr.cell? ⟨w.heap.size, 4, none⟩ = some (.slice A4 n c4) := by simp [World.cell?, hbox]
      have HBW : Aside0 (Below w.heap.size w wr) := ⟨HBX.out.2.1.trans (HB.out.mono (by rw [HBX.out.1]; exact Nat.le_succ _))⟩
      clear hbox
      by_cases hlt : i < n
      · have i0 : (0 : Int) ≤ (i : Int) := by omega
        have i1 : (i : Int) < (n : Int) := by omega
        have w1' := wr1 hlt (by omega)
        obtain ⟨ade, E3, d3, E4, d4, rfl, he0, he1, he2, he3, he4, m3, q3, m4, q4⟩ := at_T36 Q4.out (i : Int) i0 i1
        replace he0 := (HBW.out.cell (World.block_lt_of_cell? w _ he0)).trans he0
        replace he1 := (HBW.out.cell (World.block_lt_of_cell? w _ he1)).trans he1
        replace he2 := (HBW.out.cell (World.block_lt_of_cell? w _ he2)).trans he2
        replace he3 := (HBW.out.cell (World.block_lt_of_cell? w _ he3)).trans he3
        replace he4 := (HBW.out.cell (World.block_lt_of_cell? w _ he4)).trans he4
        have hi4 : i < x.f4.length := by rw [← HN.out]; exact hlt
        obtain ⟨y, hy⟩ : ∃ y, y = rd_T36 x.f4 (i : Int) := ⟨_, rfl⟩
        rw [← hy] at he0 he1 he2 he3 he4 m3 q3 m4 q4
        have hyi : y = x.f4[i]'hi4 := hy.trans (rd_getI hi4)
        simp only [Int.toNat_natCast] at he0 he1 he2 he3 he4
        have HY := Lib.hid (HI.out y (by rw [hyi]; exact List.getElem_mem hi4))
        have HYI : Hid (∀ h : i < x.f4.length, y = x.f4[i]'h) := Lib.hid (fun _ => hyi)
        have R3 := Aside0.mk (Kd.C_below q3 HBW.out)
        have R4 := Aside0.mk (Kd.C_below q4 HBW.out)
        have N3 := Aside0.mk m3
        have N4 := Aside0.mk m4
        have HI4 := Lib.hid hi4
        have HVL := Lib.hid hvl
        clear hy hyi q3 q4 m3 m4 hi4 hvl
        go_wp2_with fail
        refine (ToAnyC.use (HY.out wr HBW.out) E3 d3 E4 d4 N3.out R3.out N4.out R4.out).mono ?_
        rintro e w3 ⟨v, rfl, hv, hb⟩
        have HV := Aside0.mk hv
        have HBB := Aside0.mk hb
        have HO3 := Aside0.mk (Kd.R_below HO.out hb)
        clear hv hb
        obtain ⟨ad, ea, hold⟩ := at_A (Kd.R_reads' HO3.out).2.2 i (by rw [HVL.out]; exact hlt)
        injection ea with ea
        subst ea
        simp only [add_plain] at hold
        have hfr : w3.frozen? ⟨g, i, none⟩ = false := by
          obtain ⟨_, inner, hown, _⟩ := HO3.out
          obtain ⟨cells, hcells⟩ := own_typed hown g rfl
          exact blk_frozen hcells _
        have HB3 := Aside0.mk (below_then HB.out HB.out.size HBB.out)
        have hcc : ∀ (j : Nat) (u : Value), [(vs.getD i AV.nil).enc][j]? = some u → w3.cell? ⟨g, (i : Int).toNat * kA.sz + j, none⟩ = some u := by
          intro j u hu
          rcases j with _ | j
          · injection hu with hu
            subst hu
            show w3.cell? ⟨g, (i : Int).toNat * 1 + 0, none⟩ = _
            rw [Int.toNat_natCast, Nat.mul_one, Nat.add_zero]
            exact hold
          · simp at hu
        have HCC := Lib.hid hcc
        have hvc : v.enc.cells.toList = [v.enc] := by cases v <;> rfl
        have HVC := Lib.hid hvc
        clear hold hfr hcc hvc
        go_wp2_with (refine Kd.R_store kA (w0 := W0) W0.heap.size rfl rfl 20 _ _ rfl 20 (i : Int) 0 vs v v.enc [v.enc] [(vs.getD i AV.nil).enc] (fun _ => True) (fun _ => False) rfl ?ho rfl HVC.out ?ht ?h1 HO3.out i0 (by omega) rfl HCC.out ?hj rfl (fun _ h => h.elim) HB3.out ?_; (case ho => show _ = (i : Int).toNat * 1 + 0; simp); (case ht => exact (show (Tryd.prog.info? 20).map (·.size) = some 1 by kernel_rfl)); (case h1 => intro q hq; rw [List.mem_singleton.1 hq]; exact AV.enc_one v); (case hj => exact Nat.le_refl 1); intro w4 ho4 hb4 hg4; have HO4 := Aside0.mk ho4; have HB4 := Aside0.mk hb4; have HG4 := Aside0.mk hg4; clear ho4 hb4 hg4)
        go_roundw
        case rel =>
          have hgw : g < wr.heap.size := by
            obtain ⟨_, inner, hown, _⟩ := HO.out
            exact own_lt hown g rfl
          have hkeep : ∀ k, g + 1 ≤ k → k < w3.heap.size → w4.heap[k]? = w3.heap[k]? := fun k hk hlt' => HG4.out.block k hlt' (fun e => by injection e with e; omega)
          refine ⟨i + 1, vs.set i v, hlt, by go_num, by rw [List.length_set]; exact HVL.out, HO4, ⟨fun j h1 h2 hj => ?_⟩, HB4⟩
          rcases Nat.lt_or_ge j i with hji | hji
          · have h2' : j < vs.length := by rw [List.length_set] at h2; exact h2
            rw [List.getElem_set_ne (by omega)]
            exact ((HL.out j h1 h2' hji).below_ HBB.out).kept hkeep
          · obtain rfl : j = i := by omega
            rw [List.getElem_set_self, ← HYI.out h1]
            exact (HV.out.lower hgw).kept hkeep
        case measure => first | (simp [intOf]; done) | (simp [intOf]; omega)
      · obtain rfl : i = n := by omega
        go_wp2
        go_ret
        obtain ⟨A, c, hA, hl, hC⟩ := Kd.R_reads HO.out
        injection hA with hA hA2 hA3
        subst hA
        subst hA3
        refine ⟨.sl (some ⟨g, 0, none⟩) i cap, rfl, ?_, HBW.out⟩
        have h := AnyIs.list (lo := w.heap.size) (w := wr) (x := x) (A := some ⟨g, 0, none⟩) (c := cap) (vs := vs) HF0.out (hvl.trans HN.out) hl hC (fun ad e => by injection e with e; subst e; have := HBX.out.1; show w.heap.size ≤ g; omega) (fun j h1 h2 => (HL.out j h1 h2 (by rw [hvl] at h2; exact h2)).lower (by have := HBX.out.1; omega))
        rw [hvl] at h
        exact h
  by_cases h5 : x.f0 = 5
  · have HF0 := Lib.hid h5
    rw [h5]
    clear h5
    have HT := Lib.hid (HTM.out HF0.out)
    rw [HF0.out] at HT
    have HBA : Aside0 (Below w.heap.size w (w.alloc (Obj.cells #[.int .i64 5, .int .i64 x.f1, .string x.f2, .slice A3 x.f3.length c3, .slice A4 x.f4.length c4] 36))) := ⟨(Below.refl _ _).alloc (Nat.le_refl _) _⟩
    clear h1 h2 h3 h4 HTM
    go_enter Tryd.func30, Tryd.ntmps30
    go_wp2_with fail
    refine (HT.out _ HBA.out).mono ?_
    rintro e w2 ⟨b, rfl, ⟨m, hm, hmk, hme⟩, hbb, hb⟩
    have HM := Aside0.mk hm
    have HMK := Lib.hid hmk
    have HME := Lib.hid hme
    have HB := Aside0.mk (below_then HBA.out HBA.out.size hb)
    have hbb' : w.heap.size ≤ b := by simp at hbb; omega
    clear hm hmk hme hb hbb
    go_wp2
    go_ret
    have hlen := (HC.out.keys HF0.out).2
    refine ⟨.map b, rfl, .map HF0.out HM.out hbb' (by rw [HMK.out, List.take_length]) ?_ (fun j q1 q2 => (HME.out j q1 q2).lower (by simp)), HB.out⟩
    have := congrArg List.length HMK.out
    rw [List.length_map, List.take_length] at this
    omega
  · have e1 : (x.f0 == 1) = false := by simpa using h1
    have e2 : (x.f0 == 2) = false := by simpa using h2
    have e3 : (x.f0 == 3) = false := by simpa using h3
    have e4 : (x.f0 == 4) = false := by simpa using h4
    have e5 : (x.f0 == 5) = false := by simpa using h5
    have HX : Hid (x.f0 < 1 ∨ 5 < x.f0) := Lib.hid (by omega)
    go_enter Tryd.func30, Tryd.ntmps30
    go_wp2
    go_ret
    exact ⟨.nil, rfl, .nil HX.out, (Below.refl _ _).alloc (Nat.le_refl _) _⟩
theorem impl_toAny : ∀ (n : Nat) (x : IV), SizeOf.sizeOf x ≤ n → Canon x → ∀ w, ToAnyC x w
  | 0, x, h, _, _ => by cases x; simp at h
  | n + 1, x, h, hc, w => toAny_step x hc w (fun y hy W _ => impl_toAny n y (by have := size_sub hy; omega) (hc.sub hy) W)
end Go.Proofs.YtgeamhmenmomhaaDoor.A
