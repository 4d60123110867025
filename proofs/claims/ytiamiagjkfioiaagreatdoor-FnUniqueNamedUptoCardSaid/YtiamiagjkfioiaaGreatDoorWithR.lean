/- The walk of spec.With, of every map (over values as their cells; printed by gen_withr.py). -/
import Derived.Test.YtiamiagjkfioiaaGreatDoorPlace
import Derived.Test.YtiamiagjkfioiaaGreatDoorRI
namespace Go.Proofs.YtiamiagjkfioiaaGreatDoor.A
set_option linter.unusedVariables false
set_option linter.unusedSimpArgs false
set_option linter.unusedSectionVars false
open Go.RowKit Go.Proofs.YtiamiagjkfioiaaGreatDoorW.PrintWords Go.Proofs.YtiamiagjkfioiaaGreatDoorW.PrintLast Go.Proofs.YtiamiagjkfioiaaGreatDoorW.PrintMore Go.Proofs.YtiamiagjkfioiaaGreatDoor.PT Go.Proofs.YtiamiagjkfioiaaGreatDoor.L

theorem infoS : (Tryz.prog.info? 9).map (fun i => (i.zero, i.size, i.bytes)) = some (some (.string ⟨#[]⟩), 1, 16) := by kernel_rfl
theorem infoV : (Tryz.prog.info? 26).map (fun i => (i.zero, i.size, i.bytes)) = some (some (.agg #[.int .i64 0, .int .i64 0, .string ⟨#[]⟩, .slice none 0 0, .slice none 0 0]), 5, 80) := by kernel_rfl
def withKs (key : ByteArray) (ks : List ByteArray) : List ByteArray := if placeB key ks then ks else ks.take (placeN key ks) ++ key :: ks.drop (placeN key ks)
def withVs (key : ByteArray) (ks : List ByteArray) (vs : List RV) (x : RV) : List RV := if placeB key ks then vs.set (placeN key ks) x else vs.take (placeN key ks) ++ x :: vs.drop (placeN key ks)
/-- what spec.With leaves -/
def WithSays (w : World) (ks' : List ByteArray) (vs' : List RV) (e : Ending) (w' : World) : Prop := ∃ A c A' c', e = .returned (.agg #[.int .i64 5, .int .i64 0, .string ⟨#[]⟩, .slice A ks'.length c, .slice A' vs'.length c']) ∧ ks'.length ≤ c ∧ Kd.C Kd.string w' A ks'.length ks' ∧ vs'.length ≤ c' ∧ Kd.C kR w' A' vs'.length vs' ∧ Fr w.heap.size A ∧ Fr w.heap.size A' ∧ Below w.heap.size w w'
theorem new_at {w : World} {o : Obj} {n : Nat} (h : w.heap.size = n) : (w.alloc o).heap[n]? = some o := by rw [← h]; exact (MapKept.heap_alloc w o).1
theorem heap_old {w : World} {o o' : Obj} {n : Nat} (h : w.heap[n]? = some o) : (w.alloc o').heap[n]? = some o := ((Below.refl w.heap.size w).alloc (Nat.le_refl _) o').block n (blk_lt h) |>.trans h
set_option maxHeartbeats 8000000 in
set_option maxRecDepth 100000 in
theorem spec_WithR (n0 n1 : Int) (tx key : ByteArray) (ks : List ByteArray) (vs : List RV) (x : RV) (A3 : Option Addr) (c3 : Nat) (A4 : Option Addr) (c4 : Nat) (w : World)
    (hk : Kd.C Kd.string w A3 ks.length ks) (hv : Kd.C kR w A4 vs.length vs)
    (hn : ks.length ≤ 1099511627776) (hl : vs.length = ks.length) :
    Calls Tryz.prog 22 #[.agg #[.int .i64 n0, .int .i64 n1, .string tx, .slice A3 ks.length c3, .slice A4 vs.length c4], .string key, .agg #[.int .i64 x.n0, .int .i64 x.n1, .string x.t, .slice x.A x.an x.ac, .slice x.B x.bn x.bc]] w (WithSays w (withKs key ks) (withVs key ks vs x)) := by
  have hvb : vs.length ≤ 1099511627776 := by omega
  have HLV := Lib.hid hl
  clear hl
  obtain ⟨W0, hW0⟩ : ∃ W0 : World, W0 = ((w.alloc (Obj.cells #[.int .i64 n0, .int .i64 n1, .string tx, .slice A3 ks.length c3, .slice A4 vs.length c4] 26)).alloc (Obj.cells #[.int .i64 x.n0, .int .i64 x.n1, .string x.t, .slice x.A x.an x.ac, .slice x.B x.bn x.bc] 26)).alloc (Obj.cells #[.int .i64 0, .int .i64 0, .string ⟨#[]⟩, .slice none 0 0, .slice none 0 0] 26) := ⟨_, rfl⟩
  have HSZ0 : Aside0 (W0.heap.size = w.heap.size + 3) := ⟨by rw [hW0]; simp⟩
  have HBV : Aside0 (W0.heap[w.heap.size]? = some (.cells #[.int .i64 n0, .int .i64 n1, .string tx, .slice A3 ks.length c3, .slice A4 vs.length c4] 26 (0, 0))) := ⟨by rw [hW0]; exact heap_old (heap_old (new_at rfl))⟩
  have HBX : Aside0 (W0.heap[w.heap.size + 1]? = some (.cells #[.int .i64 x.n0, .int .i64 x.n1, .string x.t, .slice x.A x.an x.ac, .slice x.B x.bn x.bc] 26 (0, 0))) := ⟨by rw [hW0]; exact heap_old (new_at (by simp))⟩
  have HB6 : Aside0 (W0.heap[w.heap.size + 1 + 1]? = some (.cells #[.int .i64 0, .int .i64 0, .string ⟨#[]⟩, .slice none 0 0, .slice none 0 0] 26 (0, 0))) := ⟨by rw [hW0]; exact new_at (by simp)⟩
  have HC3 : Aside0 (W0.cell? ⟨w.heap.size, 3, none⟩ = some (.slice A3 ks.length c3)) := ⟨by have := HBV.out; simp [World.cell?, this]⟩
  have HC4 : Aside0 (W0.cell? ⟨w.heap.size, 4, none⟩ = some (.slice A4 vs.length c4)) := ⟨by have := HBV.out; simp [World.cell?, this]⟩
  have HBW : Aside0 (Below w.heap.size w W0) := ⟨by rw [hW0]; exact (((Below.refl _ _).alloc (Nat.le_refl _) _).alloc (by simp) _).alloc (by simp; omega) _⟩
  have GK := Aside0.mk (Kd.C_below hk HBW.out)
  have GV := Aside0.mk hv
  have HXK : Aside0 (kR.K w x [.int .i64 x.n0, .int .i64 x.n1, .string x.t, .slice x.A x.an x.ac, .slice x.B x.bn x.bc]) := ⟨rfl⟩
  have HW0 := Lib.hid hW0
  clear hW0 hk hv
  go_enter Tryz.func22, Tryz.ntmps22
  go_upto_region 1 with fail
  rw [← HW0.out]
  have HB : Aside0 (Below W0.heap.size W0 W0) := ⟨Below.refl _ _⟩
  refine start_ (n := 11) (S := fun w' => w'.cell? ⟨w.heap.size, 3, none⟩ = some (.slice A3 ks.length c3) ∧ w'.cell? ⟨w.heap.size, 4, none⟩ = some (.slice A4 vs.length c4)) (ds := [10]) #[false, false, false, false, false, false, false, false, false, false, false] (by kernel_rfl) rfl rfl ⟨HC3.out, HC4.out⟩ (fun hHeld => ?_)
  refine pure_ (i := 1) (N := some 11) (v := ?_) (a' := ?_) #[false, true, false, false, false, false, false, false, false, false, false] rfl rfl (by kernel_rfl) (fun _ _ _ h => h) (Or.inl ⟨by rfl, ?_⟩) ?_ ?_
  rotate_left
  · intro w'
    go_simp
    with_reducible rfl
  rotate_left
  · simp only [Act.put, List.setIfInBounds_toArray, List.set_cons_zero, List.set_cons_succ, i64_w, i32_w]
    rfl
  refine pure_ (i := 5) (N := some 15) (v := ?_) (a' := ?_) #[false, true, false, false, false, true, false, false, false, false, false] rfl rfl (by kernel_rfl) (fun _ _ _ h => h) (Or.inl ⟨by rfl, ?_⟩) ?_ ?_
  rotate_left
  · intro w'
    go_simp
    with_reducible rfl
  rotate_left
  · simp only [Act.put, List.setIfInBounds_toArray, List.set_cons_zero, List.set_cons_succ, i64_w, i32_w]
    rfl
  refine take_ (i := 2) (N := some 12) (v := ?_) (a' := ?_) #[false, true, true, false, false, true, false, false, false, false, false] rfl rfl (by kernel_rfl) (fun _ _ _ h => h) (Or.inl ⟨by rfl, ?_⟩) hHeld ?_ ?_
  rotate_left
  · rintro w' ⟨s0, s1⟩
    go_simp
    with_reducible rfl
  rotate_left
  · simp only [Act.put, List.setIfInBounds_toArray, List.set_cons_zero, List.set_cons_succ, i64_w, i32_w]
    rfl
  refine take_ (i := 6) (N := some 16) (v := ?_) (a' := ?_) #[false, true, true, false, false, true, true, false, false, false, false] rfl rfl (by kernel_rfl) (fun _ _ _ h => h) (Or.inl ⟨by rfl, ?_⟩) hHeld ?_ ?_
  rotate_left
  · rintro w' ⟨s0, s1⟩
    go_simp
    with_reducible rfl
  rotate_left
  · simp only [Act.put, List.setIfInBounds_toArray, List.set_cons_zero, List.set_cons_succ, i64_w, i32_w]
    rfl
  refine join_ (σ := Value × (Option Addr × Nat) × Value × (Option Addr × Nat) × Nat) 1 #[true, true, true, true, true, true, true, true, true, true, false] (fun s => [(10, s.1), (13, .slice s.2.1.1 ks.length s.2.1.2), (14, s.2.2.1), (17, .slice s.2.2.2.1.1 vs.length s.2.2.2.1.2), (7, .pointer (some ⟨s.2.2.2.2, 0, none⟩)), (18, .agg #[.int .i64 5, .int .i64 0, .string ⟨#[]⟩, .slice s.2.1.1 ks.length s.2.1.2, .slice s.2.2.2.1.1 vs.length s.2.2.2.1.2])]) (fun s w' => Below W0.heap.size W0 w' ∧ Kd.R Kd.string 9 w' W0.heap.size (fun _ => True) ((.slice s.2.1.1 ks.length s.2.1.2)) (ks : List ByteArray) ∧ Kd.R kR 26 w' W0.heap.size (fun _ => True) ((.slice s.2.2.2.1.1 vs.length s.2.2.2.1.2)) (vs : List RV) ∧ (w'.heap[s.2.2.2.2]? = some (.cells #[.int .i64 0, .int .i64 0, .string ⟨#[]⟩, .slice none 0 0, .slice none 0 0] 26 (0, 0)) ∧ W0.heap.size ≤ s.2.2.2.2) ∧ Sep ((.slice s.2.1.1 ks.length s.2.1.2)) ((.slice s.2.2.2.1.1 vs.length s.2.2.2.1.2)) ∧ Value.ownBlock ((.slice s.2.1.1 ks.length s.2.1.2)) ≠ some s.2.2.2.2 ∧ Value.ownBlock ((.slice s.2.2.2.1.1 vs.length s.2.2.2.1.2)) ≠ some s.2.2.2.2) ?_ ?_
  rotate_left
  · intro hJ0_3_4_7_9
    refine join_ (σ := Value × (Option Addr × Nat) × Value × (Option Addr × Nat) × Nat) 2 #[true, true, true, true, true, true, true, true, true, false, false] (fun s => [(10, s.1), (13, .slice s.2.1.1 ks.length s.2.1.2), (14, s.2.2.1), (17, .slice s.2.2.2.1.1 vs.length s.2.2.2.1.2), (18, .agg #[.int .i64 5, .int .i64 0, .string ⟨#[]⟩, .slice s.2.1.1 ks.length s.2.1.2, .slice s.2.2.2.1.1 vs.length s.2.2.2.1.2])]) (fun s w' => Below W0.heap.size W0 w' ∧ Kd.R Kd.string 9 w' W0.heap.size (fun _ => True) ((.slice s.2.1.1 ks.length s.2.1.2)) (ks : List ByteArray) ∧ Kd.R kR 26 w' W0.heap.size (fun _ => True) ((.slice s.2.2.2.1.1 vs.length s.2.2.2.1.2)) (vs : List RV) ∧ Sep ((.slice s.2.1.1 ks.length s.2.1.2)) ((.slice s.2.2.2.1.1 vs.length s.2.2.2.1.2))) ?_ ?_
    rotate_left
    · intro hJ0_3_4_7
      refine join_ (σ := Value × (Option Addr × Nat) × Value × (Option Addr × Nat) × Nat) 3 #[true, true, true, true, true, true, true, false, false, true, false] (fun s => [(10, s.1), (13, .slice s.2.1.1 ks.length s.2.1.2), (14, s.2.2.1), (7, .pointer (some ⟨s.2.2.2.2, 0, none⟩))]) (fun s w' => Below W0.heap.size W0 w' ∧ Kd.R Kd.string 9 w' W0.heap.size (fun _ => True) ((.slice s.2.1.1 ks.length s.2.1.2)) (ks : List ByteArray) ∧ Kd.R kR 26 w' W0.heap.size (fun _ => True) (s.2.2.1) ([] : List RV) ∧ (w'.heap[s.2.2.2.2]? = some (.cells #[.int .i64 0, .int .i64 0, .string ⟨#[]⟩, .slice none 0 0, .slice none 0 0] 26 (0, 0)) ∧ W0.heap.size ≤ s.2.2.2.2) ∧ Sep ((.slice s.2.1.1 ks.length s.2.1.2)) (s.2.2.1) ∧ Value.ownBlock ((.slice s.2.1.1 ks.length s.2.1.2)) ≠ some s.2.2.2.2 ∧ Value.ownBlock (s.2.2.1) ≠ some s.2.2.2.2) ?_ ?_
      rotate_left
      · intro hJ0_3_4_9
        refine join_ (σ := Value × (Option Addr × Nat) × Value × (Option Addr × Nat) × Nat) 4 #[true, true, true, true, true, true, true, false, false, false, false] (fun s => [(10, s.1), (13, .slice s.2.1.1 ks.length s.2.1.2), (14, s.2.2.1)]) (fun s w' => Below W0.heap.size W0 w' ∧ Kd.R Kd.string 9 w' W0.heap.size (fun _ => True) ((.slice s.2.1.1 ks.length s.2.1.2)) (ks : List ByteArray) ∧ Kd.R kR 26 w' W0.heap.size (fun _ => True) (s.2.2.1) ([] : List RV) ∧ Sep ((.slice s.2.1.1 ks.length s.2.1.2)) (s.2.2.1)) ?_ ?_
        rotate_left
        · intro hJ0_3_4
          refine join_ (σ := Value × (Option Addr × Nat) × Value × (Option Addr × Nat) × Nat) 4 #[true, true, true, true, false, true, true, false, false, true, false] (fun s => [(10, s.1), (13, .slice s.2.1.1 ks.length s.2.1.2), (7, .pointer (some ⟨s.2.2.2.2, 0, none⟩))]) (fun s w' => Below W0.heap.size W0 w' ∧ Kd.R Kd.string 9 w' W0.heap.size (fun _ => True) ((.slice s.2.1.1 ks.length s.2.1.2)) (ks : List ByteArray) ∧ (w'.heap[s.2.2.2.2]? = some (.cells #[.int .i64 0, .int .i64 0, .string ⟨#[]⟩, .slice none 0 0, .slice none 0 0] 26 (0, 0)) ∧ W0.heap.size ≤ s.2.2.2.2) ∧ Value.ownBlock ((.slice s.2.1.1 ks.length s.2.1.2)) ≠ some s.2.2.2.2) ?_ ?_
          rotate_left
          · intro hJ0_3_9
            refine join_ (σ := Value × (Option Addr × Nat) × Value × (Option Addr × Nat) × Nat) 4 #[true, true, true, false, true, true, true, false, false, true, false] (fun s => [(10, s.1), (14, s.2.2.1), (7, .pointer (some ⟨s.2.2.2.2, 0, none⟩))]) (fun s w' => Below W0.heap.size W0 w' ∧ Kd.R Kd.string 9 w' W0.heap.size (fun _ => True) (s.1) ([] : List ByteArray) ∧ Kd.R kR 26 w' W0.heap.size (fun _ => True) (s.2.2.1) ([] : List RV) ∧ (w'.heap[s.2.2.2.2]? = some (.cells #[.int .i64 0, .int .i64 0, .string ⟨#[]⟩, .slice none 0 0, .slice none 0 0] 26 (0, 0)) ∧ W0.heap.size ≤ s.2.2.2.2) ∧ Sep (s.1) (s.2.2.1) ∧ Value.ownBlock (s.1) ≠ some s.2.2.2.2 ∧ Value.ownBlock (s.2.2.1) ≠ some s.2.2.2.2) ?_ ?_
            rotate_left
            · intro hJ0_4_9
              refine join_ (σ := Value × (Option Addr × Nat) × Value × (Option Addr × Nat) × Nat) 5 #[true, true, true, true, false, true, true, false, false, false, false] (fun s => [(10, s.1), (13, .slice s.2.1.1 ks.length s.2.1.2)]) (fun s w' => Below W0.heap.size W0 w' ∧ Kd.R Kd.string 9 w' W0.heap.size (fun _ => True) ((.slice s.2.1.1 ks.length s.2.1.2)) (ks : List ByteArray)) ?_ ?_
              rotate_left
              · intro hJ0_3
                refine join_ (σ := Value × (Option Addr × Nat) × Value × (Option Addr × Nat) × Nat) 5 #[true, true, true, false, true, true, true, false, false, false, false] (fun s => [(10, s.1), (14, s.2.2.1)]) (fun s w' => Below W0.heap.size W0 w' ∧ Kd.R Kd.string 9 w' W0.heap.size (fun _ => True) (s.1) ([] : List ByteArray) ∧ Kd.R kR 26 w' W0.heap.size (fun _ => True) (s.2.2.1) ([] : List RV) ∧ Sep (s.1) (s.2.2.1)) ?_ ?_
                rotate_left
                · intro hJ0_4
                  refine join_ (σ := Value × (Option Addr × Nat) × Value × (Option Addr × Nat) × Nat) 5 #[true, true, true, false, false, true, true, false, false, true, false] (fun s => [(10, s.1), (7, .pointer (some ⟨s.2.2.2.2, 0, none⟩))]) (fun s w' => Below W0.heap.size W0 w' ∧ Kd.R Kd.string 9 w' W0.heap.size (fun _ => True) (s.1) ([] : List ByteArray) ∧ (w'.heap[s.2.2.2.2]? = some (.cells #[.int .i64 0, .int .i64 0, .string ⟨#[]⟩, .slice none 0 0, .slice none 0 0] 26 (0, 0)) ∧ W0.heap.size ≤ s.2.2.2.2) ∧ Value.ownBlock (s.1) ≠ some s.2.2.2.2) ?_ ?_
                  rotate_left
                  · intro hJ0_9
                    refine join_ (σ := Value × (Option Addr × Nat) × Value × (Option Addr × Nat) × Nat) 5 #[false, true, true, false, true, true, true, false, false, true, false] (fun s => [(14, s.2.2.1), (7, .pointer (some ⟨s.2.2.2.2, 0, none⟩))]) (fun s w' => Below W0.heap.size W0 w' ∧ Kd.R kR 26 w' W0.heap.size (fun _ => True) (s.2.2.1) ([] : List RV) ∧ (w'.heap[s.2.2.2.2]? = some (.cells #[.int .i64 0, .int .i64 0, .string ⟨#[]⟩, .slice none 0 0, .slice none 0 0] 26 (0, 0)) ∧ W0.heap.size ≤ s.2.2.2.2) ∧ Value.ownBlock (s.2.2.1) ≠ some s.2.2.2.2) ?_ ?_
                    rotate_left
                    · intro hJ4_9
                      refine join_ (σ := Value × (Option Addr × Nat) × Value × (Option Addr × Nat) × Nat) 6 #[true, true, true, false, false, true, true, false, false, false, false] (fun s => [(10, s.1)]) (fun s w' => Below W0.heap.size W0 w' ∧ Kd.R Kd.string 9 w' W0.heap.size (fun _ => True) (s.1) ([] : List ByteArray)) ?_ ?_
                      rotate_left
                      · intro hJ0
                        refine join_ (σ := Value × (Option Addr × Nat) × Value × (Option Addr × Nat) × Nat) 6 #[false, true, true, false, true, true, true, false, false, false, false] (fun s => [(14, s.2.2.1)]) (fun s w' => Below W0.heap.size W0 w' ∧ Kd.R kR 26 w' W0.heap.size (fun _ => True) (s.2.2.1) ([] : List RV)) ?_ ?_
                        rotate_left
                        · intro hJ4
                          refine join_ (σ := Value × (Option Addr × Nat) × Value × (Option Addr × Nat) × Nat) 6 #[false, true, true, false, false, true, true, false, false, true, false] (fun s => [(7, .pointer (some ⟨s.2.2.2.2, 0, none⟩))]) (fun s w' => Below W0.heap.size W0 w' ∧ (w'.heap[s.2.2.2.2]? = some (.cells #[.int .i64 0, .int .i64 0, .string ⟨#[]⟩, .slice none 0 0, .slice none 0 0] 26 (0, 0)) ∧ W0.heap.size ≤ s.2.2.2.2)) ?_ ?_
                          rotate_left
                          · intro hJ9
                            refine three_ (i := 0) (j := 4) (k := 9) (Ni := some 10) (Nj := some 14) (Nk := some 7) #[true, true, true, false, false, true, true, false, false, false, false] #[false, true, true, false, true, true, true, false, false, false, false] #[false, true, true, false, false, true, true, false, false, true, false] rfl rfl rfl rfl rfl rfl (by kernel_rfl) (by decide) (by decide) (by decide) (fun K hK => ?_) (fun K hK => ?_) (fun K hK => ?_)
                            · skip
                              refine Kd.R_lit_step Kd.string (w0 := W0) W0.heap.size 9 ?hg (N := 10) ?hd (xs := []) (inner := []) (ok := fun _ => True) (okp := fun _ => True) ?hr ?hp (fun _ hk => hk) trivial ?hB ?hS (by simp) ?_; (case hd => rfl); (case hg => rfl); (case hr => first | (go_simp; done) | (go_simp; rfl)); (case hp => exact Reps.none _ _); (case hB => repeat (first | exact HB.out | apply below_drew1)); (case hS => exact HB.out.size)
                              intro u0 w1 ho hb hg hn
                              have HB1 := Aside0.mk hb
                              have HK1 := Aside0.mk ho
                              clear ho hb hg hn
                              refine hK.out _ _ ⟨((HB1.out).cell (World.block_lt_of_cell? W0 _ HC3.out)).trans HC3.out, ((HB1.out).cell (World.block_lt_of_cell? W0 _ HC4.out)).trans HC4.out⟩ (fun hHeld => ?_)
                              clear hK K
                              refine norm_ (a' := ?_) ?_ ?_
                              rotate_left
                              · show Act.put _ (some 10) _ = _
                                simp only [Act.put, List.setIfInBounds_toArray, List.set_cons_zero, List.set_cons_succ, i64_w, i32_w]
                                rfl
                              exact norm_ (by first | (simp only [putAll, Act.put, List.setIfInBounds_toArray, List.set_cons_zero, List.set_cons_succ]; done) | (simp only [putAll, Act.put, List.setIfInBounds_toArray, List.set_cons_zero, List.set_cons_succ]; rfl)) (hJ0 (u0, (none, 0), Value.nilIface, (none, 0), 0) _ ⟨HB1.out, HK1.out⟩)
                            · skip
                              refine Kd.R_lit_step kR (w0 := W0) W0.heap.size 26 ?hg (N := 14) ?hd (xs := []) (inner := []) (ok := fun _ => True) (okp := fun _ => True) ?hr ?hp (fun _ hk => hk) trivial ?hB ?hS (by simp) ?_; (case hd => rfl); (case hg => rfl); (case hr => first | (go_simp; done) | (go_simp; rfl)); (case hp => exact Reps.none _ _); (case hB => repeat (first | exact HB.out | apply below_drew1)); (case hS => exact HB.out.size)
                              intro u4 w1 ho hb hg hn
                              have HB1 := Aside0.mk hb
                              have HV1 := Aside0.mk ho
                              clear ho hb hg hn
                              refine hK.out _ _ ⟨((HB1.out).cell (World.block_lt_of_cell? W0 _ HC3.out)).trans HC3.out, ((HB1.out).cell (World.block_lt_of_cell? W0 _ HC4.out)).trans HC4.out⟩ (fun hHeld => ?_)
                              clear hK K
                              refine norm_ (a' := ?_) ?_ ?_
                              rotate_left
                              · show Act.put _ (some 14) _ = _
                                simp only [Act.put, List.setIfInBounds_toArray, List.set_cons_zero, List.set_cons_succ, i64_w, i32_w]
                                rfl
                              exact norm_ (by first | (simp only [putAll, Act.put, List.setIfInBounds_toArray, List.set_cons_zero, List.set_cons_succ]; done) | (simp only [putAll, Act.put, List.setIfInBounds_toArray, List.set_cons_zero, List.set_cons_succ]; rfl)) (hJ4 (Value.nilIface, (none, 0), u4, (none, 0), 0) _ ⟨HB1.out, HV1.out⟩)
                            · skip
                              refine value_ (w1 := ?_) (v := ?_) (by rfl) rfl ?_ ?_
                              rotate_left 2
                              · go_simp
                                constructor
                                · rfl
                                · rfl
                              have HB1 : Aside0 (Below W0.heap.size W0 (World.alloc (W0.drew) (Obj.cells #[.int .i64 0, .int .i64 0, .string ⟨#[]⟩, .slice none 0 0, .slice none 0 0] 26))) := Aside0.mk (Below.alloc (show Below W0.heap.size W0 (W0.drew) from by repeat (first | exact HB.out | apply below_drew1)) HB.out.size _)
                              have H91 : Aside0 ((World.alloc (W0.drew) (Obj.cells #[.int .i64 0, .int .i64 0, .string ⟨#[]⟩, .slice none 0 0, .slice none 0 0] 26)).heap[(W0.drew).heap.size]? = some (.cells #[.int .i64 0, .int .i64 0, .string ⟨#[]⟩, .slice none 0 0, .slice none 0 0] 26 (0, 0)) ∧ W0.heap.size ≤ (W0.drew).heap.size) := Aside0.mk ⟨(MapKept.heap_alloc _ _).1, HB.out.size⟩
                              refine hK.out _ _ ⟨((HB1.out).cell (World.block_lt_of_cell? W0 _ HC3.out)).trans HC3.out, ((HB1.out).cell (World.block_lt_of_cell? W0 _ HC4.out)).trans HC4.out⟩ (fun hHeld => ?_)
                              clear hK K
                              refine norm_ (a' := ?_) ?_ ?_
                              rotate_left
                              · show Act.put _ (some 7) _ = _
                                simp only [Act.put, List.setIfInBounds_toArray, List.set_cons_zero, List.set_cons_succ, i64_w, i32_w]
                                rfl
                              exact norm_ (by first | (simp only [putAll, Act.put, List.setIfInBounds_toArray, List.set_cons_zero, List.set_cons_succ]; done) | (simp only [putAll, Act.put, List.setIfInBounds_toArray, List.set_cons_zero, List.set_cons_succ]; rfl)) (hJ9 (Value.nilIface, (none, 0), Value.nilIface, (none, 0), (W0.drew).heap.size) _ ⟨HB1.out, H91.out⟩)
                          · skip
                            rintro ⟨u0, ⟨A13, c13⟩, u4, ⟨A17, c17⟩, b9⟩ w' ⟨hB_, h9_⟩
                            have HB := Aside0.mk hB_
                            have H9 := Aside0.mk h9_
                            have hHeld : w'.cell? ⟨w.heap.size, 3, none⟩ = some (.slice A3 ks.length c3) ∧ w'.cell? ⟨w.heap.size, 4, none⟩ = some (.slice A4 vs.length c4) := ⟨((hB_).cell (World.block_lt_of_cell? W0 _ HC3.out)).trans HC3.out, ((hB_).cell (World.block_lt_of_cell? W0 _ HC4.out)).trans HC4.out⟩
                            clear hB_ h9_
                            refine norm_ (a' := ?_) ?_ ?_
                            rotate_left
                            · simp only [putAll, Act.put, List.setIfInBounds_toArray, List.set_cons_zero, List.set_cons_succ]
                              rfl
                            refine two_ (i := 0) (j := 4) (Ni := some 10) (Nj := some 14) #[true, true, true, false, false, true, true, false, false, true, false] #[false, true, true, false, true, true, true, false, false, true, false] rfl rfl rfl rfl (by kernel_rfl) (by decide) (by decide) (fun K hK => ?_) (fun K hK => ?_)
                            · skip
                              refine Kd.R_lit_step Kd.string (w0 := W0) W0.heap.size 9 ?hg (N := 10) ?hd (xs := []) (inner := []) (ok := fun _ => True) (okp := fun _ => True) ?hr ?hp (fun _ hk => hk) trivial ?hB ?hS (by simp) ?_; (case hd => rfl); (case hg => rfl); (case hr => first | (go_simp; done) | (go_simp; rfl)); (case hp => exact Reps.none _ _); (case hB => repeat (first | exact HB.out | apply below_drew1)); (case hS => exact HB.out.size)
                              intro u0 w1 ho hb hg hn
                              have HB1 := Aside0.mk hb
                              have HK1 := Aside0.mk ho
                              have H91 := Aside0.mk (And.intro (blk_kept H9.out.1 hg (fun e => by cases e)) H9.out.2)
                              have HK91 := Aside0.mk (apart_new hn H9.out.1)
                              clear ho hb hg hn
                              refine hK.out _ _ ⟨((HB1.out).cell (World.block_lt_of_cell? W0 _ HC3.out)).trans HC3.out, ((HB1.out).cell (World.block_lt_of_cell? W0 _ HC4.out)).trans HC4.out⟩ (fun hHeld => ?_)
                              clear hK K
                              refine norm_ (a' := ?_) ?_ ?_
                              rotate_left
                              · show Act.put _ (some 10) _ = _
                                simp only [Act.put, List.setIfInBounds_toArray, List.set_cons_zero, List.set_cons_succ, i64_w, i32_w]
                                rfl
                              exact norm_ (by first | (simp only [putAll, Act.put, List.setIfInBounds_toArray, List.set_cons_zero, List.set_cons_succ]; done) | (simp only [putAll, Act.put, List.setIfInBounds_toArray, List.set_cons_zero, List.set_cons_succ]; rfl)) (hJ0_9 (u0, (none, 0), Value.nilIface, (none, 0), b9) _ ⟨HB1.out, HK1.out, H91.out, HK91.out⟩)
                            · skip
                              refine Kd.R_lit_step kR (w0 := W0) W0.heap.size 26 ?hg (N := 14) ?hd (xs := []) (inner := []) (ok := fun _ => True) (okp := fun _ => True) ?hr ?hp (fun _ hk => hk) trivial ?hB ?hS (by simp) ?_; (case hd => rfl); (case hg => rfl); (case hr => first | (go_simp; done) | (go_simp; rfl)); (case hp => exact Reps.none _ _); (case hB => repeat (first | exact HB.out | apply below_drew1)); (case hS => exact HB.out.size)
                              intro u4 w1 ho hb hg hn
                              have HB1 := Aside0.mk hb
                              have HV1 := Aside0.mk ho
                              have H91 := Aside0.mk (And.intro (blk_kept H9.out.1 hg (fun e => by cases e)) H9.out.2)
                              have HV91 := Aside0.mk (apart_new hn H9.out.1)
                              clear ho hb hg hn
                              refine hK.out _ _ ⟨((HB1.out).cell (World.block_lt_of_cell? W0 _ HC3.out)).trans HC3.out, ((HB1.out).cell (World.block_lt_of_cell? W0 _ HC4.out)).trans HC4.out⟩ (fun hHeld => ?_)
                              clear hK K
                              refine norm_ (a' := ?_) ?_ ?_
                              rotate_left
                              · show Act.put _ (some 14) _ = _
                                simp only [Act.put, List.setIfInBounds_toArray, List.set_cons_zero, List.set_cons_succ, i64_w, i32_w]
                                rfl
                              exact norm_ (by first | (simp only [putAll, Act.put, List.setIfInBounds_toArray, List.set_cons_zero, List.set_cons_succ]; done) | (simp only [putAll, Act.put, List.setIfInBounds_toArray, List.set_cons_zero, List.set_cons_succ]; rfl)) (hJ4_9 (Value.nilIface, (none, 0), u4, (none, 0), b9) _ ⟨HB1.out, HV1.out, H91.out, HV91.out⟩)
                        · skip
                          rintro ⟨u0, ⟨A13, c13⟩, u4, ⟨A17, c17⟩, b9⟩ w' ⟨hB_, hV_⟩
                          have HB := Aside0.mk hB_
                          have HV := Aside0.mk hV_
                          have hHeld : w'.cell? ⟨w.heap.size, 3, none⟩ = some (.slice A3 ks.length c3) ∧ w'.cell? ⟨w.heap.size, 4, none⟩ = some (.slice A4 vs.length c4) := ⟨((hB_).cell (World.block_lt_of_cell? W0 _ HC3.out)).trans HC3.out, ((hB_).cell (World.block_lt_of_cell? W0 _ HC4.out)).trans HC4.out⟩
                          clear hB_ hV_
                          refine norm_ (a' := ?_) ?_ ?_
                          rotate_left
                          · simp only [putAll, Act.put, List.setIfInBounds_toArray, List.set_cons_zero, List.set_cons_succ]
                            rfl
                          refine two_ (i := 0) (j := 9) (Ni := some 10) (Nj := some 7) #[true, true, true, false, true, true, true, false, false, false, false] #[false, true, true, false, true, true, true, false, false, true, false] rfl rfl rfl rfl (by kernel_rfl) (by decide) (by decide) (fun K hK => ?_) (fun K hK => ?_)
                          · skip
                            refine Kd.R_lit_step Kd.string (w0 := W0) W0.heap.size 9 ?hg (N := 10) ?hd (xs := []) (inner := []) (ok := fun _ => True) (okp := fun _ => True) ?hr ?hp (fun _ hk => hk) trivial ?hB ?hS (by simp) ?_; (case hd => rfl); (case hg => rfl); (case hr => first | (go_simp; done) | (go_simp; rfl)); (case hp => exact Reps.none _ _); (case hB => repeat (first | exact HB.out | apply below_drew1)); (case hS => exact HB.out.size)
                            intro u0 w1 ho hb hg hn
                            have HB1 := Aside0.mk hb
                            have HK1 := Aside0.mk ho
                            have HV1 := Aside0.mk (kR_apart HV.out hg (fun _ _ e => by cases e))
                            have HKV1 := Aside0.mk (sep_new HV.out hn)
                            clear ho hb hg hn
                            refine hK.out _ _ ⟨((HB1.out).cell (World.block_lt_of_cell? W0 _ HC3.out)).trans HC3.out, ((HB1.out).cell (World.block_lt_of_cell? W0 _ HC4.out)).trans HC4.out⟩ (fun hHeld => ?_)
                            clear hK K
                            refine norm_ (a' := ?_) ?_ ?_
                            rotate_left
                            · show Act.put _ (some 10) _ = _
                              simp only [Act.put, List.setIfInBounds_toArray, List.set_cons_zero, List.set_cons_succ, i64_w, i32_w]
                              rfl
                            exact norm_ (by first | (simp only [putAll, Act.put, List.setIfInBounds_toArray, List.set_cons_zero, List.set_cons_succ]; done) | (simp only [putAll, Act.put, List.setIfInBounds_toArray, List.set_cons_zero, List.set_cons_succ]; rfl)) (hJ0_4 (u0, (none, 0), u4, (none, 0), 0) _ ⟨HB1.out, HK1.out, HV1.out, HKV1.out⟩)
                          · skip
                            refine value_ (w1 := ?_) (v := ?_) (by rfl) rfl ?_ ?_
                            rotate_left 2
                            · go_simp
                              constructor
                              · rfl
                              · rfl
                            have HB1 : Aside0 (Below W0.heap.size W0 (World.alloc (w') (Obj.cells #[.int .i64 0, .int .i64 0, .string ⟨#[]⟩, .slice none 0 0, .slice none 0 0] 26))) := Aside0.mk (Below.alloc (show Below W0.heap.size W0 (w') from by repeat (first | exact HB.out | apply below_drew1)) HB.out.size _)
                            have H91 : Aside0 ((World.alloc (w') (Obj.cells #[.int .i64 0, .int .i64 0, .string ⟨#[]⟩, .slice none 0 0, .slice none 0 0] 26)).heap[(w').heap.size]? = some (.cells #[.int .i64 0, .int .i64 0, .string ⟨#[]⟩, .slice none 0 0, .slice none 0 0] 26 (0, 0)) ∧ W0.heap.size ≤ (w').heap.size) := Aside0.mk ⟨(MapKept.heap_alloc _ _).1, HB.out.size⟩
                            have HV1 := Aside0.mk (kR_apart HV.out (World.grownBy_alloc (w') (Obj.cells #[.int .i64 0, .int .i64 0, .string ⟨#[]⟩, .slice none 0 0, .slice none 0 0] 26) none) (fun _ _ e => by cases e))
                            have HV91 := Aside0.mk (apart_alloc HV.out)
                            refine hK.out _ _ ⟨((HB1.out).cell (World.block_lt_of_cell? W0 _ HC3.out)).trans HC3.out, ((HB1.out).cell (World.block_lt_of_cell? W0 _ HC4.out)).trans HC4.out⟩ (fun hHeld => ?_)
                            clear hK K
                            refine norm_ (a' := ?_) ?_ ?_
                            rotate_left
                            · show Act.put _ (some 7) _ = _
                              simp only [Act.put, List.setIfInBounds_toArray, List.set_cons_zero, List.set_cons_succ, i64_w, i32_w]
                              rfl
                            exact norm_ (by first | (simp only [putAll, Act.put, List.setIfInBounds_toArray, List.set_cons_zero, List.set_cons_succ]; done) | (simp only [putAll, Act.put, List.setIfInBounds_toArray, List.set_cons_zero, List.set_cons_succ]; rfl)) (hJ4_9 (Value.nilIface, (none, 0), u4, (none, 0), (w').heap.size) _ ⟨HB1.out, HV1.out, H91.out, HV91.out⟩)
                      · skip
                        rintro ⟨u0, ⟨A13, c13⟩, u4, ⟨A17, c17⟩, b9⟩ w' ⟨hB_, hK_⟩
                        have HB := Aside0.mk hB_
                        have HK := Aside0.mk hK_
                        have hHeld : w'.cell? ⟨w.heap.size, 3, none⟩ = some (.slice A3 ks.length c3) ∧ w'.cell? ⟨w.heap.size, 4, none⟩ = some (.slice A4 vs.length c4) := ⟨((hB_).cell (World.block_lt_of_cell? W0 _ HC3.out)).trans HC3.out, ((hB_).cell (World.block_lt_of_cell? W0 _ HC4.out)).trans HC4.out⟩
                        clear hB_ hK_
                        refine norm_ (a' := ?_) ?_ ?_
                        rotate_left
                        · simp only [putAll, Act.put, List.setIfInBounds_toArray, List.set_cons_zero, List.set_cons_succ]
                          rfl
                        refine three_ (i := 3) (j := 4) (k := 9) (Ni := some 13) (Nj := some 14) (Nk := some 7) #[true, true, true, true, false, true, true, false, false, false, false] #[true, true, true, false, true, true, true, false, false, false, false] #[true, true, true, false, false, true, true, false, false, true, false] rfl rfl rfl rfl rfl rfl (by kernel_rfl) (by decide) (by decide) (by decide) (fun K hK => ?_) (fun K hK => ?_) (fun K hK => ?_)
                        · skip
                          refine Kd.R_append_rows_step Kd.string (Rr := fun x_ cs_ => Kd.string.K W0 x_ cs_) (w0 := W0) W0.heap.size (by rfl) (.tmp 10) (.tmp 12) 22 9 (.string ⟨#[]⟩) 16 rfl Tryz.underlying22 infoS rfl (by first | decide | (show 0 < 5; decide)) (by decide) u0 [] ks A3 _ c3 (fun _ => True) (fun _ => False) rfl rfl ?hO ?hR (fun x_ cs_ h_ => h_) (fun _ h_ => h_.elim) (fun _ _ => trivial) ?hB ?hS ?hL ?_; (case hO => exact HK.out); (case hR => exact Kd.C_below GK.out HB.out); (case hB => exact HB.out); (case hS => exact HB.out.size); (case hL => simp only [List.length_nil]; omega)
                          intro u3 w1 ho hb hg hat
                          rw [List.nil_append] at ho
                          obtain ⟨A13, c13, rfl, _, _⟩ := Kd.R_reads ho
                          have HB1 := Aside0.mk hb
                          have HK1 := Aside0.mk ho
                          clear ho hb hg hat
                          refine hK.out _ _ ⟨((HB1.out).cell (World.block_lt_of_cell? W0 _ HC3.out)).trans HC3.out, ((HB1.out).cell (World.block_lt_of_cell? W0 _ HC4.out)).trans HC4.out⟩ (fun hHeld => ?_)
                          clear hK K
                          refine norm_ (a' := ?_) ?_ ?_
                          rotate_left
                          · show Act.put _ (some 13) _ = _
                            simp only [Act.put, List.setIfInBounds_toArray, List.set_cons_zero, List.set_cons_succ, i64_w, i32_w]
                            rfl
                          exact norm_ (by first | (simp only [putAll, Act.put, List.setIfInBounds_toArray, List.set_cons_zero, List.set_cons_succ]; done) | (simp only [putAll, Act.put, List.setIfInBounds_toArray, List.set_cons_zero, List.set_cons_succ]; rfl)) (hJ0_3 (u0, (A13, c13), Value.nilIface, (none, 0), 0) _ ⟨HB1.out, HK1.out⟩)
                        · skip
                          refine Kd.R_lit_step kR (w0 := W0) W0.heap.size 26 ?hg (N := 14) ?hd (xs := []) (inner := []) (ok := fun _ => True) (okp := fun _ => True) ?hr ?hp (fun _ hk => hk) trivial ?hB ?hS (by simp) ?_; (case hd => rfl); (case hg => rfl); (case hr => first | (go_simp; done) | (go_simp; rfl)); (case hp => exact Reps.none _ _); (case hB => repeat (first | exact HB.out | apply below_drew1)); (case hS => exact HB.out.size)
                          intro u4 w1 ho hb hg hn
                          have HB1 := Aside0.mk hb
                          have HV1 := Aside0.mk ho
                          have HK1 := Aside0.mk (string_apart HK.out hg (fun _ _ e => by cases e))
                          have HKV1 := Aside0.mk ((sep_new HK.out hn).symm)
                          clear ho hb hg hn
                          refine hK.out _ _ ⟨((HB1.out).cell (World.block_lt_of_cell? W0 _ HC3.out)).trans HC3.out, ((HB1.out).cell (World.block_lt_of_cell? W0 _ HC4.out)).trans HC4.out⟩ (fun hHeld => ?_)
                          clear hK K
                          refine norm_ (a' := ?_) ?_ ?_
                          rotate_left
                          · show Act.put _ (some 14) _ = _
                            simp only [Act.put, List.setIfInBounds_toArray, List.set_cons_zero, List.set_cons_succ, i64_w, i32_w]
                            rfl
                          exact norm_ (by first | (simp only [putAll, Act.put, List.setIfInBounds_toArray, List.set_cons_zero, List.set_cons_succ]; done) | (simp only [putAll, Act.put, List.setIfInBounds_toArray, List.set_cons_zero, List.set_cons_succ]; rfl)) (hJ0_4 (u0, (none, 0), u4, (none, 0), 0) _ ⟨HB1.out, HK1.out, HV1.out, HKV1.out⟩)
                        · skip
                          refine value_ (w1 := ?_) (v := ?_) (by rfl) rfl ?_ ?_
                          rotate_left 2
                          · go_simp
                            constructor
                            · rfl
                            · rfl
                          have HB1 : Aside0 (Below W0.heap.size W0 (World.alloc (w') (Obj.cells #[.int .i64 0, .int .i64 0, .string ⟨#[]⟩, .slice none 0 0, .slice none 0 0] 26))) := Aside0.mk (Below.alloc (show Below W0.heap.size W0 (w') from by repeat (first | exact HB.out | apply below_drew1)) HB.out.size _)
                          have H91 : Aside0 ((World.alloc (w') (Obj.cells #[.int .i64 0, .int .i64 0, .string ⟨#[]⟩, .slice none 0 0, .slice none 0 0] 26)).heap[(w').heap.size]? = some (.cells #[.int .i64 0, .int .i64 0, .string ⟨#[]⟩, .slice none 0 0, .slice none 0 0] 26 (0, 0)) ∧ W0.heap.size ≤ (w').heap.size) := Aside0.mk ⟨(MapKept.heap_alloc _ _).1, HB.out.size⟩
                          have HK1 := Aside0.mk (string_apart HK.out (World.grownBy_alloc (w') (Obj.cells #[.int .i64 0, .int .i64 0, .string ⟨#[]⟩, .slice none 0 0, .slice none 0 0] 26) none) (fun _ _ e => by cases e))
                          have HK91 := Aside0.mk (apart_alloc HK.out)
                          refine hK.out _ _ ⟨((HB1.out).cell (World.block_lt_of_cell? W0 _ HC3.out)).trans HC3.out, ((HB1.out).cell (World.block_lt_of_cell? W0 _ HC4.out)).trans HC4.out⟩ (fun hHeld => ?_)
                          clear hK K
                          refine norm_ (a' := ?_) ?_ ?_
                          rotate_left
                          · show Act.put _ (some 7) _ = _
                            simp only [Act.put, List.setIfInBounds_toArray, List.set_cons_zero, List.set_cons_succ, i64_w, i32_w]
                            rfl
                          exact norm_ (by first | (simp only [putAll, Act.put, List.setIfInBounds_toArray, List.set_cons_zero, List.set_cons_succ]; done) | (simp only [putAll, Act.put, List.setIfInBounds_toArray, List.set_cons_zero, List.set_cons_succ]; rfl)) (hJ0_9 (u0, (none, 0), Value.nilIface, (none, 0), (w').heap.size) _ ⟨HB1.out, HK1.out, H91.out, HK91.out⟩)
                    · skip
                      rintro ⟨u0, ⟨A13, c13⟩, u4, ⟨A17, c17⟩, b9⟩ w' ⟨hB_, hV_, h9_, hV9_⟩
                      have HB := Aside0.mk hB_
                      have HV := Aside0.mk hV_
                      have H9 := Aside0.mk h9_
                      have HV9 := Aside0.mk hV9_
                      have hHeld : w'.cell? ⟨w.heap.size, 3, none⟩ = some (.slice A3 ks.length c3) ∧ w'.cell? ⟨w.heap.size, 4, none⟩ = some (.slice A4 vs.length c4) := ⟨((hB_).cell (World.block_lt_of_cell? W0 _ HC3.out)).trans HC3.out, ((hB_).cell (World.block_lt_of_cell? W0 _ HC4.out)).trans HC4.out⟩
                      clear hB_ hV_ h9_ hV9_
                      refine norm_ (a' := ?_) ?_ ?_
                      rotate_left
                      · simp only [putAll, Act.put, List.setIfInBounds_toArray, List.set_cons_zero, List.set_cons_succ]
                        rfl
                      refine one_ (i := 0) (N := some 10) #[true, true, true, false, true, true, true, false, false, true, false] rfl rfl (by kernel_rfl) (by decide) (fun K hK => ?_)
                      refine Kd.R_lit_step Kd.string (w0 := W0) W0.heap.size 9 ?hg (N := 10) ?hd (xs := []) (inner := []) (ok := fun _ => True) (okp := fun _ => True) ?hr ?hp (fun _ hk => hk) trivial ?hB ?hS (by simp) ?_; (case hd => rfl); (case hg => rfl); (case hr => first | (go_simp; done) | (go_simp; rfl)); (case hp => exact Reps.none _ _); (case hB => repeat (first | exact HB.out | apply below_drew1)); (case hS => exact HB.out.size)
                      intro u0 w1 ho hb hg hn
                      have HB1 := Aside0.mk hb
                      have HK1 := Aside0.mk ho
                      have HV1 := Aside0.mk (kR_apart HV.out hg (fun _ _ e => by cases e))
                      have HKV1 := Aside0.mk (sep_new HV.out hn)
                      have H91 := Aside0.mk (And.intro (blk_kept H9.out.1 hg (fun e => by cases e)) H9.out.2)
                      have HK91 := Aside0.mk (apart_new hn H9.out.1)
                      have HV91 := Aside0.mk HV9.out
                      clear ho hb hg hn
                      refine hK.out _ _ ⟨((HB1.out).cell (World.block_lt_of_cell? W0 _ HC3.out)).trans HC3.out, ((HB1.out).cell (World.block_lt_of_cell? W0 _ HC4.out)).trans HC4.out⟩ (fun hHeld => ?_)
                      clear hK K
                      refine norm_ (a' := ?_) ?_ ?_
                      rotate_left
                      · show Act.put _ (some 10) _ = _
                        simp only [Act.put, List.setIfInBounds_toArray, List.set_cons_zero, List.set_cons_succ, i64_w, i32_w]
                        rfl
                      exact norm_ (by first | (simp only [putAll, Act.put, List.setIfInBounds_toArray, List.set_cons_zero, List.set_cons_succ]; done) | (simp only [putAll, Act.put, List.setIfInBounds_toArray, List.set_cons_zero, List.set_cons_succ]; rfl)) (hJ0_4_9 (u0, (none, 0), u4, (none, 0), b9) _ ⟨HB1.out, HK1.out, HV1.out, H91.out, HKV1.out, HK91.out, HV91.out⟩)
                  · skip
                    rintro ⟨u0, ⟨A13, c13⟩, u4, ⟨A17, c17⟩, b9⟩ w' ⟨hB_, hK_, h9_, hK9_⟩
                    have HB := Aside0.mk hB_
                    have HK := Aside0.mk hK_
                    have H9 := Aside0.mk h9_
                    have HK9 := Aside0.mk hK9_
                    have hHeld : w'.cell? ⟨w.heap.size, 3, none⟩ = some (.slice A3 ks.length c3) ∧ w'.cell? ⟨w.heap.size, 4, none⟩ = some (.slice A4 vs.length c4) := ⟨((hB_).cell (World.block_lt_of_cell? W0 _ HC3.out)).trans HC3.out, ((hB_).cell (World.block_lt_of_cell? W0 _ HC4.out)).trans HC4.out⟩
                    clear hB_ hK_ h9_ hK9_
                    refine norm_ (a' := ?_) ?_ ?_
                    rotate_left
                    · simp only [putAll, Act.put, List.setIfInBounds_toArray, List.set_cons_zero, List.set_cons_succ]
                      rfl
                    refine two_ (i := 3) (j := 4) (Ni := some 13) (Nj := some 14) #[true, true, true, true, false, true, true, false, false, true, false] #[true, true, true, false, true, true, true, false, false, true, false] rfl rfl rfl rfl (by kernel_rfl) (by decide) (by decide) (fun K hK => ?_) (fun K hK => ?_)
                    · skip
                      refine Kd.R_append_rows_step Kd.string (Rr := fun x_ cs_ => Kd.string.K W0 x_ cs_) (w0 := W0) W0.heap.size (by rfl) (.tmp 10) (.tmp 12) 22 9 (.string ⟨#[]⟩) 16 rfl Tryz.underlying22 infoS rfl (by first | decide | (show 0 < 5; decide)) (by decide) u0 [] ks A3 _ c3 (fun _ => True) (fun _ => False) rfl rfl ?hO ?hR (fun x_ cs_ h_ => h_) (fun _ h_ => h_.elim) (fun _ _ => trivial) ?hB ?hS ?hL ?_; (case hO => exact HK.out); (case hR => exact Kd.C_below GK.out HB.out); (case hB => exact HB.out); (case hS => exact HB.out.size); (case hL => simp only [List.length_nil]; omega)
                      intro u3 w1 ho hb hg hat
                      rw [List.nil_append] at ho
                      obtain ⟨A13, c13, rfl, _, _⟩ := Kd.R_reads ho
                      have HB1 := Aside0.mk hb
                      have HK1 := Aside0.mk ho
                      have H91 := Aside0.mk (And.intro (blk_kept H9.out.1 hg (fun e => HK9.out e.symm)) H9.out.2)
                      have HK91 := Aside0.mk (apart_moved hat HK9.out H9.out.1)
                      clear ho hb hg hat
                      refine hK.out _ _ ⟨((HB1.out).cell (World.block_lt_of_cell? W0 _ HC3.out)).trans HC3.out, ((HB1.out).cell (World.block_lt_of_cell? W0 _ HC4.out)).trans HC4.out⟩ (fun hHeld => ?_)
                      clear hK K
                      refine norm_ (a' := ?_) ?_ ?_
                      rotate_left
                      · show Act.put _ (some 13) _ = _
                        simp only [Act.put, List.setIfInBounds_toArray, List.set_cons_zero, List.set_cons_succ, i64_w, i32_w]
                        rfl
                      exact norm_ (by first | (simp only [putAll, Act.put, List.setIfInBounds_toArray, List.set_cons_zero, List.set_cons_succ]; done) | (simp only [putAll, Act.put, List.setIfInBounds_toArray, List.set_cons_zero, List.set_cons_succ]; rfl)) (hJ0_3_9 (u0, (A13, c13), Value.nilIface, (none, 0), b9) _ ⟨HB1.out, HK1.out, H91.out, HK91.out⟩)
                    · skip
                      refine Kd.R_lit_step kR (w0 := W0) W0.heap.size 26 ?hg (N := 14) ?hd (xs := []) (inner := []) (ok := fun _ => True) (okp := fun _ => True) ?hr ?hp (fun _ hk => hk) trivial ?hB ?hS (by simp) ?_; (case hd => rfl); (case hg => rfl); (case hr => first | (go_simp; done) | (go_simp; rfl)); (case hp => exact Reps.none _ _); (case hB => repeat (first | exact HB.out | apply below_drew1)); (case hS => exact HB.out.size)
                      intro u4 w1 ho hb hg hn
                      have HB1 := Aside0.mk hb
                      have HV1 := Aside0.mk ho
                      have HK1 := Aside0.mk (string_apart HK.out hg (fun _ _ e => by cases e))
                      have HKV1 := Aside0.mk ((sep_new HK.out hn).symm)
                      have H91 := Aside0.mk (And.intro (blk_kept H9.out.1 hg (fun e => by cases e)) H9.out.2)
                      have HV91 := Aside0.mk (apart_new hn H9.out.1)
                      have HK91 := Aside0.mk HK9.out
                      clear ho hb hg hn
                      refine hK.out _ _ ⟨((HB1.out).cell (World.block_lt_of_cell? W0 _ HC3.out)).trans HC3.out, ((HB1.out).cell (World.block_lt_of_cell? W0 _ HC4.out)).trans HC4.out⟩ (fun hHeld => ?_)
                      clear hK K
                      refine norm_ (a' := ?_) ?_ ?_
                      rotate_left
                      · show Act.put _ (some 14) _ = _
                        simp only [Act.put, List.setIfInBounds_toArray, List.set_cons_zero, List.set_cons_succ, i64_w, i32_w]
                        rfl
                      exact norm_ (by first | (simp only [putAll, Act.put, List.setIfInBounds_toArray, List.set_cons_zero, List.set_cons_succ]; done) | (simp only [putAll, Act.put, List.setIfInBounds_toArray, List.set_cons_zero, List.set_cons_succ]; rfl)) (hJ0_4_9 (u0, (none, 0), u4, (none, 0), b9) _ ⟨HB1.out, HK1.out, HV1.out, H91.out, HKV1.out, HK91.out, HV91.out⟩)
                · skip
                  rintro ⟨u0, ⟨A13, c13⟩, u4, ⟨A17, c17⟩, b9⟩ w' ⟨hB_, hK_, hV_, hKV_⟩
                  have HB := Aside0.mk hB_
                  have HK := Aside0.mk hK_
                  have HV := Aside0.mk hV_
                  have HKV := Aside0.mk hKV_
                  have hHeld : w'.cell? ⟨w.heap.size, 3, none⟩ = some (.slice A3 ks.length c3) ∧ w'.cell? ⟨w.heap.size, 4, none⟩ = some (.slice A4 vs.length c4) := ⟨((hB_).cell (World.block_lt_of_cell? W0 _ HC3.out)).trans HC3.out, ((hB_).cell (World.block_lt_of_cell? W0 _ HC4.out)).trans HC4.out⟩
                  clear hB_ hK_ hV_ hKV_
                  refine norm_ (a' := ?_) ?_ ?_
                  rotate_left
                  · simp only [putAll, Act.put, List.setIfInBounds_toArray, List.set_cons_zero, List.set_cons_succ]
                    rfl
                  refine two_ (i := 3) (j := 9) (Ni := some 13) (Nj := some 7) #[true, true, true, true, true, true, true, false, false, false, false] #[true, true, true, false, true, true, true, false, false, true, false] rfl rfl rfl rfl (by kernel_rfl) (by decide) (by decide) (fun K hK => ?_) (fun K hK => ?_)
                  · skip
                    refine Kd.R_append_rows_step Kd.string (Rr := fun x_ cs_ => Kd.string.K W0 x_ cs_) (w0 := W0) W0.heap.size (by rfl) (.tmp 10) (.tmp 12) 22 9 (.string ⟨#[]⟩) 16 rfl Tryz.underlying22 infoS rfl (by first | decide | (show 0 < 5; decide)) (by decide) u0 [] ks A3 _ c3 (fun _ => True) (fun _ => False) rfl rfl ?hO ?hR (fun x_ cs_ h_ => h_) (fun _ h_ => h_.elim) (fun _ _ => trivial) ?hB ?hS ?hL ?_; (case hO => exact HK.out); (case hR => exact Kd.C_below GK.out HB.out); (case hB => exact HB.out); (case hS => exact HB.out.size); (case hL => simp only [List.length_nil]; omega)
                    intro u3 w1 ho hb hg hat
                    rw [List.nil_append] at ho
                    obtain ⟨A13, c13, rfl, _, _⟩ := Kd.R_reads ho
                    have HB1 := Aside0.mk hb
                    have HK1 := Aside0.mk ho
                    have HV1 := Aside0.mk (kR_apart HV.out hg (fun k hk e => HKV.out k e.symm hk))
                    have HKV1 := Aside0.mk (sep_moved HV.out HKV.out hat)
                    clear ho hb hg hat
                    refine hK.out _ _ ⟨((HB1.out).cell (World.block_lt_of_cell? W0 _ HC3.out)).trans HC3.out, ((HB1.out).cell (World.block_lt_of_cell? W0 _ HC4.out)).trans HC4.out⟩ (fun hHeld => ?_)
                    clear hK K
                    refine norm_ (a' := ?_) ?_ ?_
                    rotate_left
                    · show Act.put _ (some 13) _ = _
                      simp only [Act.put, List.setIfInBounds_toArray, List.set_cons_zero, List.set_cons_succ, i64_w, i32_w]
                      rfl
                    exact norm_ (by first | (simp only [putAll, Act.put, List.setIfInBounds_toArray, List.set_cons_zero, List.set_cons_succ]; done) | (simp only [putAll, Act.put, List.setIfInBounds_toArray, List.set_cons_zero, List.set_cons_succ]; rfl)) (hJ0_3_4 (u0, (A13, c13), u4, (none, 0), 0) _ ⟨HB1.out, HK1.out, HV1.out, HKV1.out⟩)
                  · skip
                    refine value_ (w1 := ?_) (v := ?_) (by rfl) rfl ?_ ?_
                    rotate_left 2
                    · go_simp
                      constructor
                      · rfl
                      · rfl
                    have HB1 : Aside0 (Below W0.heap.size W0 (World.alloc (w') (Obj.cells #[.int .i64 0, .int .i64 0, .string ⟨#[]⟩, .slice none 0 0, .slice none 0 0] 26))) := Aside0.mk (Below.alloc (show Below W0.heap.size W0 (w') from by repeat (first | exact HB.out | apply below_drew1)) HB.out.size _)
                    have H91 : Aside0 ((World.alloc (w') (Obj.cells #[.int .i64 0, .int .i64 0, .string ⟨#[]⟩, .slice none 0 0, .slice none 0 0] 26)).heap[(w').heap.size]? = some (.cells #[.int .i64 0, .int .i64 0, .string ⟨#[]⟩, .slice none 0 0, .slice none 0 0] 26 (0, 0)) ∧ W0.heap.size ≤ (w').heap.size) := Aside0.mk ⟨(MapKept.heap_alloc _ _).1, HB.out.size⟩
                    have HK1 := Aside0.mk (string_apart HK.out (World.grownBy_alloc (w') (Obj.cells #[.int .i64 0, .int .i64 0, .string ⟨#[]⟩, .slice none 0 0, .slice none 0 0] 26) none) (fun _ _ e => by cases e))
                    have HK91 := Aside0.mk (apart_alloc HK.out)
                    have HV1 := Aside0.mk (kR_apart HV.out (World.grownBy_alloc (w') (Obj.cells #[.int .i64 0, .int .i64 0, .string ⟨#[]⟩, .slice none 0 0, .slice none 0 0] 26) none) (fun _ _ e => by cases e))
                    have HV91 := Aside0.mk (apart_alloc HV.out)
                    have HKV1 := Aside0.mk HKV.out
                    refine hK.out _ _ ⟨((HB1.out).cell (World.block_lt_of_cell? W0 _ HC3.out)).trans HC3.out, ((HB1.out).cell (World.block_lt_of_cell? W0 _ HC4.out)).trans HC4.out⟩ (fun hHeld => ?_)
                    clear hK K
                    refine norm_ (a' := ?_) ?_ ?_
                    rotate_left
                    · show Act.put _ (some 7) _ = _
                      simp only [Act.put, List.setIfInBounds_toArray, List.set_cons_zero, List.set_cons_succ, i64_w, i32_w]
                      rfl
                    exact norm_ (by first | (simp only [putAll, Act.put, List.setIfInBounds_toArray, List.set_cons_zero, List.set_cons_succ]; done) | (simp only [putAll, Act.put, List.setIfInBounds_toArray, List.set_cons_zero, List.set_cons_succ]; rfl)) (hJ0_4_9 (u0, (none, 0), u4, (none, 0), (w').heap.size) _ ⟨HB1.out, HK1.out, HV1.out, H91.out, HKV1.out, HK91.out, HV91.out⟩)
              · skip
                rintro ⟨u0, ⟨A13, c13⟩, u4, ⟨A17, c17⟩, b9⟩ w' ⟨hB_, hK_⟩
                have HB := Aside0.mk hB_
                have HK := Aside0.mk hK_
                have hHeld : w'.cell? ⟨w.heap.size, 3, none⟩ = some (.slice A3 ks.length c3) ∧ w'.cell? ⟨w.heap.size, 4, none⟩ = some (.slice A4 vs.length c4) := ⟨((hB_).cell (World.block_lt_of_cell? W0 _ HC3.out)).trans HC3.out, ((hB_).cell (World.block_lt_of_cell? W0 _ HC4.out)).trans HC4.out⟩
                clear hB_ hK_
                refine norm_ (a' := ?_) ?_ ?_
                rotate_left
                · simp only [putAll, Act.put, List.setIfInBounds_toArray, List.set_cons_zero, List.set_cons_succ]
                  rfl
                refine two_ (i := 4) (j := 9) (Ni := some 14) (Nj := some 7) #[true, true, true, true, true, true, true, false, false, false, false] #[true, true, true, true, false, true, true, false, false, true, false] rfl rfl rfl rfl (by kernel_rfl) (by decide) (by decide) (fun K hK => ?_) (fun K hK => ?_)
                · skip
                  refine Kd.R_lit_step kR (w0 := W0) W0.heap.size 26 ?hg (N := 14) ?hd (xs := []) (inner := []) (ok := fun _ => True) (okp := fun _ => True) ?hr ?hp (fun _ hk => hk) trivial ?hB ?hS (by simp) ?_; (case hd => rfl); (case hg => rfl); (case hr => first | (go_simp; done) | (go_simp; rfl)); (case hp => exact Reps.none _ _); (case hB => repeat (first | exact HB.out | apply below_drew1)); (case hS => exact HB.out.size)
                  intro u4 w1 ho hb hg hn
                  have HB1 := Aside0.mk hb
                  have HV1 := Aside0.mk ho
                  have HK1 := Aside0.mk (string_apart HK.out hg (fun _ _ e => by cases e))
                  have HKV1 := Aside0.mk ((sep_new HK.out hn).symm)
                  clear ho hb hg hn
                  refine hK.out _ _ ⟨((HB1.out).cell (World.block_lt_of_cell? W0 _ HC3.out)).trans HC3.out, ((HB1.out).cell (World.block_lt_of_cell? W0 _ HC4.out)).trans HC4.out⟩ (fun hHeld => ?_)
                  clear hK K
                  refine norm_ (a' := ?_) ?_ ?_
                  rotate_left
                  · show Act.put _ (some 14) _ = _
                    simp only [Act.put, List.setIfInBounds_toArray, List.set_cons_zero, List.set_cons_succ, i64_w, i32_w]
                    rfl
                  exact norm_ (by first | (simp only [putAll, Act.put, List.setIfInBounds_toArray, List.set_cons_zero, List.set_cons_succ]; done) | (simp only [putAll, Act.put, List.setIfInBounds_toArray, List.set_cons_zero, List.set_cons_succ]; rfl)) (hJ0_3_4 (u0, (A13, c13), u4, (none, 0), 0) _ ⟨HB1.out, HK1.out, HV1.out, HKV1.out⟩)
                · skip
                  refine value_ (w1 := ?_) (v := ?_) (by rfl) rfl ?_ ?_
                  rotate_left 2
                  · go_simp
                    constructor
                    · rfl
                    · rfl
                  have HB1 : Aside0 (Below W0.heap.size W0 (World.alloc (w') (Obj.cells #[.int .i64 0, .int .i64 0, .string ⟨#[]⟩, .slice none 0 0, .slice none 0 0] 26))) := Aside0.mk (Below.alloc (show Below W0.heap.size W0 (w') from by repeat (first | exact HB.out | apply below_drew1)) HB.out.size _)
                  have H91 : Aside0 ((World.alloc (w') (Obj.cells #[.int .i64 0, .int .i64 0, .string ⟨#[]⟩, .slice none 0 0, .slice none 0 0] 26)).heap[(w').heap.size]? = some (.cells #[.int .i64 0, .int .i64 0, .string ⟨#[]⟩, .slice none 0 0, .slice none 0 0] 26 (0, 0)) ∧ W0.heap.size ≤ (w').heap.size) := Aside0.mk ⟨(MapKept.heap_alloc _ _).1, HB.out.size⟩
                  have HK1 := Aside0.mk (string_apart HK.out (World.grownBy_alloc (w') (Obj.cells #[.int .i64 0, .int .i64 0, .string ⟨#[]⟩, .slice none 0 0, .slice none 0 0] 26) none) (fun _ _ e => by cases e))
                  have HK91 := Aside0.mk (apart_alloc HK.out)
                  refine hK.out _ _ ⟨((HB1.out).cell (World.block_lt_of_cell? W0 _ HC3.out)).trans HC3.out, ((HB1.out).cell (World.block_lt_of_cell? W0 _ HC4.out)).trans HC4.out⟩ (fun hHeld => ?_)
                  clear hK K
                  refine norm_ (a' := ?_) ?_ ?_
                  rotate_left
                  · show Act.put _ (some 7) _ = _
                    simp only [Act.put, List.setIfInBounds_toArray, List.set_cons_zero, List.set_cons_succ, i64_w, i32_w]
                    rfl
                  exact norm_ (by first | (simp only [putAll, Act.put, List.setIfInBounds_toArray, List.set_cons_zero, List.set_cons_succ]; done) | (simp only [putAll, Act.put, List.setIfInBounds_toArray, List.set_cons_zero, List.set_cons_succ]; rfl)) (hJ0_3_9 (u0, (A13, c13), Value.nilIface, (none, 0), (w').heap.size) _ ⟨HB1.out, HK1.out, H91.out, HK91.out⟩)
            · skip
              rintro ⟨u0, ⟨A13, c13⟩, u4, ⟨A17, c17⟩, b9⟩ w' ⟨hB_, hK_, hV_, h9_, hKV_, hK9_, hV9_⟩
              have HB := Aside0.mk hB_
              have HK := Aside0.mk hK_
              have HV := Aside0.mk hV_
              have H9 := Aside0.mk h9_
              have HKV := Aside0.mk hKV_
              have HK9 := Aside0.mk hK9_
              have HV9 := Aside0.mk hV9_
              have hHeld : w'.cell? ⟨w.heap.size, 3, none⟩ = some (.slice A3 ks.length c3) ∧ w'.cell? ⟨w.heap.size, 4, none⟩ = some (.slice A4 vs.length c4) := ⟨((hB_).cell (World.block_lt_of_cell? W0 _ HC3.out)).trans HC3.out, ((hB_).cell (World.block_lt_of_cell? W0 _ HC4.out)).trans HC4.out⟩
              clear hB_ hK_ hV_ h9_ hKV_ hK9_ hV9_
              refine norm_ (a' := ?_) ?_ ?_
              rotate_left
              · simp only [putAll, Act.put, List.setIfInBounds_toArray, List.set_cons_zero, List.set_cons_succ]
                rfl
              refine one_ (i := 3) (N := some 13) #[true, true, true, true, true, true, true, false, false, true, false] rfl rfl (by kernel_rfl) (by decide) (fun K hK => ?_)
              refine Kd.R_append_rows_step Kd.string (Rr := fun x_ cs_ => Kd.string.K W0 x_ cs_) (w0 := W0) W0.heap.size (by rfl) (.tmp 10) (.tmp 12) 22 9 (.string ⟨#[]⟩) 16 rfl Tryz.underlying22 infoS rfl (by first | decide | (show 0 < 5; decide)) (by decide) u0 [] ks A3 _ c3 (fun _ => True) (fun _ => False) rfl rfl ?hO ?hR (fun x_ cs_ h_ => h_) (fun _ h_ => h_.elim) (fun _ _ => trivial) ?hB ?hS ?hL ?_; (case hO => exact HK.out); (case hR => exact Kd.C_below GK.out HB.out); (case hB => exact HB.out); (case hS => exact HB.out.size); (case hL => simp only [List.length_nil]; omega)
              intro u3 w1 ho hb hg hat
              rw [List.nil_append] at ho
              obtain ⟨A13, c13, rfl, _, _⟩ := Kd.R_reads ho
              have HB1 := Aside0.mk hb
              have HK1 := Aside0.mk ho
              have HV1 := Aside0.mk (kR_apart HV.out hg (fun k hk e => HKV.out k e.symm hk))
              have HKV1 := Aside0.mk (sep_moved HV.out HKV.out hat)
              have H91 := Aside0.mk (And.intro (blk_kept H9.out.1 hg (fun e => HK9.out e.symm)) H9.out.2)
              have HK91 := Aside0.mk (apart_moved hat HK9.out H9.out.1)
              have HV91 := Aside0.mk HV9.out
              clear ho hb hg hat
              refine hK.out _ _ ⟨((HB1.out).cell (World.block_lt_of_cell? W0 _ HC3.out)).trans HC3.out, ((HB1.out).cell (World.block_lt_of_cell? W0 _ HC4.out)).trans HC4.out⟩ (fun hHeld => ?_)
              clear hK K
              refine norm_ (a' := ?_) ?_ ?_
              rotate_left
              · show Act.put _ (some 13) _ = _
                simp only [Act.put, List.setIfInBounds_toArray, List.set_cons_zero, List.set_cons_succ, i64_w, i32_w]
                rfl
              exact norm_ (by first | (simp only [putAll, Act.put, List.setIfInBounds_toArray, List.set_cons_zero, List.set_cons_succ]; done) | (simp only [putAll, Act.put, List.setIfInBounds_toArray, List.set_cons_zero, List.set_cons_succ]; rfl)) (hJ0_3_4_9 (u0, (A13, c13), u4, (none, 0), b9) _ ⟨HB1.out, HK1.out, HV1.out, H91.out, HKV1.out, HK91.out, HV91.out⟩)
          · skip
            rintro ⟨u0, ⟨A13, c13⟩, u4, ⟨A17, c17⟩, b9⟩ w' ⟨hB_, hK_, h9_, hK9_⟩
            have HB := Aside0.mk hB_
            have HK := Aside0.mk hK_
            have H9 := Aside0.mk h9_
            have HK9 := Aside0.mk hK9_
            have hHeld : w'.cell? ⟨w.heap.size, 3, none⟩ = some (.slice A3 ks.length c3) ∧ w'.cell? ⟨w.heap.size, 4, none⟩ = some (.slice A4 vs.length c4) := ⟨((hB_).cell (World.block_lt_of_cell? W0 _ HC3.out)).trans HC3.out, ((hB_).cell (World.block_lt_of_cell? W0 _ HC4.out)).trans HC4.out⟩
            clear hB_ hK_ h9_ hK9_
            refine norm_ (a' := ?_) ?_ ?_
            rotate_left
            · simp only [putAll, Act.put, List.setIfInBounds_toArray, List.set_cons_zero, List.set_cons_succ]
              rfl
            refine one_ (i := 4) (N := some 14) #[true, true, true, true, true, true, true, false, false, true, false] rfl rfl (by kernel_rfl) (by decide) (fun K hK => ?_)
            refine Kd.R_lit_step kR (w0 := W0) W0.heap.size 26 ?hg (N := 14) ?hd (xs := []) (inner := []) (ok := fun _ => True) (okp := fun _ => True) ?hr ?hp (fun _ hk => hk) trivial ?hB ?hS (by simp) ?_; (case hd => rfl); (case hg => rfl); (case hr => first | (go_simp; done) | (go_simp; rfl)); (case hp => exact Reps.none _ _); (case hB => repeat (first | exact HB.out | apply below_drew1)); (case hS => exact HB.out.size)
            intro u4 w1 ho hb hg hn
            have HB1 := Aside0.mk hb
            have HV1 := Aside0.mk ho
            have HK1 := Aside0.mk (string_apart HK.out hg (fun _ _ e => by cases e))
            have HKV1 := Aside0.mk ((sep_new HK.out hn).symm)
            have H91 := Aside0.mk (And.intro (blk_kept H9.out.1 hg (fun e => by cases e)) H9.out.2)
            have HV91 := Aside0.mk (apart_new hn H9.out.1)
            have HK91 := Aside0.mk HK9.out
            clear ho hb hg hn
            refine hK.out _ _ ⟨((HB1.out).cell (World.block_lt_of_cell? W0 _ HC3.out)).trans HC3.out, ((HB1.out).cell (World.block_lt_of_cell? W0 _ HC4.out)).trans HC4.out⟩ (fun hHeld => ?_)
            clear hK K
            refine norm_ (a' := ?_) ?_ ?_
            rotate_left
            · show Act.put _ (some 14) _ = _
              simp only [Act.put, List.setIfInBounds_toArray, List.set_cons_zero, List.set_cons_succ, i64_w, i32_w]
              rfl
            exact norm_ (by first | (simp only [putAll, Act.put, List.setIfInBounds_toArray, List.set_cons_zero, List.set_cons_succ]; done) | (simp only [putAll, Act.put, List.setIfInBounds_toArray, List.set_cons_zero, List.set_cons_succ]; rfl)) (hJ0_3_4_9 (u0, (A13, c13), u4, (none, 0), b9) _ ⟨HB1.out, HK1.out, HV1.out, H91.out, HKV1.out, HK91.out, HV91.out⟩)
        · skip
          rintro ⟨u0, ⟨A13, c13⟩, u4, ⟨A17, c17⟩, b9⟩ w' ⟨hB_, hK_, hV_, hKV_⟩
          have HB := Aside0.mk hB_
          have HK := Aside0.mk hK_
          have HV := Aside0.mk hV_
          have HKV := Aside0.mk hKV_
          have hHeld : w'.cell? ⟨w.heap.size, 3, none⟩ = some (.slice A3 ks.length c3) ∧ w'.cell? ⟨w.heap.size, 4, none⟩ = some (.slice A4 vs.length c4) := ⟨((hB_).cell (World.block_lt_of_cell? W0 _ HC3.out)).trans HC3.out, ((hB_).cell (World.block_lt_of_cell? W0 _ HC4.out)).trans HC4.out⟩
          clear hB_ hK_ hV_ hKV_
          refine norm_ (a' := ?_) ?_ ?_
          rotate_left
          · simp only [putAll, Act.put, List.setIfInBounds_toArray, List.set_cons_zero, List.set_cons_succ]
            rfl
          refine two_ (i := 7) (j := 9) (Ni := some 17) (Nj := some 7) #[true, true, true, true, true, true, true, true, false, false, false] #[true, true, true, true, true, true, true, false, false, true, false] rfl rfl rfl rfl (by kernel_rfl) (by decide) (by decide) (fun K hK => ?_) (fun K hK => ?_)
          · skip
            refine Kd.R_append_rows_step kR (Rr := fun x_ cs_ => kR.K w x_ cs_) (w0 := W0) W0.heap.size (by rfl) (.tmp 14) (.tmp 16) 24 26 (.agg #[.int .i64 0, .int .i64 0, .string ⟨#[]⟩, .slice none 0 0, .slice none 0 0]) 80 rfl Tryz.underlying24 infoV rfl (by first | decide | (show 0 < 5; decide)) (by decide) u4 [] vs A4 _ c4 (fun _ => True) (fun _ => False) rfl rfl ?hO ?hR (fun x_ cs_ h_ => h_) (fun _ h_ => h_.elim) (fun _ _ => trivial) ?hB ?hS ?hL ?_; (case hO => exact HV.out); (case hR => exact Kd.C_below GV.out (HBW.out.trans (HB.out.mono HBW.out.size))); (case hB => exact HB.out); (case hS => exact HB.out.size); (case hL => simp only [List.length_nil]; omega)
            intro u7 w1 ho hb hg hat
            rw [List.nil_append] at ho
            obtain ⟨A17, c17, rfl, _, _⟩ := Kd.R_reads ho
            have HB1 := Aside0.mk hb
            have HV1 := Aside0.mk ho
            have HK1 := Aside0.mk (string_apart HK.out hg (fun k hk e => HKV.out k hk e.symm))
            have HKV1 := Aside0.mk ((sep_moved HK.out HKV.out.symm hat).symm)
            clear ho hb hg hat
            refine hK.out _ _ ⟨((HB1.out).cell (World.block_lt_of_cell? W0 _ HC3.out)).trans HC3.out, ((HB1.out).cell (World.block_lt_of_cell? W0 _ HC4.out)).trans HC4.out⟩ (fun hHeld => ?_)
            clear hK K
            refine norm_ (a' := ?_) ?_ ?_
            rotate_left
            · show Act.put _ (some 17) _ = _
              simp only [Act.put, List.setIfInBounds_toArray, List.set_cons_zero, List.set_cons_succ, i64_w, i32_w]
              rfl
            refine pure_ (i := 8) (N := some 18) (v := ?_) (a' := ?_) #[true, true, true, true, true, true, true, true, true, false, false] rfl rfl (by kernel_rfl) (fun _ _ _ h => h) (Or.inl ⟨by rfl, ?_⟩) ?_ ?_
            rotate_left
            · intro w'
              go_simp
              with_reducible rfl
            rotate_left
            · simp only [Act.put, List.setIfInBounds_toArray, List.set_cons_zero, List.set_cons_succ, i64_w, i32_w]
              rfl
            exact norm_ (by first | (simp only [putAll, Act.put, List.setIfInBounds_toArray, List.set_cons_zero, List.set_cons_succ]; done) | (simp only [putAll, Act.put, List.setIfInBounds_toArray, List.set_cons_zero, List.set_cons_succ]; rfl)) (hJ0_3_4_7 (u0, (A13, c13), u4, (A17, c17), 0) _ ⟨HB1.out, HK1.out, HV1.out, HKV1.out⟩)
          · skip
            refine value_ (w1 := ?_) (v := ?_) (by rfl) rfl ?_ ?_
            rotate_left 2
            · go_simp
              constructor
              · rfl
              · rfl
            have HB1 : Aside0 (Below W0.heap.size W0 (World.alloc (w') (Obj.cells #[.int .i64 0, .int .i64 0, .string ⟨#[]⟩, .slice none 0 0, .slice none 0 0] 26))) := Aside0.mk (Below.alloc (show Below W0.heap.size W0 (w') from by repeat (first | exact HB.out | apply below_drew1)) HB.out.size _)
            have H91 : Aside0 ((World.alloc (w') (Obj.cells #[.int .i64 0, .int .i64 0, .string ⟨#[]⟩, .slice none 0 0, .slice none 0 0] 26)).heap[(w').heap.size]? = some (.cells #[.int .i64 0, .int .i64 0, .string ⟨#[]⟩, .slice none 0 0, .slice none 0 0] 26 (0, 0)) ∧ W0.heap.size ≤ (w').heap.size) := Aside0.mk ⟨(MapKept.heap_alloc _ _).1, HB.out.size⟩
            have HK1 := Aside0.mk (string_apart HK.out (World.grownBy_alloc (w') (Obj.cells #[.int .i64 0, .int .i64 0, .string ⟨#[]⟩, .slice none 0 0, .slice none 0 0] 26) none) (fun _ _ e => by cases e))
            have HK91 := Aside0.mk (apart_alloc HK.out)
            have HV1 := Aside0.mk (kR_apart HV.out (World.grownBy_alloc (w') (Obj.cells #[.int .i64 0, .int .i64 0, .string ⟨#[]⟩, .slice none 0 0, .slice none 0 0] 26) none) (fun _ _ e => by cases e))
            have HV91 := Aside0.mk (apart_alloc HV.out)
            have HKV1 := Aside0.mk HKV.out
            refine hK.out _ _ ⟨((HB1.out).cell (World.block_lt_of_cell? W0 _ HC3.out)).trans HC3.out, ((HB1.out).cell (World.block_lt_of_cell? W0 _ HC4.out)).trans HC4.out⟩ (fun hHeld => ?_)
            clear hK K
            refine norm_ (a' := ?_) ?_ ?_
            rotate_left
            · show Act.put _ (some 7) _ = _
              simp only [Act.put, List.setIfInBounds_toArray, List.set_cons_zero, List.set_cons_succ, i64_w, i32_w]
              rfl
            exact norm_ (by first | (simp only [putAll, Act.put, List.setIfInBounds_toArray, List.set_cons_zero, List.set_cons_succ]; done) | (simp only [putAll, Act.put, List.setIfInBounds_toArray, List.set_cons_zero, List.set_cons_succ]; rfl)) (hJ0_3_4_9 (u0, (A13, c13), u4, (none, 0), (w').heap.size) _ ⟨HB1.out, HK1.out, HV1.out, H91.out, HKV1.out, HK91.out, HV91.out⟩)
      · skip
        rintro ⟨u0, ⟨A13, c13⟩, u4, ⟨A17, c17⟩, b9⟩ w' ⟨hB_, hK_, hV_, h9_, hKV_, hK9_, hV9_⟩
        have HB := Aside0.mk hB_
        have HK := Aside0.mk hK_
        have HV := Aside0.mk hV_
        have H9 := Aside0.mk h9_
        have HKV := Aside0.mk hKV_
        have HK9 := Aside0.mk hK9_
        have HV9 := Aside0.mk hV9_
        have hHeld : w'.cell? ⟨w.heap.size, 3, none⟩ = some (.slice A3 ks.length c3) ∧ w'.cell? ⟨w.heap.size, 4, none⟩ = some (.slice A4 vs.length c4) := ⟨((hB_).cell (World.block_lt_of_cell? W0 _ HC3.out)).trans HC3.out, ((hB_).cell (World.block_lt_of_cell? W0 _ HC4.out)).trans HC4.out⟩
        clear hB_ hK_ hV_ h9_ hKV_ hK9_ hV9_
        refine norm_ (a' := ?_) ?_ ?_
        rotate_left
        · simp only [putAll, Act.put, List.setIfInBounds_toArray, List.set_cons_zero, List.set_cons_succ]
          rfl
        refine one_ (i := 7) (N := some 17) #[true, true, true, true, true, true, true, true, false, true, false] rfl rfl (by kernel_rfl) (by decide) (fun K hK => ?_)
        refine Kd.R_append_rows_step kR (Rr := fun x_ cs_ => kR.K w x_ cs_) (w0 := W0) W0.heap.size (by rfl) (.tmp 14) (.tmp 16) 24 26 (.agg #[.int .i64 0, .int .i64 0, .string ⟨#[]⟩, .slice none 0 0, .slice none 0 0]) 80 rfl Tryz.underlying24 infoV rfl (by first | decide | (show 0 < 5; decide)) (by decide) u4 [] vs A4 _ c4 (fun _ => True) (fun _ => False) rfl rfl ?hO ?hR (fun x_ cs_ h_ => h_) (fun _ h_ => h_.elim) (fun _ _ => trivial) ?hB ?hS ?hL ?_; (case hO => exact HV.out); (case hR => exact Kd.C_below GV.out (HBW.out.trans (HB.out.mono HBW.out.size))); (case hB => exact HB.out); (case hS => exact HB.out.size); (case hL => simp only [List.length_nil]; omega)
        intro u7 w1 ho hb hg hat
        rw [List.nil_append] at ho
        obtain ⟨A17, c17, rfl, _, _⟩ := Kd.R_reads ho
        have HB1 := Aside0.mk hb
        have HV1 := Aside0.mk ho
        have HK1 := Aside0.mk (string_apart HK.out hg (fun k hk e => HKV.out k hk e.symm))
        have HKV1 := Aside0.mk ((sep_moved HK.out HKV.out.symm hat).symm)
        have H91 := Aside0.mk (And.intro (blk_kept H9.out.1 hg (fun e => HV9.out e.symm)) H9.out.2)
        have HV91 := Aside0.mk (apart_moved hat HV9.out H9.out.1)
        have HK91 := Aside0.mk HK9.out
        clear ho hb hg hat
        refine hK.out _ _ ⟨((HB1.out).cell (World.block_lt_of_cell? W0 _ HC3.out)).trans HC3.out, ((HB1.out).cell (World.block_lt_of_cell? W0 _ HC4.out)).trans HC4.out⟩ (fun hHeld => ?_)
        clear hK K
        refine norm_ (a' := ?_) ?_ ?_
        rotate_left
        · show Act.put _ (some 17) _ = _
          simp only [Act.put, List.setIfInBounds_toArray, List.set_cons_zero, List.set_cons_succ, i64_w, i32_w]
          rfl
        refine pure_ (i := 8) (N := some 18) (v := ?_) (a' := ?_) #[true, true, true, true, true, true, true, true, true, true, false] rfl rfl (by kernel_rfl) (fun _ _ _ h => h) (Or.inl ⟨by rfl, ?_⟩) ?_ ?_
        rotate_left
        · intro w'
          go_simp
          with_reducible rfl
        rotate_left
        · simp only [Act.put, List.setIfInBounds_toArray, List.set_cons_zero, List.set_cons_succ, i64_w, i32_w]
          rfl
        exact norm_ (by first | (simp only [putAll, Act.put, List.setIfInBounds_toArray, List.set_cons_zero, List.set_cons_succ]; done) | (simp only [putAll, Act.put, List.setIfInBounds_toArray, List.set_cons_zero, List.set_cons_succ]; rfl)) (hJ0_3_4_7_9 (u0, (A13, c13), u4, (A17, c17), b9) _ ⟨HB1.out, HK1.out, HV1.out, H91.out, HKV1.out, HK91.out, HV91.out⟩)
    · skip
      rintro ⟨u0, ⟨A13, c13⟩, u4, ⟨A17, c17⟩, b9⟩ w' ⟨hB_, hK_, hV_, hKV_⟩
      have HB := Aside0.mk hB_
      have HK := Aside0.mk hK_
      have HV := Aside0.mk hV_
      have HKV := Aside0.mk hKV_
      have hHeld : w'.cell? ⟨w.heap.size, 3, none⟩ = some (.slice A3 ks.length c3) ∧ w'.cell? ⟨w.heap.size, 4, none⟩ = some (.slice A4 vs.length c4) := ⟨((hB_).cell (World.block_lt_of_cell? W0 _ HC3.out)).trans HC3.out, ((hB_).cell (World.block_lt_of_cell? W0 _ HC4.out)).trans HC4.out⟩
      clear hB_ hK_ hV_ hKV_
      refine norm_ (a' := ?_) ?_ ?_
      rotate_left
      · simp only [putAll, Act.put, List.setIfInBounds_toArray, List.set_cons_zero, List.set_cons_succ]
        rfl
      refine one_ (i := 9) (N := some 7) #[true, true, true, true, true, true, true, true, true, true, false] rfl rfl (by kernel_rfl) (by decide) (fun K hK => ?_)
      refine value_ (w1 := ?_) (v := ?_) (by rfl) rfl ?_ ?_
      rotate_left 2
      · go_simp
        constructor
        · rfl
        · rfl
      have HB1 : Aside0 (Below W0.heap.size W0 (World.alloc (w') (Obj.cells #[.int .i64 0, .int .i64 0, .string ⟨#[]⟩, .slice none 0 0, .slice none 0 0] 26))) := Aside0.mk (Below.alloc (show Below W0.heap.size W0 (w') from by repeat (first | exact HB.out | apply below_drew1)) HB.out.size _)
      have H91 : Aside0 ((World.alloc (w') (Obj.cells #[.int .i64 0, .int .i64 0, .string ⟨#[]⟩, .slice none 0 0, .slice none 0 0] 26)).heap[(w').heap.size]? = some (.cells #[.int .i64 0, .int .i64 0, .string ⟨#[]⟩, .slice none 0 0, .slice none 0 0] 26 (0, 0)) ∧ W0.heap.size ≤ (w').heap.size) := Aside0.mk ⟨(MapKept.heap_alloc _ _).1, HB.out.size⟩
      have HK1 := Aside0.mk (string_apart HK.out (World.grownBy_alloc (w') (Obj.cells #[.int .i64 0, .int .i64 0, .string ⟨#[]⟩, .slice none 0 0, .slice none 0 0] 26) none) (fun _ _ e => by cases e))
      have HK91 := Aside0.mk (apart_alloc HK.out)
      have HV1 := Aside0.mk (kR_apart HV.out (World.grownBy_alloc (w') (Obj.cells #[.int .i64 0, .int .i64 0, .string ⟨#[]⟩, .slice none 0 0, .slice none 0 0] 26) none) (fun _ _ e => by cases e))
      have HV91 := Aside0.mk (apart_alloc HV.out)
      have HKV1 := Aside0.mk HKV.out
      refine hK.out _ _ ⟨((HB1.out).cell (World.block_lt_of_cell? W0 _ HC3.out)).trans HC3.out, ((HB1.out).cell (World.block_lt_of_cell? W0 _ HC4.out)).trans HC4.out⟩ (fun hHeld => ?_)
      clear hK K
      refine norm_ (a' := ?_) ?_ ?_
      rotate_left
      · show Act.put _ (some 7) _ = _
        simp only [Act.put, List.setIfInBounds_toArray, List.set_cons_zero, List.set_cons_succ, i64_w, i32_w]
        rfl
      exact norm_ (by first | (simp only [putAll, Act.put, List.setIfInBounds_toArray, List.set_cons_zero, List.set_cons_succ]; done) | (simp only [putAll, Act.put, List.setIfInBounds_toArray, List.set_cons_zero, List.set_cons_succ]; rfl)) (hJ0_3_4_7_9 (u0, (A13, c13), u4, (A17, c17), (w').heap.size) _ ⟨HB1.out, HK1.out, HV1.out, H91.out, HKV1.out, HK91.out, HV91.out⟩)
  rintro ⟨u0, ⟨A13, c13⟩, u4, ⟨A17, c17⟩, b9⟩ w' ⟨hB_, hK_, hV_, h9_, hKV_, hK9_, hV9_⟩
  have HB := Aside0.mk hB_
  have HK := Aside0.mk hK_
  have HV := Aside0.mk hV_
  have H9 := Aside0.mk h9_
  have HKV := Aside0.mk hKV_
  have HK9 := Aside0.mk hK9_
  have HV9 := Aside0.mk hV9_
  have hHeld : w'.cell? ⟨w.heap.size, 3, none⟩ = some (.slice A3 ks.length c3) ∧ w'.cell? ⟨w.heap.size, 4, none⟩ = some (.slice A4 vs.length c4) := ⟨((hB_).cell (World.block_lt_of_cell? W0 _ HC3.out)).trans HC3.out, ((hB_).cell (World.block_lt_of_cell? W0 _ HC4.out)).trans HC4.out⟩
  clear hB_ hK_ hV_ h9_ hKV_ hK9_ hV9_
  refine norm_ (a' := ?_) ?_ ?_
  rotate_left
  · simp only [putAll, Act.put, List.setIfInBounds_toArray, List.set_cons_zero, List.set_cons_succ]
    rfl
  refine last_ (i := 10) (N := none) #[true, true, true, true, true, true, true, true, true, true, true] rfl rfl (by kernel_rfl) (by decide) (fun K hK => ?_)
  refine store_step (cur := #[.int .i64 0, .int .i64 0, .string ⟨#[]⟩, .slice none 0 0, .slice none 0 0]) (e := 26) (g := b9) 26 _ _ (.agg #[.int .i64 5, .int .i64 0, .string ⟨#[]⟩, .slice A13 ks.length c13, .slice A17 vs.length c17]) [.int .i64 5, .int .i64 0, .string ⟨#[]⟩, .slice A13 ks.length c13, .slice A17 vs.length c17] (by rfl) rfl rfl rfl rfl H9.out.1 rfl (show (Tryz.prog.info? 26).map (·.size) = some 5 by kernel_rfl) rfl (by simp [Value.oneCell']) ?_
  intro w4 h4 hg4
  have H94 := Aside0.mk h4
  have HG4 := Aside0.mk hg4
  clear h4 hg4
  refine hK.out _ _ ?_
  clear hK K
  refine done_ (by kernel_rfl) ?_
  
  have HB4 : Aside0 (Below W0.heap.size W0 w4) := ⟨HB.out.grown HG4.out HB.out.size (fun k e => by injection e with e; subst e; exact H9.out.2)⟩
  have HK4 := Aside0.mk (string_apart HK.out HG4.out (fun k hk e => HK9.out (hk.trans e)))
  have HV4 := Aside0.mk (kR_apart HV.out HG4.out (fun k hk e => HV9.out (hk.trans e)))
  have hbv := (HB4.out.block w.heap.size (by rw [HSZ0.out]; omega)).trans HBV.out
  have q0 : w4.cell? ⟨w.heap.size, 0, none⟩ = some (.int .i64 n0) := by simp [World.cell?, hbv]
  have q1 : w4.cell? ⟨w.heap.size, 1, none⟩ = some (.int .i64 n1) := by simp [World.cell?, hbv]
  have q2 : w4.cell? ⟨w.heap.size, 2, none⟩ = some (.string tx) := by simp [World.cell?, hbv]
  have q3 : w4.cell? ⟨w.heap.size, 3, none⟩ = some (.slice A3 ks.length c3) := by simp [World.cell?, hbv]
  have q4 : w4.cell? ⟨w.heap.size, 4, none⟩ = some (.slice A4 vs.length c4) := by simp [World.cell?, hbv]
  clear hbv
  go_wp2_with fail
  refine (spec_place ks key tx n0 n1 A3 c3 (.slice A4 vs.length c4) w4 (Kd.C_below GK.out HB4.out) hn).mono ?_
  unfold placeOut
  rintro e w5 ⟨rfl, hd⟩
  have HB5 := Aside0.mk (below_then HB4.out HB4.out.size hd)
  have HK5 := Aside0.mk (Kd.R_below HK4.out hd)
  have HV5 := Aside0.mk (Kd.R_below HV4.out hd)
  have H95 := Aside0.mk ((hd.block b9 (blk_lt H94.out)).trans H94.out)
  clear hd q0 q1 q2 q3 q4
  have r0 : w5.cell? ⟨b9, 0, none⟩ = some (.int .i64 5) := by have := H95.out; simp [World.cell?, this]
  have r1 : w5.cell? ⟨b9, 1, none⟩ = some (.int .i64 0) := by have := H95.out; simp [World.cell?, this]
  have r2 : w5.cell? ⟨b9, 2, none⟩ = some (.string ⟨#[]⟩) := by have := H95.out; simp [World.cell?, this]
  have r3 : w5.cell? ⟨b9, 3, none⟩ = some (.slice A13 ks.length c13) := by have := H95.out; simp [World.cell?, this]
  have r4 : w5.cell? ⟨b9, 4, none⟩ = some (.slice A17 vs.length c17) := by have := H95.out; simp [World.cell?, this]
  have hbx := (HB5.out.block (w.heap.size + 1) (by rw [HSZ0.out]; omega)).trans HBX.out
  have p0 : w5.cell? ⟨w.heap.size + 1, 0, none⟩ = some (.int .i64 x.n0) := by simp [World.cell?, hbx]
  have p1 : w5.cell? ⟨w.heap.size + 1, 1, none⟩ = some (.int .i64 x.n1) := by simp [World.cell?, hbx]
  have p2 : w5.cell? ⟨w.heap.size + 1, 2, none⟩ = some (.string x.t) := by simp [World.cell?, hbx]
  have p3 : w5.cell? ⟨w.heap.size + 1, 3, none⟩ = some (.slice x.A x.an x.ac) := by simp [World.cell?, hbx]
  have p4 : w5.cell? ⟨w.heap.size + 1, 4, none⟩ = some (.slice x.B x.bn x.bc) := by simp [World.cell?, hbx]
  clear hbx
  have hile := placeN_le key ks
  cases hB : placeB key ks with
  | true =>
    have hilt := placeB_lt key ks hB
    have HWK : Hid (withKs key ks = ks) := Lib.hid (by unfold withKs; rw [if_pos hB])
    have HWV : Hid (withVs key ks vs x = vs.set (placeN key ks) x) := Lib.hid (by unfold withVs; rw [if_pos hB])
    clear hB
    generalize placeN key ks = i at *
    obtain ⟨g, rfl⟩ : ∃ g, A17 = some ⟨g, 0, none⟩ := by
      obtain ⟨_, inner, hown, _⟩ := HV5.out
      rcases hown.2 with ⟨hv, _⟩ | ⟨g, cap, cur, hv, _⟩
      · injection hv with _ h2 _; have := HLV.out; omega
      · injection hv with h1 _ _; exact ⟨g, h1⟩
    have j0 : (0 : Int) ≤ (i : Int) := by omega
    have j1 : (i : Int) < (vs.length : Int) := by have := HLV.out; omega
    obtain ⟨ad, cc, ea, hcl, _, hcc⟩ := Kd.C_get (Kd.R_reads' HV5.out).2.2 x (i : Int) j0 j1
    injection ea with ea
    subst ea
    have hcc' : ∀ (j : Nat) (u : Value), cc[j]? = some u → w5.cell? ⟨g, (i : Int).toNat * kR.sz + j, none⟩ = some u := fun j u hu => by
      have := hcc j u hu
      rwa [add_plain] at this
    have HCC := Lib.hid hcc'
    have HCL := Lib.hid hcl
    clear hcc hcc' hcl
    go_wp2_with (first
      | (refine Kd.R_store kR (w0 := W0) W0.heap.size rfl rfl 26 _ _ rfl 26 (i : Int) 0 vs x (.agg #[.int .i64 x.n0, .int .i64 x.n1, .string x.t, .slice x.A x.an x.ac, .slice x.B x.bn x.bc]) [.int .i64 x.n0, .int .i64 x.n1, .string x.t, .slice x.A x.an x.ac, .slice x.B x.bn x.bc] cc (fun _ => True) (fun _ => False) rfl ?ho rfl rfl ?ht ?h1 HV5.out j0 j1 HCL.out HCC.out ?hj ?hM (fun _ h => h.elim) HB5.out ?_; (case ho => show _ = (i : Int).toNat * 5 + 0; simp); (case ht => exact (show (Tryz.prog.info? 26).map (·.size) = some 5 by kernel_rfl)); (case h1 => simp [Value.oneCell']); (case hj => exact Nat.le_refl 5); (case hM => rw [List.take_zero, List.nil_append, List.drop_of_length_le (by rw [HCL.out]; exact Nat.le_refl 5), List.append_nil]; exact HXK.out); intro w6 ho6 hb6 hg6; have HV6 := Aside0.mk ho6; have HB6' := Aside0.mk hb6; have HG6 := Aside0.mk hg6; have H96 := Aside0.mk (blk_kept H95.out hg6 (fun e => HV9.out e.symm)); have s0 : w6.cell? ⟨b9, 0, none⟩ = some (.int .i64 5) := (by have := H96.out; simp [World.cell?, this]); have s1 : w6.cell? ⟨b9, 1, none⟩ = some (.int .i64 0) := (by have := H96.out; simp [World.cell?, this]); have s2 : w6.cell? ⟨b9, 2, none⟩ = some (.string ⟨#[]⟩) := (by have := H96.out; simp [World.cell?, this]); have s3 : w6.cell? ⟨b9, 3, none⟩ = some (.slice A13 ks.length c13) := (by have := H96.out; simp [World.cell?, this]); have s4 : w6.cell? ⟨b9, 4, none⟩ = some (.slice (some ⟨g, 0, none⟩) vs.length c17) := (by have := H96.out; simp [World.cell?, this]); clear ho6 hb6 hg6)
      | (refine store_list (cur := #[.int .i64 0, .int .i64 0, .string ⟨#[]⟩, .slice none 0 0, .slice none 0 0]) (e := 26) (g := w.heap.size + 1 + 1) 26 _ _ (.agg #[.int .i64 5, .int .i64 0, .string ⟨#[]⟩, .slice A13 ks.length c13, .slice (some ⟨g, 0, none⟩) vs.length c17]) [.int .i64 5, .int .i64 0, .string ⟨#[]⟩, .slice A13 ks.length c13, .slice (some ⟨g, 0, none⟩) vs.length c17] rfl rfl rfl rfl rfl ((HB6'.out.block (w.heap.size + 1 + 1) (by rw [HSZ0.out]; omega)).trans HB6.out) rfl (show (Tryz.prog.info? 26).map (·.size) = some 5 by kernel_rfl) rfl (by simp [Value.oneCell']) ?_; intro w7 h7 hg7; have H7 := Aside0.mk h7; have HG7 := Aside0.mk hg7; have z0 : w7.cell? ⟨w.heap.size + 1 + 1, 0, none⟩ = some (.int .i64 5) := (by simp [World.cell?, h7]); have z1 : w7.cell? ⟨w.heap.size + 1 + 1, 1, none⟩ = some (.int .i64 0) := (by simp [World.cell?, h7]); have z2 : w7.cell? ⟨w.heap.size + 1 + 1, 2, none⟩ = some (.string ⟨#[]⟩) := (by simp [World.cell?, h7]); have z3 : w7.cell? ⟨w.heap.size + 1 + 1, 3, none⟩ = some (.slice A13 ks.length c13) := (by simp [World.cell?, h7]); have z4 : w7.cell? ⟨w.heap.size + 1 + 1, 4, none⟩ = some (.slice (some ⟨g, 0, none⟩) vs.length c17) := (by simp [World.cell?, h7]); clear h7 hg7))
    refine bodyPost_ret (v := .agg #[.int .i64 5, .int .i64 0, .string ⟨#[]⟩, .slice A13 ks.length c13, .slice (some ⟨g, 0, none⟩) vs.length c17]) (by simp [results, Tryz.results22, go_sem, z0, z1, z2, z3, z4]) rfl ?_
    have hkg := HKV.out
    have HK6 := string_apart HK5.out HG6.out (fun k hk e => hkg k hk (show some g = some k from e.symm))
    have HK7 := string_apart HK6 HG7.out (fun k hk e => by
      obtain ⟨inner, hown⟩ := Kd.R_own HK6
      have := own_base hown k hk
      injection e with e
      have := HSZ0.out
      omega)
    have HV7 := kR_apart HV6.out HG7.out (fun k hk e => by
      obtain ⟨inner, hown⟩ := Kd.R_own HV6.out
      have := own_base hown k hk
      injection e with e
      have := HSZ0.out
      omega)
    have hbw : Below w.heap.size w w7 := (HBW.out.trans (HB6'.out.mono HBW.out.size)).grown HG7.out (Nat.le_trans HBW.out.size HB6'.out.size) (fun k e => by injection e with e; omega)
    obtain ⟨A, c, hA, hl1, hC1⟩ := Kd.R_reads HK7
    injection hA with hA hA2 hA3
    subst hA hA3
    obtain ⟨A, c, hA, hl2, hC2⟩ := Kd.R_reads HV7
    injection hA with hA hA2 hA3
    subst hA hA3
    rw [HWK.out, HWV.out]
    exact ⟨A13, c13, some ⟨g, 0, none⟩, c17, by rw [List.length_set], hl1, hC1, hl2, hC2, fr_own HK7 (by have := HSZ0.out; omega), fr_own HV7 (by have := HSZ0.out; omega), hbw⟩
  | false =>
    have HWK : Hid (withKs key ks = ks.take (placeN key ks) ++ key :: ks.drop (placeN key ks)) := Lib.hid (by unfold withKs; rw [if_neg (by rw [hB]; decide)])
    have HWV : Hid (withVs key ks vs x = vs.take (placeN key ks) ++ x :: vs.drop (placeN key ks)) := Lib.hid (by unfold withVs; rw [if_neg (by rw [hB]; decide)])
    clear hB
    generalize placeN key ks = i at *
    have hl13 : ks.length ≤ c13 := (Kd.R_reads' HK5.out).2.1
    have hic : i ≤ c13 := by omega
    have HOB : Hid ((Value.slice A13 i c13).ownBlock = (Value.slice A13 ks.length c13).ownBlock) := Lib.hid (by rcases A13 with _ | ⟨b_, _ | o_, _ | s_⟩ <;> rfl)
    obtain ⟨i0', hii, _, hi1, _⟩ := info_parts infoS
    obtain ⟨A4', hA4⟩ : ∃ A4' : Option Addr, A4' = (if c13 = i then A13 else A13.map (·.add (i * 1))) := ⟨_, rfl⟩
    have HC4' : Aside0 (∀ W : World, Kd.C Kd.string W A13 ks.length ks → Kd.C Kd.string W A4' (ks.drop i).length (ks.drop i)) := ⟨fun W h => by rw [hA4]; exact Kd.C_drop h hile hl13⟩
    have hcut1 := cut_from (P := Tryz.prog) 22 9 .i64 Tryz.underlying22 hii 1 hi1 A13 ks.length c13 (i : Int) (by omega) (by omega)
    have hcut2 := cut_to (P := Tryz.prog) 22 9 .i64 Tryz.underlying22 hii A13 ks.length c13 (i : Int) (by omega) (by omega) hl13
    simp only [Int.toNat_natCast] at hcut1 hcut2
    rw [← hA4] at hcut1
    clear hA4
    obtain ⟨ks2, hks2⟩ : ∃ ks2, ks2 = ks.take i ++ ([key] ++ ks.drop i) := ⟨_, rfl⟩
    have HKS2 := Lib.hid hks2
    clear hks2
    go_upto_region 6 with fail
    refine start_ (n := 14) (S := fun w' => w'.cell? ⟨b9, 3, none⟩ = some (.slice A13 ks.length c13)) (ds := [13]) #[false, false, false, false, false, false, false, false, false, false, false, false, false, false] (by kernel_rfl) rfl rfl (r3) (fun hHeld => ?_)
    refine pure_ (i := 0) (N := some 32) (v := ?_) (a' := ?_) #[true, false, false, false, false, false, false, false, false, false, false, false, false, false] rfl rfl (by kernel_rfl) (fun _ _ _ h => h) (Or.inl ⟨by rfl, ?_⟩) ?_ ?_
    rotate_left
    · intro w'
      go_simp
      with_reducible rfl
    rotate_left
    · simp only [Act.put, List.setIfInBounds_toArray, List.set_cons_zero, List.set_cons_succ, i64_w, i32_w]
      rfl
    refine pure_ (i := 2) (N := some 34) (v := ?_) (a' := ?_) #[true, false, true, false, false, false, false, false, false, false, false, false, false, false] rfl rfl (by kernel_rfl) (fun _ _ _ h => h) (Or.inl ⟨by rfl, ?_⟩) ?_ ?_
    rotate_left
    · intro w'
      go_simp
      with_reducible rfl
    rotate_left
    · simp only [Act.put, List.setIfInBounds_toArray, List.set_cons_zero, List.set_cons_succ, i64_w, i32_w]
      rfl
    refine pure_ (i := 4) (N := some 36) (v := ?_) (a' := ?_) #[true, false, true, false, true, false, false, false, false, false, false, false, false, false] rfl rfl (by kernel_rfl) (fun _ _ _ h => h) (Or.inl ⟨by rfl, ?_⟩) ?_ ?_
    rotate_left
    · intro w'
      go_simp
      with_reducible rfl
    rotate_left
    · simp only [Act.put, List.setIfInBounds_toArray, List.set_cons_zero, List.set_cons_succ, i64_w, i32_w]
      rfl
    refine pure_ (i := 6) (N := some 38) (v := ?_) (a' := ?_) #[true, false, true, false, true, false, true, false, false, false, false, false, false, false] rfl rfl (by kernel_rfl) (fun _ _ _ h => h) (Or.inl ⟨by rfl, ?_⟩) ?_ ?_
    rotate_left
    · intro w'
      go_simp
      with_reducible rfl
    rotate_left
    · simp only [Act.put, List.setIfInBounds_toArray, List.set_cons_zero, List.set_cons_succ, i64_w, i32_w]
      rfl
    refine pure_ (i := 8) (N := some 40) (v := ?_) (a' := ?_) #[true, false, true, false, true, false, true, false, true, false, false, false, false, false] rfl rfl (by kernel_rfl) (fun _ _ _ h => h) (Or.inl ⟨by rfl, ?_⟩) ?_ ?_
    rotate_left
    · intro w'
      go_simp
      with_reducible rfl
    rotate_left
    · simp only [Act.put, List.setIfInBounds_toArray, List.set_cons_zero, List.set_cons_succ, i64_w, i32_w]
      rfl
    refine take_ (i := 1) (N := some 33) (v := ?_) (a' := ?_) #[true, true, true, false, true, false, true, false, true, false, false, false, false, false] rfl rfl (by kernel_rfl) (fun _ _ _ h => h) (Or.inl ⟨by rfl, ?_⟩) hHeld ?_ ?_
    rotate_left
    · intro w' s0
      go_simp
      with_reducible rfl
    rotate_left
    · simp only [Act.put, List.setIfInBounds_toArray, List.set_cons_zero, List.set_cons_succ, i64_w, i32_w]
      rfl
    refine pure_ (i := 3) (N := some 35) (v := ?_) (a' := ?_) #[true, true, true, true, true, false, true, false, true, false, false, false, false, false] rfl rfl (by kernel_rfl) (fun _ _ _ h => h) (Or.inl ⟨by rfl, ?_⟩) ?_ ?_
    rotate_left
    · intro w'
      go_simp
      with_reducible rfl
    rotate_left
    · simp only [Act.put, List.setIfInBounds_toArray, List.set_cons_zero, List.set_cons_succ, i64_w, i32_w]
      rfl
    refine take_ (i := 7) (N := some 39) (v := ?_) (a' := ?_) #[true, true, true, true, true, false, true, true, true, false, false, false, false, false] rfl rfl (by kernel_rfl) (fun _ _ _ h => h) (Or.inl ⟨by rfl, ?_⟩) hHeld ?_ ?_
    rotate_left
    · intro w' s0
      go_simp
      with_reducible rfl
    rotate_left
    · simp only [Act.put, List.setIfInBounds_toArray, List.set_cons_zero, List.set_cons_succ, i64_w, i32_w]
      rfl
    refine pure_ (i := 9) (N := some 41) (v := ?_) (a' := ?_) #[true, true, true, true, true, false, true, true, true, true, false, false, false, false] rfl rfl (by kernel_rfl) (fun _ _ _ h => h) (Or.inl ⟨by rfl, ?_⟩) ?_ ?_
    rotate_left
    · intro w'
      go_simp
      with_reducible rfl
    rotate_left
    · simp only [Act.put, List.setIfInBounds_toArray, List.set_cons_zero, List.set_cons_succ, i64_w, i32_w]
      rfl
    refine one_ (i := 5) (N := some 37) #[true, true, true, true, true, true, true, true, true, true, false, false, false, false] rfl rfl (by kernel_rfl) (by decide) (fun K hK => ?_)
    refine Kd.R_lit_step Kd.string (w0 := W0) W0.heap.size 9 ?hg (N := 37) ?hd (xs := [key]) (inner := [.string key]) (ok := fun _ => True) (okp := fun _ => True) ?hr ?hp (fun _ hk => hk) trivial ?hB ?hS (by simp) ?_; (case hd => rfl); (case hg => rfl); (case hr => first | (go_simp; done) | (go_simp; rfl)); (case hp => exact Reps.snoc (ps := []) (cs := []) (Reps.none _ _) rfl rfl); (case hB => repeat (first | exact HB5.out | apply below_drew1)); (case hS => exact HB5.out.size)
    intro v37 w7 ho hb hg hn
    have HB7 := Aside0.mk hb
    have HL7 := Aside0.mk ho
    have HK7 := Aside0.mk (string_apart (show Kd.string.R 9 w5.drew _ _ _ _ from HK5.out) hg (fun _ _ e => by cases e))
    have HV7 := Aside0.mk (kR_apart (show kR.R 26 w5.drew _ _ _ _ from HV5.out) hg (fun _ _ e => by cases e))
    have H97 := Aside0.mk (blk_kept (show w5.drew.heap[b9]? = _ from H95.out) hg (fun e => by cases e))
    have SLK := Aside0.mk (sep_new (show Kd.string.R 9 w5.drew _ _ _ _ from HK5.out) hn)
    have SLV := Aside0.mk (sep_new (show kR.R 26 w5.drew _ _ _ _ from HV5.out) hn)
    have SL9 := Aside0.mk (apart_new hn (show w5.drew.heap[b9]? = _ from H95.out))
    have f7 : w7.cell? ⟨b9, 3, none⟩ = some (.slice A13 ks.length c13) := (by have := H97.out; simp [World.cell?, this])
    clear ho hb hg hn
    refine hK.out _ _ (f7) (fun hHeld => ?_)
    clear hK K
    refine norm_ (a' := ?_) ?_ ?_
    rotate_left
    · show Act.put _ (some 37) _ = _
      simp only [Act.put, List.setIfInBounds_toArray, List.set_cons_zero, List.set_cons_succ, i64_w, i32_w]
      rfl
    refine one_ (i := 10) (N := some 42) #[true, true, true, true, true, true, true, true, true, true, true, false, false, false] rfl rfl (by kernel_rfl) (by decide) (fun K hK => ?_)
    refine Kd.R_append_rows_step Kd.string (Rr := fun x_ cs_ => Kd.string.K w7 x_ cs_) (w0 := W0) W0.heap.size (by rfl) (.tmp 37) (.tmp 41) 22 9 (.string ⟨#[]⟩) 16 rfl Tryz.underlying22 infoS rfl (by decide) (by decide) v37 [key] (ks.drop i) A4' _ _ (fun _ => True) (fun _ => False) rfl (by rw [← List.length_drop]; rfl) ?hO ?hR (fun x_ cs_ h_ => h_) (fun _ h_ => h_.elim) (fun _ _ => trivial) ?hB ?hS ?hL ?_; (case hO => exact HL7.out); (case hR => exact HC4'.out _ (Kd.R_reads' HK7.out).2.2); (case hB => exact HB7.out); (case hS => exact HB7.out.size); (case hL => simp only [List.length_drop, List.length_singleton]; omega)
    intro v42 w11 ho hb hg hat
    have HB11 := Aside0.mk hb
    obtain ⟨A42, c42, rfl, hl42, hC42⟩ := Kd.R_reads ho
    have HC42 := Aside0.mk hC42
    have HK11 := Aside0.mk (string_apart HK7.out hg (fun k hk e => SLK.out k e.symm hk))
    have HV11 := Aside0.mk (kR_apart HV7.out hg (fun k hk e => SLV.out k e.symm hk))
    have H911 := Aside0.mk (blk_kept H97.out hg (fun e => SL9.out e.symm))
    have f11 : w11.cell? ⟨b9, 3, none⟩ = some (.slice A13 ks.length c13) := (by have := H911.out; simp [World.cell?, this])
    clear ho hb hg hat hC42
    refine hK.out _ _ (f11) (fun hHeld => ?_)
    clear hK K
    refine norm_ (a' := ?_) ?_ ?_
    rotate_left
    · show Act.put _ (some 42) _ = _
      simp only [Act.put, List.setIfInBounds_toArray, List.set_cons_zero, List.set_cons_succ, i64_w, i32_w]
      rfl
    refine one_ (i := 11) (N := some 43) #[true, true, true, true, true, true, true, true, true, true, true, true, false, false] rfl rfl (by kernel_rfl) (by decide) (fun K hK => ?_)
    refine Kd.R_append_rows_step Kd.string (Rr := fun x_ cs_ => Kd.string.K w11 x_ cs_) (w0 := W0) W0.heap.size (by rfl) (.tmp 35) (.tmp 42) 22 9 (.string ⟨#[]⟩) 16 rfl Tryz.underlying22 infoS rfl (by decide) (by decide) (.slice A13 i c13) (ks.take i) ([key] ++ ks.drop i) A42 _ c42 (fun _ => True) (fun _ => False) rfl rfl ?hO ?hR (fun x_ cs_ h_ => h_) (fun _ h_ => h_.elim) (fun _ _ => trivial) ?hB ?hS ?hL ?_; (case hO => exact Kd.R_take HK11.out hile); (case hR => exact HC42.out); (case hB => exact HB11.out); (case hS => exact HB11.out.size); (case hL => simp only [List.length_append, List.length_take, List.length_drop, List.length_singleton]; omega)
    intro v43 w12 ho hb hg hat
    rw [← HKS2.out] at ho
    have HB12 := Aside0.mk hb
    obtain ⟨A43, c43, rfl, hl43, _⟩ := Kd.R_reads ho
    have HK12 := Aside0.mk ho
    have HV12 := Aside0.mk (kR_apart HV11.out hg (fun k hk e => HKV.out k (HOB.out.symm.trans e.symm) hk))
    have H912 := Aside0.mk (blk_kept H911.out hg (fun e => HK9.out (HOB.out.symm.trans e.symm)))
    have HKV12 := Aside0.mk (sep_moved HV11.out (fun k hk => HKV.out k (HOB.out.symm.trans hk)) hat)
    have HK912 := Aside0.mk (apart_moved hat (fun e => HK9.out (HOB.out.symm.trans e)) H911.out)
    have f12 : w12.cell? ⟨b9, 3, none⟩ = some (.slice A13 ks.length c13) := (by have := H912.out; simp [World.cell?, this])
    clear ho hb hg hat
    refine hK.out _ _ (f12) (fun hHeld => ?_)
    clear hK K
    refine norm_ (a' := ?_) ?_ ?_
    rotate_left
    · show Act.put _ (some 43) _ = _
      simp only [Act.put, List.setIfInBounds_toArray, List.set_cons_zero, List.set_cons_succ, i64_w, i32_w]
      rfl
    refine pure_ (i := 12) (N := some 44) (v := ?_) (a' := ?_) #[true, true, true, true, true, true, true, true, true, true, true, true, true, false] rfl rfl (by kernel_rfl) (fun _ _ _ h => h) (Or.inl ⟨by rfl, ?_⟩) ?_ ?_
    rotate_left
    · intro w'
      go_simp
      with_reducible rfl
    rotate_left
    · simp only [Act.put, List.setIfInBounds_toArray, List.set_cons_zero, List.set_cons_succ, i64_w, i32_w]
      rfl
    refine last_ (i := 13) (N := none) #[true, true, true, true, true, true, true, true, true, true, true, true, true, true] rfl rfl (by kernel_rfl) (by decide) (fun K hK => ?_)
    refine store_fld (g := b9) (o := 3) 22 _ _ (.slice A43 ks2.length c43) (by rfl) rfl rfl rfl rfl H912.out rfl (show (Tryz.prog.info? 22).map (·.size) = some 1 by kernel_rfl) (show 3 < 5 by decide) rfl ?_
    intro w13 h13 hg13
    have H913 := Aside0.mk h13
    have HG13 := Aside0.mk hg13
    clear h13 hg13
    refine hK.out _ _ ?_
    clear hK K
    refine done_ (by kernel_rfl) ?_
    
    have hb9 := H9.out.2
    have HB13 : Aside0 (Below W0.heap.size W0 w13) := ⟨HB12.out.grown HG13.out HB12.out.size (fun k e => by injection e with e; omega)⟩
    have HK13 := Aside0.mk (string_apart HK12.out HG13.out (fun k hk e => HK912.out (hk.trans e)))
    have HV13 := Aside0.mk (kR_apart HV12.out HG13.out (fun k hk e => HV9.out (hk.trans e)))
    have hile2 : i ≤ vs.length := by rw [HLV.out]; exact hile
    have hl17 : vs.length ≤ c17 := (Kd.R_reads' HV13.out).2.1
    have hic2 : i ≤ c17 := by omega
    have HOV : Hid ((Value.slice A17 i c17).ownBlock = (Value.slice A17 vs.length c17).ownBlock) := Lib.hid (by rcases A17 with _ | ⟨b_, _ | o_, _ | s_⟩ <;> rfl)
    obtain ⟨i1', hii2, _, hi2, _⟩ := info_parts infoV
    obtain ⟨A4'', hA4⟩ : ∃ A4'' : Option Addr, A4'' = (if c17 = i then A17 else A17.map (·.add (i * 5))) := ⟨_, rfl⟩
    have HC4'' : Aside0 (∀ W : World, kR.C W A17 vs.length vs → kR.C W A4'' (vs.drop i).length (vs.drop i)) := ⟨fun W h => by rw [hA4]; exact Kd.C_drop h hile2 hl17⟩
    clear hcut1 hcut2
    have hcut3 := cut_from (P := Tryz.prog) 24 26 .i64 Tryz.underlying24 hii2 5 hi2 A17 vs.length c17 (i : Int) (by omega) (by omega)
    have hcut4 := cut_to (P := Tryz.prog) 24 26 .i64 Tryz.underlying24 hii2 A17 vs.length c17 (i : Int) (by omega) (by omega) hl17
    simp only [Int.toNat_natCast] at hcut3 hcut4
    rw [← hA4] at hcut3
    clear hA4
    obtain ⟨vs2, hvs2⟩ : ∃ vs2, vs2 = vs.take i ++ ([x] ++ vs.drop i) := ⟨_, rfl⟩
    have HVS2 := Lib.hid hvs2
    clear hvs2 r0 r1 r2 r3 r4 p0 p1 p2 p3 p4
    have fa13 : w13.cell? ⟨b9, 4, none⟩ = some (.slice A17 vs.length c17) := (by have := H913.out; simp [World.cell?, this])
    have fx13_0 : w13.cell? ⟨w.heap.size + 1, 0, none⟩ = some (.int .i64 x.n0) := (by have := (HB13.out.block (w.heap.size + 1) (by rw [HSZ0.out]; omega)).trans HBX.out; simp [World.cell?, this])
    have fx13_1 : w13.cell? ⟨w.heap.size + 1, 1, none⟩ = some (.int .i64 x.n1) := (by have := (HB13.out.block (w.heap.size + 1) (by rw [HSZ0.out]; omega)).trans HBX.out; simp [World.cell?, this])
    have fx13_2 : w13.cell? ⟨w.heap.size + 1, 2, none⟩ = some (.string x.t) := (by have := (HB13.out.block (w.heap.size + 1) (by rw [HSZ0.out]; omega)).trans HBX.out; simp [World.cell?, this])
    have fx13_3 : w13.cell? ⟨w.heap.size + 1, 3, none⟩ = some (.slice x.A x.an x.ac) := (by have := (HB13.out.block (w.heap.size + 1) (by rw [HSZ0.out]; omega)).trans HBX.out; simp [World.cell?, this])
    have fx13_4 : w13.cell? ⟨w.heap.size + 1, 4, none⟩ = some (.slice x.B x.bn x.bc) := (by have := (HB13.out.block (w.heap.size + 1) (by rw [HSZ0.out]; omega)).trans HBX.out; simp [World.cell?, this])
    go_wp2_with fail
    refine start_ (n := 14) (S := fun w' => w'.cell? ⟨b9, 4, none⟩ = some (.slice A17 vs.length c17) ∧ w'.cell? ⟨w.heap.size + 1, 0, none⟩ = some (.int .i64 x.n0) ∧ w'.cell? ⟨w.heap.size + 1, 1, none⟩ = some (.int .i64 x.n1) ∧ w'.cell? ⟨w.heap.size + 1, 2, none⟩ = some (.string x.t) ∧ w'.cell? ⟨w.heap.size + 1, 3, none⟩ = some (.slice x.A x.an x.ac) ∧ w'.cell? ⟨w.heap.size + 1, 4, none⟩ = some (.slice x.B x.bn x.bc)) (ds := [13]) #[false, false, false, false, false, false, false, false, false, false, false, false, false, false] (by kernel_rfl) rfl rfl ⟨fa13, fx13_0, fx13_1, fx13_2, fx13_3, fx13_4⟩ (fun hHeld => ?_)
    refine pure_ (i := 0) (N := some 45) (v := ?_) (a' := ?_) #[true, false, false, false, false, false, false, false, false, false, false, false, false, false] rfl rfl (by kernel_rfl) (fun _ _ _ h => h) (Or.inl ⟨by rfl, ?_⟩) ?_ ?_
    rotate_left
    · intro w'
      go_simp
      with_reducible rfl
    rotate_left
    · simp only [Act.put, List.setIfInBounds_toArray, List.set_cons_zero, List.set_cons_succ, i64_w, i32_w]
      rfl
    refine pure_ (i := 2) (N := some 47) (v := ?_) (a' := ?_) #[true, false, true, false, false, false, false, false, false, false, false, false, false, false] rfl rfl (by kernel_rfl) (fun _ _ _ h => h) (Or.inl ⟨by rfl, ?_⟩) ?_ ?_
    rotate_left
    · intro w'
      go_simp
      with_reducible rfl
    rotate_left
    · simp only [Act.put, List.setIfInBounds_toArray, List.set_cons_zero, List.set_cons_succ, i64_w, i32_w]
      rfl
    refine pure_ (i := 6) (N := some 51) (v := ?_) (a' := ?_) #[true, false, true, false, false, false, true, false, false, false, false, false, false, false] rfl rfl (by kernel_rfl) (fun _ _ _ h => h) (Or.inl ⟨by rfl, ?_⟩) ?_ ?_
    rotate_left
    · intro w'
      go_simp
      with_reducible rfl
    rotate_left
    · simp only [Act.put, List.setIfInBounds_toArray, List.set_cons_zero, List.set_cons_succ, i64_w, i32_w]
      rfl
    refine pure_ (i := 8) (N := some 53) (v := ?_) (a' := ?_) #[true, false, true, false, false, false, true, false, true, false, false, false, false, false] rfl rfl (by kernel_rfl) (fun _ _ _ h => h) (Or.inl ⟨by rfl, ?_⟩) ?_ ?_
    rotate_left
    · intro w'
      go_simp
      with_reducible rfl
    rotate_left
    · simp only [Act.put, List.setIfInBounds_toArray, List.set_cons_zero, List.set_cons_succ, i64_w, i32_w]
      rfl
    refine take_ (i := 1) (N := some 46) (v := ?_) (a' := ?_) #[true, true, true, false, false, false, true, false, true, false, false, false, false, false] rfl rfl (by kernel_rfl) (fun _ _ _ h => h) (Or.inl ⟨by rfl, ?_⟩) hHeld ?_ ?_
    rotate_left
    · rintro w' ⟨s0, s1, s2, s3, s4, s5⟩
      go_simp
      with_reducible rfl
    rotate_left
    · simp only [Act.put, List.setIfInBounds_toArray, List.set_cons_zero, List.set_cons_succ, i64_w, i32_w]
      rfl
    refine pure_ (i := 3) (N := some 48) (v := ?_) (a' := ?_) #[true, true, true, true, false, false, true, false, true, false, false, false, false, false] rfl rfl (by kernel_rfl) (fun _ _ _ h => h) (Or.inl ⟨by rfl, ?_⟩) ?_ ?_
    rotate_left
    · intro w'
      go_simp
      with_reducible rfl
    rotate_left
    · simp only [Act.put, List.setIfInBounds_toArray, List.set_cons_zero, List.set_cons_succ, i64_w, i32_w]
      rfl
    refine take_ (i := 4) (N := some 49) (v := ?_) (a' := ?_) #[true, true, true, true, true, false, true, false, true, false, false, false, false, false] rfl rfl (by kernel_rfl) (fun _ _ _ h => h) (Or.inl ⟨by rfl, ?_⟩) hHeld ?_ ?_
    rotate_left
    · rintro w' ⟨s0, s1, s2, s3, s4, s5⟩
      go_simp
      with_reducible rfl
    rotate_left
    · simp only [Act.put, List.setIfInBounds_toArray, List.set_cons_zero, List.set_cons_succ, i64_w, i32_w]
      rfl
    refine take_ (i := 7) (N := some 52) (v := ?_) (a' := ?_) #[true, true, true, true, true, false, true, true, true, false, false, false, false, false] rfl rfl (by kernel_rfl) (fun _ _ _ h => h) (Or.inl ⟨by rfl, ?_⟩) hHeld ?_ ?_
    rotate_left
    · rintro w' ⟨s0, s1, s2, s3, s4, s5⟩
      go_simp
      with_reducible rfl
    rotate_left
    · simp only [Act.put, List.setIfInBounds_toArray, List.set_cons_zero, List.set_cons_succ, i64_w, i32_w]
      rfl
    refine pure_ (i := 9) (N := some 54) (v := ?_) (a' := ?_) #[true, true, true, true, true, false, true, true, true, true, false, false, false, false] rfl rfl (by kernel_rfl) (fun _ _ _ h => h) (Or.inl ⟨by rfl, ?_⟩) ?_ ?_
    rotate_left
    · intro w'
      go_simp
      with_reducible rfl
    rotate_left
    · simp only [Act.put, List.setIfInBounds_toArray, List.set_cons_zero, List.set_cons_succ, i64_w, i32_w]
      rfl
    refine one_ (i := 5) (N := some 50) #[true, true, true, true, true, true, true, true, true, true, false, false, false, false] rfl rfl (by kernel_rfl) (by decide) (fun K hK => ?_)
    refine Kd.R_lit_step kR (w0 := W0) W0.heap.size 26 ?hg (N := 50) ?hd (xs := [x]) (inner := [.int .i64 x.n0, .int .i64 x.n1, .string x.t, .slice x.A x.an x.ac, .slice x.B x.bn x.bc]) (ok := fun _ => True) (okp := fun _ => True) ?hr ?hp (fun _ hk => hk) trivial ?hB ?hS (by simp) ?_; (case hd => rfl); (case hg => rfl); (case hr => first | (go_simp; done) | (go_simp; rfl)); (case hp => exact Reps.snoc (ps := []) (cs := []) (Reps.none _ _) HXK.out rfl); (case hB => repeat (first | exact HB13.out | apply below_drew1)); (case hS => exact HB13.out.size)
    intro v50 w17 ho hb hg hn
    have HB17 := Aside0.mk hb
    have HL17 := Aside0.mk ho
    have HK17 := Aside0.mk (string_apart (show Kd.string.R 9 w13.drew _ _ _ _ from HK13.out) hg (fun _ _ e => by cases e))
    have HV17 := Aside0.mk (kR_apart (show kR.R 26 w13.drew _ _ _ _ from HV13.out) hg (fun _ _ e => by cases e))
    have H917 := Aside0.mk (blk_kept (show w13.drew.heap[b9]? = _ from H913.out) hg (fun e => by cases e))
    have TLK := Aside0.mk (sep_new (show Kd.string.R 9 w13.drew _ _ _ _ from HK13.out) hn)
    have TLV := Aside0.mk (sep_new (show kR.R 26 w13.drew _ _ _ _ from HV13.out) hn)
    have TL9 := Aside0.mk (apart_new hn (show w13.drew.heap[b9]? = _ from H913.out))
    have fa17 : w17.cell? ⟨b9, 4, none⟩ = some (.slice A17 vs.length c17) := (by have := H917.out; simp [World.cell?, this]); have fx17_0 : w17.cell? ⟨w.heap.size + 1, 0, none⟩ = some (.int .i64 x.n0) := (by have := (hb.block (w.heap.size + 1) (by rw [HSZ0.out]; omega)).trans HBX.out; simp [World.cell?, this]); have fx17_1 : w17.cell? ⟨w.heap.size + 1, 1, none⟩ = some (.int .i64 x.n1) := (by have := (hb.block (w.heap.size + 1) (by rw [HSZ0.out]; omega)).trans HBX.out; simp [World.cell?, this]); have fx17_2 : w17.cell? ⟨w.heap.size + 1, 2, none⟩ = some (.string x.t) := (by have := (hb.block (w.heap.size + 1) (by rw [HSZ0.out]; omega)).trans HBX.out; simp [World.cell?, this]); have fx17_3 : w17.cell? ⟨w.heap.size + 1, 3, none⟩ = some (.slice x.A x.an x.ac) := (by have := (hb.block (w.heap.size + 1) (by rw [HSZ0.out]; omega)).trans HBX.out; simp [World.cell?, this]); have fx17_4 : w17.cell? ⟨w.heap.size + 1, 4, none⟩ = some (.slice x.B x.bn x.bc) := (by have := (hb.block (w.heap.size + 1) (by rw [HSZ0.out]; omega)).trans HBX.out; simp [World.cell?, this])
    clear ho hb hg hn
    refine hK.out _ _ ⟨fa17, fx17_0, fx17_1, fx17_2, fx17_3, fx17_4⟩ (fun hHeld => ?_)
    clear hK K
    refine norm_ (a' := ?_) ?_ ?_
    rotate_left
    · show Act.put _ (some 50) _ = _
      simp only [Act.put, List.setIfInBounds_toArray, List.set_cons_zero, List.set_cons_succ, i64_w, i32_w]
      rfl
    refine one_ (i := 10) (N := some 55) #[true, true, true, true, true, true, true, true, true, true, true, false, false, false] rfl rfl (by kernel_rfl) (by decide) (fun K hK => ?_)
    refine Kd.R_append_rows_step kR (Rr := fun x_ cs_ => kR.K w x_ cs_) (w0 := W0) W0.heap.size (by rfl) (.tmp 50) (.tmp 54) 24 26 (.agg #[.int .i64 0, .int .i64 0, .string ⟨#[]⟩, .slice none 0 0, .slice none 0 0]) 80 rfl Tryz.underlying24 infoV rfl (show 0 < 5 by decide) (by decide) v50 [x] (vs.drop i) A4'' _ _ (fun _ => True) (fun _ => False) rfl (by rw [← List.length_drop]; rfl) ?hO ?hR (fun x_ cs_ h_ => h_) (fun _ h_ => h_.elim) (fun _ _ => trivial) ?hB ?hS ?hL ?_; (case hO => exact HL17.out); (case hR => first | exact HC4''.out _ (Kd.R_reads' HV17.out).2.2 | (have h := HC4''.out _ (Kd.R_reads' HV17.out).2.2; rw [List.length_drop] at h; exact h)); (case hB => exact HB17.out); (case hS => exact HB17.out.size); (case hL => simp only [List.length_drop, List.length_singleton]; omega)
    intro v55 w18 ho hb hg hat
    have HB18 := Aside0.mk hb
    obtain ⟨A55, c55, rfl, hl55, hC55⟩ := Kd.R_reads ho
    have HC55 := Aside0.mk hC55
    have HK18 := Aside0.mk (string_apart HK17.out hg (fun k hk e => TLK.out k e.symm hk))
    have HV18 := Aside0.mk (kR_apart HV17.out hg (fun k hk e => TLV.out k e.symm hk))
    have H918 := Aside0.mk (blk_kept H917.out hg (fun e => TL9.out e.symm))
    have fa18 : w18.cell? ⟨b9, 4, none⟩ = some (.slice A17 vs.length c17) := (by have := H918.out; simp [World.cell?, this]); have fx18_0 : w18.cell? ⟨w.heap.size + 1, 0, none⟩ = some (.int .i64 x.n0) := (by have := (hb.block (w.heap.size + 1) (by rw [HSZ0.out]; omega)).trans HBX.out; simp [World.cell?, this]); have fx18_1 : w18.cell? ⟨w.heap.size + 1, 1, none⟩ = some (.int .i64 x.n1) := (by have := (hb.block (w.heap.size + 1) (by rw [HSZ0.out]; omega)).trans HBX.out; simp [World.cell?, this]); have fx18_2 : w18.cell? ⟨w.heap.size + 1, 2, none⟩ = some (.string x.t) := (by have := (hb.block (w.heap.size + 1) (by rw [HSZ0.out]; omega)).trans HBX.out; simp [World.cell?, this]); have fx18_3 : w18.cell? ⟨w.heap.size + 1, 3, none⟩ = some (.slice x.A x.an x.ac) := (by have := (hb.block (w.heap.size + 1) (by rw [HSZ0.out]; omega)).trans HBX.out; simp [World.cell?, this]); have fx18_4 : w18.cell? ⟨w.heap.size + 1, 4, none⟩ = some (.slice x.B x.bn x.bc) := (by have := (hb.block (w.heap.size + 1) (by rw [HSZ0.out]; omega)).trans HBX.out; simp [World.cell?, this])
    clear ho hb hg hat hC55
    refine hK.out _ _ ⟨fa18, fx18_0, fx18_1, fx18_2, fx18_3, fx18_4⟩ (fun hHeld => ?_)
    clear hK K
    refine norm_ (a' := ?_) ?_ ?_
    rotate_left
    · show Act.put _ (some 55) _ = _
      simp only [Act.put, List.setIfInBounds_toArray, List.set_cons_zero, List.set_cons_succ, i64_w, i32_w]
      rfl
    refine one_ (i := 11) (N := some 56) #[true, true, true, true, true, true, true, true, true, true, true, true, false, false] rfl rfl (by kernel_rfl) (by decide) (fun K hK => ?_)
    refine Kd.R_append_rows_step kR (Rr := fun x_ cs_ => kR.K w x_ cs_) (w0 := W0) W0.heap.size (by rfl) (.tmp 48) (.tmp 55) 24 26 (.agg #[.int .i64 0, .int .i64 0, .string ⟨#[]⟩, .slice none 0 0, .slice none 0 0]) 80 rfl Tryz.underlying24 infoV rfl (show 0 < 5 by decide) (by decide) (.slice A17 i c17) (vs.take i) ([x] ++ vs.drop i) A55 _ c55 (fun _ => True) (fun _ => False) rfl rfl ?hO ?hR (fun x_ cs_ h_ => h_) (fun _ h_ => h_.elim) (fun _ _ => trivial) ?hB ?hS ?hL ?_; (case hO => exact Kd.R_take HV18.out hile2); (case hR => exact HC55.out); (case hB => exact HB18.out); (case hS => exact HB18.out.size); (case hL => simp only [List.length_append, List.length_take, List.length_drop, List.length_singleton]; omega)
    intro v56 w19 ho hb hg hat
    rw [← HVS2.out] at ho
    have HB19 := Aside0.mk hb
    obtain ⟨A56, c56, rfl, hl56, _⟩ := Kd.R_reads ho
    have HV19 := Aside0.mk ho
    have HK19 := Aside0.mk (string_apart HK18.out hg (fun k hk e => HKV12.out k hk (HOV.out.symm.trans e.symm)))
    have H919 := Aside0.mk (blk_kept H918.out hg (fun e => HV9.out (HOV.out.symm.trans e.symm)))
    have HV919 := Aside0.mk (apart_moved hat (fun e => HV9.out (HOV.out.symm.trans e)) H918.out)
    have fa19 : w19.cell? ⟨b9, 4, none⟩ = some (.slice A17 vs.length c17) := (by have := H919.out; simp [World.cell?, this]); have fx19_0 : w19.cell? ⟨w.heap.size + 1, 0, none⟩ = some (.int .i64 x.n0) := (by have := (hb.block (w.heap.size + 1) (by rw [HSZ0.out]; omega)).trans HBX.out; simp [World.cell?, this]); have fx19_1 : w19.cell? ⟨w.heap.size + 1, 1, none⟩ = some (.int .i64 x.n1) := (by have := (hb.block (w.heap.size + 1) (by rw [HSZ0.out]; omega)).trans HBX.out; simp [World.cell?, this]); have fx19_2 : w19.cell? ⟨w.heap.size + 1, 2, none⟩ = some (.string x.t) := (by have := (hb.block (w.heap.size + 1) (by rw [HSZ0.out]; omega)).trans HBX.out; simp [World.cell?, this]); have fx19_3 : w19.cell? ⟨w.heap.size + 1, 3, none⟩ = some (.slice x.A x.an x.ac) := (by have := (hb.block (w.heap.size + 1) (by rw [HSZ0.out]; omega)).trans HBX.out; simp [World.cell?, this]); have fx19_4 : w19.cell? ⟨w.heap.size + 1, 4, none⟩ = some (.slice x.B x.bn x.bc) := (by have := (hb.block (w.heap.size + 1) (by rw [HSZ0.out]; omega)).trans HBX.out; simp [World.cell?, this])
    clear ho hb hg hat
    refine hK.out _ _ ⟨fa19, fx19_0, fx19_1, fx19_2, fx19_3, fx19_4⟩ (fun hHeld => ?_)
    clear hK K
    refine norm_ (a' := ?_) ?_ ?_
    rotate_left
    · show Act.put _ (some 56) _ = _
      simp only [Act.put, List.setIfInBounds_toArray, List.set_cons_zero, List.set_cons_succ, i64_w, i32_w]
      rfl
    refine pure_ (i := 12) (N := some 57) (v := ?_) (a' := ?_) #[true, true, true, true, true, true, true, true, true, true, true, true, true, false] rfl rfl (by kernel_rfl) (fun _ _ _ h => h) (Or.inl ⟨by rfl, ?_⟩) ?_ ?_
    rotate_left
    · intro w'
      go_simp
      with_reducible rfl
    rotate_left
    · simp only [Act.put, List.setIfInBounds_toArray, List.set_cons_zero, List.set_cons_succ, i64_w, i32_w]
      rfl
    refine last_ (i := 13) (N := none) #[true, true, true, true, true, true, true, true, true, true, true, true, true, true] rfl rfl (by kernel_rfl) (by decide) (fun K hK => ?_)
    refine store_fld (g := b9) (o := 4) 24 _ _ (.slice A56 vs2.length c56) (by rfl) rfl rfl rfl rfl H919.out rfl (show (Tryz.prog.info? 24).map (·.size) = some 1 by kernel_rfl) (show 4 < 5 by decide) rfl ?_
    intro w20 h20 hg20
    have H920 := Aside0.mk h20
    have HG20 := Aside0.mk hg20
    clear h20 hg20
    refine hK.out _ _ ?_
    clear hK K
    refine done_ (by kernel_rfl) ?_
    
    have HB20 : Aside0 (Below W0.heap.size W0 w20) := ⟨HB19.out.grown HG20.out HB19.out.size (fun k e => by injection e with e; omega)⟩
    have s0 : w20.cell? ⟨b9, 0, none⟩ = some (.int .i64 5) := by have := H920.out; simp [World.cell?, this]
    have s1 : w20.cell? ⟨b9, 1, none⟩ = some (.int .i64 0) := by have := H920.out; simp [World.cell?, this]
    have s2 : w20.cell? ⟨b9, 2, none⟩ = some (.string ⟨#[]⟩) := by have := H920.out; simp [World.cell?, this]
    have s3 : w20.cell? ⟨b9, 3, none⟩ = some (.slice A43 ks2.length c43) := by have := H920.out; simp [World.cell?, this]
    have s4 : w20.cell? ⟨b9, 4, none⟩ = some (.slice A56 vs2.length c56) := by have := H920.out; simp [World.cell?, this]
    go_wp2_with (refine store_list (cur := #[.int .i64 0, .int .i64 0, .string ⟨#[]⟩, .slice none 0 0, .slice none 0 0]) (e := 26) (g := w.heap.size + 1 + 1) 26 _ _ (.agg #[.int .i64 5, .int .i64 0, .string ⟨#[]⟩, .slice A43 ks2.length c43, .slice A56 vs2.length c56]) [.int .i64 5, .int .i64 0, .string ⟨#[]⟩, .slice A43 ks2.length c43, .slice A56 vs2.length c56] rfl rfl rfl rfl rfl ((HB20.out.block (w.heap.size + 1 + 1) (by rw [HSZ0.out]; omega)).trans HB6.out) rfl (show (Tryz.prog.info? 26).map (·.size) = some 5 by kernel_rfl) rfl (by simp [Value.oneCell']) ?_; intro w21 h7 hg7; have H7 := Aside0.mk h7; have HG7 := Aside0.mk hg7; have z0 : w21.cell? ⟨w.heap.size + 1 + 1, 0, none⟩ = some (.int .i64 5) := (by simp [World.cell?, h7]); have z1 : w21.cell? ⟨w.heap.size + 1 + 1, 1, none⟩ = some (.int .i64 0) := (by simp [World.cell?, h7]); have z2 : w21.cell? ⟨w.heap.size + 1 + 1, 2, none⟩ = some (.string ⟨#[]⟩) := (by simp [World.cell?, h7]); have z3 : w21.cell? ⟨w.heap.size + 1 + 1, 3, none⟩ = some (.slice A43 ks2.length c43) := (by simp [World.cell?, h7]); have z4 : w21.cell? ⟨w.heap.size + 1 + 1, 4, none⟩ = some (.slice A56 vs2.length c56) := (by simp [World.cell?, h7]); clear h7 hg7)
    refine bodyPost_ret (v := .agg #[.int .i64 5, .int .i64 0, .string ⟨#[]⟩, .slice A43 ks2.length c43, .slice A56 vs2.length c56]) (by simp [results, Tryz.results22, go_sem, z0, z1, z2, z3, z4]) rfl ?_
    have HK20 := string_apart HK19.out HG20.out (fun k hk e => HK912.out (hk.trans e))
    have HV20 := kR_apart HV19.out HG20.out (fun k hk e => HV919.out (hk.trans e))
    have HK21 := string_apart HK20 HG7.out (fun k hk e => by
      obtain ⟨inner, hown⟩ := Kd.R_own HK20
      have := own_base hown k hk
      injection e with e
      have := HSZ0.out
      omega)
    have HV21 := kR_apart HV20 HG7.out (fun k hk e => by
      obtain ⟨inner, hown⟩ := Kd.R_own HV20
      have := own_base hown k hk
      injection e with e
      have := HSZ0.out
      omega)
    have hbw : Below w.heap.size w w21 := (HBW.out.trans (HB20.out.mono HBW.out.size)).grown HG7.out (Nat.le_trans HBW.out.size HB20.out.size) (fun k e => by injection e with e; omega)
    have hq1 := Kd.R_reads' HK21
    have hq2 := Kd.R_reads' HV21
    have e1 : withKs key ks = ks2 := HWK.out.trans HKS2.out.symm
    have e2 : withVs key ks vs x = vs2 := HWV.out.trans HVS2.out.symm
    rw [e1, e2]
    exact ⟨A43, c43, A56, c56, rfl, hq1.2.1, hq1.2.2, hq2.2.1, hq2.2.2, fr_own HK21 (by have := HSZ0.out; omega), fr_own HV21 (by have := HSZ0.out; omega), hbw⟩
end Go.Proofs.YtiamiagjkfioiaaGreatDoor.A
