/- The walks of impl.equals and types.MappingWithEquals.OverrideBy. -/
import Derived.Test.YtcocmdbleicmcaaGreatDoorOpts
namespace Go.Proofs.YtcocmdbleicmcaaGreatDoor.M
set_option linter.unusedVariables false
set_option linter.unusedSimpArgs false
set_option linter.unusedSectionVars false
open Go.RowKit Go.Proofs.YtcocmdbleicmcaaGreatDoorW.PrintWords Go.Proofs.YtcocmdbleicmcaaGreatDoorW.PrintLast Go.Proofs.YtcocmdbleicmcaaGreatDoor.PX Go.Proofs.YtcocmdbleicmcaaGreatDoor.SM

theorem cell_grownM {β : Type} {enc : β → Value} {W w1 : World} {b : Nat} {m : List (ByteArray × β)} (hT : TMap W b enc m) (hg : W.grownBy w1 (some b)) {a : Addr} {u : Value} (h : W.cell? a = some u) : w1.cell? a = some u := by
  have hlt := World.block_lt_of_cell? W _ h
  have hne : a.block ≠ b := fun e => by
    obtain ⟨es, clock, hm, _⟩ := hT
    unfold World.cell? at h
    rw [e, hm] at h
    simp at h
  exact (World.cell?_of_block (hg.block a.block hlt (fun e => hne (by injection e)))).trans h
theorem Held.below {w w1 : World} {m : List (ByteArray × PO)} (h : Held w m) (hb : Below w.heap.size w w1) : Held w1 m := fun k a s hm => by
  have := h k a s hm
  exact (hb.cell (World.block_lt_of_cell? w _ this)).trans this
theorem held_nil (W : World) : Held W [] := fun k a s hm => by simp at hm
theorem Held.put_ {W w1 : World} {b : Nat} {m m' : List (ByteArray × PO)} {k : ByteArray} {v : PO} (h : Held W m) (hT : TMap W b encO m') (hg : W.grownBy w1 (some b)) (hv : ∀ a s, v = some (a, s) → W.cell? a = some (.string s)) : Held w1 (put m k v) := fun k' a s hm => by
  rcases (mem_put (k', some (a, s))).1 hm with e | ⟨_, hm⟩
  · injection e with _ e
    exact cell_grownM hT hg (hv a s e.symm)
  · exact cell_grownM hT hg (h k' a s hm)
theorem two_new (W : World) (o1 : Obj) (s : ByteArray) (t : TypeId) : ((W.alloc o1).alloc (.cells #[.string s] t)).cell? ⟨W.heap.size + 1, 0, none⟩ = some (.string s) := by
  have h := heap_alloc_new (W.alloc o1) (.cells #[.string s] t)
  have e : (W.alloc o1).heap.size = W.heap.size + 1 := by simp
  rw [e] at h
  exact blk_cell h 0
/-- What a map holds, without the addresses. -/
def img (m : List (ByteArray × PO)) : List (ByteArray × Option ByteArray) := m.map (fun p => (p.1, p.2.map (·.2)))
def valO (x : S76) : Option ByteArray := if x.f2 = true then some x.f1 else none
def putsE (l : List S76) : List (ByteArray × Option ByteArray) := l.foldl (fun m x => put m x.f0 (valO x)) []
theorem has_img (m : List (ByteArray × PO)) (k : ByteArray) : has (img m) k = has m k := by simp [has, img, Function.comp_def]
theorem img_put (m : List (ByteArray × PO)) (k : ByteArray) (v : PO) : img (put m k v) = put (img m) k (v.map (·.2)) := by
  unfold put
  rw [has_img]
  split
  · simp only [img, List.map_map]
    apply List.map_congr_left
    intro p _
    simp only [Function.comp]
    split <;> rfl
  · simp [img]
theorem putsE_snoc (l : List S76) (x : S76) : putsE (l ++ [x]) = put (putsE l) x.f0 (valO x) := by simp [putsE]
theorem putsE_next {l : List S76} {i : Nat} (h : i < l.length) : putsE (l.take (i + 1)) = put (putsE (l.take i)) (rd_T76 l i).f0 (valO (rd_T76 l i)) := by
  have e : rd_T76 l (i : Int) = l[i] := by simp [rd_T76, List.getD_eq_getElem?_getD, List.getElem?_eq_getElem h]
  rw [List.take_succ_eq_append_getElem h, putsE_snoc, e]
set_option maxHeartbeats 4000000 in
set_option maxRecDepth 100000 in
theorem impl_equals (A0 : Option Addr) (c0 : Nat) (l0 : List S76) (w : World) (hr0 : Kd.C k76 w A0 l0.length l0) (hc0 : l0.length ≤ c0) (hl : l0.length ≤ 1099511627776) :
    Calls Tryz.prog 69 #[.slice A0 l0.length c0] w fun e w' => ∃ b m, e = .returned (.map (some b)) ∧ TMap w' b encO m ∧ Held w' m ∧ img m = putsE l0 ∧ w.heap.size ≤ b ∧ Below w.heap.size w w' := by
  have HR0 := Aside0.mk hr0
  clear hr0 hc0
  have hmm := @run_makeMap Tryz.prog
  have hmu := Tryz.underlying79
  go_enter Tryz.func69, Tryz.ntmps69
  go_wp2
  go_loopw [10] (fun v10 wr => ∃ i : Nat, i ≤ l0.length ∧ v10 = .int .i64 i ∧ Aside0 (∃ m, TMap wr w.heap.size encO m ∧ Held wr m ∧ img m = putsE (l0.take i)) ∧ Aside0 (Below w.heap.size w wr)) (fun v10 _ => l0.length - (intOf v10).toNat)
  case atStart => exact ⟨0, Nat.zero_le _, rfl, ⟨[], TMap.made _ _, held_nil _, rfl⟩, ⟨(Below.refl _ _).alloc (Nat.le_refl _) _⟩⟩
  case round =>
    obtain ⟨i, hi, rfl, HMM, HB⟩ := hrel
    by_cases hlt : i < l0.length
    · obtain ⟨ad0, rfl, hx0, hx1, hx2⟩ := at_T76 HR0.out (i : Int) (by omega) (by omega)
      replace hx0 := (HB.out.cell (World.block_lt_of_cell? w _ hx0)).trans hx0
      replace hx1 := (HB.out.cell (World.block_lt_of_cell? w _ hx1)).trans hx1
      replace hx2 := (HB.out.cell (World.block_lt_of_cell? w _ hx2)).trans hx2
      obtain ⟨x, hx⟩ : ∃ x, x = rd_T76 l0 i := ⟨_, rfl⟩
      rw [← hx] at hx0 hx1 hx2
      simp only [Int.toNat_natCast] at hx0 hx1 hx2
      have HN := Lib.hid (show putsE (l0.take (i + 1)) = put (putsE (l0.take i)) x.f0 (valO x) by rw [hx]; exact putsE_next hlt)
      clear hx
      obtain ⟨m, hm, hh, hi0⟩ := HMM.out
      have HM := Aside0.mk hm
      have HH := Aside0.mk hh
      have HI := Lib.hid hi0
      clear hm hh hi0 HMM
      obtain ⟨xk, xv, xh⟩ := x
      simp only at hx0 hx1 hx2
      cases xh with
      | true =>
        go_wp2_with (at_mapUpdate; refine wp_put rfl _ _ _ rfl Tryz.underlying79 Tryz.underlying9 rfl (HM.out.below ?b1) xk (some (⟨wr.heap.size + 1, 0, none⟩, xv)) rfl rfl (w0 := w) (B := w.heap.size) ?b2 (Nat.le_refl _) ?_; (case b1 => repeat (first | exact Below.refl _ _ | apply below_alloc)); (case b2 => repeat (first | (with_reducible first | exact HB.out | apply below_alloc) | exact HB.out)); intro w1 hm1 hb1 hg1 hs1; have HM1 := Aside0.mk hm1; have HB1 := Aside0.mk hb1; have HH1 := Aside0.mk (Held.put_ (k := xk) (v := some (⟨wr.heap.size + 1, 0, none⟩, xv)) (HH.out.below (by repeat (first | exact Below.refl _ _ | apply below_alloc))) (HM.out.below (by repeat (first | exact Below.refl _ _ | apply below_alloc))) hg1 (fun a s e => by injection e with e; injection e with e1 e2; subst e1; subst e2; exact two_new _ _ _ _)); clear hm1 hb1 hg1 hs1)
        go_roundw
        case rel =>
          refine ⟨i + 1, by omega, by go_num, ⟨_, HM1.out, HH1.out, ?_⟩, HB1⟩
          rw [HN.out, img_put, HI.out]; rfl
        case measure => simp [intOf]; omega
      | false =>
        go_wp2_with (at_mapUpdate; refine wp_put rfl _ _ _ rfl Tryz.underlying79 Tryz.underlying9 rfl (HM.out.below ?b1) xk (none : PO) rfl rfl (w0 := w) (B := w.heap.size) ?b2 (Nat.le_refl _) ?_; (case b1 => repeat (first | exact Below.refl _ _ | apply below_alloc)); (case b2 => repeat (first | (with_reducible first | exact HB.out | apply below_alloc) | exact HB.out)); intro w1 hm1 hb1 hg1 hs1; have HM1 := Aside0.mk hm1; have HB1 := Aside0.mk hb1; have HH1 := Aside0.mk (Held.put_ (k := xk) (v := none) (HH.out.below (by repeat (first | exact Below.refl _ _ | apply below_alloc))) (HM.out.below (by repeat (first | exact Below.refl _ _ | apply below_alloc))) hg1 (fun a s e => by cases e)); clear hm1 hb1 hg1 hs1)
        go_roundw
        case rel =>
          refine ⟨i + 1, by omega, by go_num, ⟨_, HM1.out, HH1.out, ?_⟩, HB1⟩
          rw [HN.out, img_put, HI.out]; rfl
        case measure => simp [intOf]; omega
    · go_wp2
      go_ret
      obtain rfl : i = l0.length := by omega
      rw [List.take_length] at HMM
      obtain ⟨m, hm, hh, hi0⟩ := HMM.out
      exact ⟨_, m, rfl, hm, hh, hi0, Nat.le_refl _, HB.out⟩
end Go.Proofs.YtcocmdbleicmcaaGreatDoor.M
