/- Walks: the substitution with its options, where there is no fault. -/
import Derived.Test.YtlncdacoefoldaaGreatDoorSubR
namespace Go.Proofs.YtlncdacoefoldaaGreatDoor.U
set_option linter.unusedVariables false
set_option linter.unusedSimpArgs false
set_option linter.unusedSectionVars false
open Go.RowKit Go.Proofs.YtlncdacoefoldaaGreatDoorW.PrintWords Go.Proofs.YtlncdacoefoldaaGreatDoorW.PrintLast Go.Proofs.YtlncdacoefoldaaGreatDoor.PX Go.Proofs.YtlncdacoefoldaaGreatDoor.SM Go.Proofs.YtlncdacoefoldaaGreatDoor.L

theorem with_pattern (w : World) :
    Calls Tryz.prog 63 #[.agg #[]] w fun e w' => e = .returned (.func (.func 92) #[] #[.pointer (some ⟨w.heap.size, 0, none⟩)]) ∧ w' = w.alloc (Obj.cells #[] 82) := by
  go_enter Tryz.func63, Tryz.ntmps63
  go_wp2
  go_ret
  exact ⟨rfl, rfl⟩
theorem with_pattern1 (q pb : Nat) (w : World) (hq : CfgAt w q) (hp : w.heap[pb]? = some (.cells #[] 82 (0, 0))) :
    Calls Tryz.prog 92 #[.pointer (some ⟨q, 0, none⟩), .pointer (some ⟨pb, 0, none⟩)] w fun e w' => e = .returned (.tuple #[]) ∧ w = w' := by
  have hp0 := part0 hq
  clear hq hp
  go_enter Tryz.func92, Tryz.ntmps92
  go_wp2
  go_end0
  exact ⟨rfl, rfl⟩
def optA (w : World) (ob pb : Nat) : Prop := w.heap[ob]? = some (.cells #[.func (.func 92) #[] #[.pointer (some ⟨pb, 0, none⟩)]] 120 (0, 0)) ∧ w.heap[pb]? = some (.cells #[] 82 (0, 0))
/-- what lies there ahead of the options' loop -/
structure SwoAt (w wr : World) (p : Nat) (T : ByteArray) : Prop where
  s0 : wr.heap[w.heap.size]? = some (.cells #[.string T] 9 (0, 0))
  s1 : wr.heap[w.heap.size + 1]? = some (.cells #[lk p] 93 (0, 0))
  s2 : wr.heap[w.heap.size + 1 + 1]? = some (.cells #[.nilIface] 66 (0, 0))
  s3 : CfgAt wr (w.heap.size + 1 + 1 + 1)
  s4 : wr.heap[w.heap.size + 1 + 1 + 1 + 1]? = some (.cells #[.pointer (some ⟨w.heap.size + 1 + 1 + 1, 0, none⟩)] 154 (0, 0))
  bel : Below w.heap.size w wr
theorem new_at {w : World} {o : Obj} {n : Nat} (h : w.heap.size = n) : (w.alloc o).heap[n]? = some o := by rw [← h]; exact (MapKept.heap_alloc w o).1
theorem swo_start (w : World) (p : Nat) (T : ByteArray) : SwoAt w (((((w.alloc (Obj.cells #[Value.string T] 9)).alloc (Obj.cells #[lk p] 93)).alloc (Obj.cells #[Value.nilIface] 66)).alloc (Obj.cells #[Value.nilFunc, Value.func (Fn.func 94) #[] #[], Value.bool true] 158)).alloc (Obj.cells #[Value.pointer (some ⟨w.heap.size + 1 + 1 + 1, 0, none⟩)] 154)) p T :=
  ⟨heap_old (heap_old (heap_old (heap_old (new_at rfl)))), heap_old (heap_old (heap_old (new_at (by simp)))), heap_old (heap_old (new_at (by simp))), heap_old (new_at (by simp)), new_at (by simp),
    (((((Below.refl w.heap.size w).alloc (Nat.le_refl _) _).alloc (by simp) _).alloc (by simp; omega) _).alloc (by simp; omega) _).alloc (by simp; omega) _⟩
theorem CfgAt.drew {w : World} {q : Nat} (h : CfgAt w q) : CfgAt w.drew q := h
theorem ClosAt.drew {w : World} {p q bc bm bt be : Nat} {T : ByteArray} (h : ClosAt w p q bc bm bt be T) : ClosAt w.drew p q bc bm bt be T := ⟨h.cfg, h.map, h.txt⟩
set_option maxHeartbeats 4000000 in
set_option maxRecDepth 100000 in
theorem swo_fine (p : Nat) (E : List (ByteArray × ByteArray)) (f : Bs → Ans) (IH : Subs (fine f) p E) (IW : SubsW (fine f) p E) (t r : Bs) (w : World) (ht : t.length < 1152921504606846976) (hE : EnvAt w p E) (ob pb : Nat) (ho : optA w ob pb) (h : scan f (envOf E) t 0 = some (r, none)) (hr : r.length ≤ LIM) :
    Calls Tryz.prog 65 #[.string (mk t), lk p, .slice (some ⟨ob, 0, none⟩) 1 1] w (Tells w (r, none)) := by
  have HR := Lib.hid (fun (q bc bm bx be : Nat) (W : World) (hb : Below w.heap.size w W) (hC : ClosAt W p q bc bm bx be (mk t)) (hq : CfgAt W q) =>
    replace_fine f (envOf E) bc bm bx be t r W ht h hr (fun m0 v W1 hb1 hrep hv hm0 =>
      clos_fine p q bc bm bx be (mk t) m0 v W1 (hC.grown hb1) (hq.below hb1) (fun W2 hb2 =>
        drf_fine p q m0 v W2 (rep_fine p q E f IH IW m0 W2 hm0 (((hE.below hb).below hb1).below hb2) ((hq.below hb1).below hb2) v hrep hv))))
  have HE := Aside0.mk hE
  have c0 : w.cell? ⟨ob, 0, none⟩ = some (.func (.func 92) #[] #[.pointer (some ⟨pb, 0, none⟩)]) := cell0 ho.1
  have hol : ob < w.heap.size := lt_of_heap ho.1
  have HPB := Aside0.mk ho.2
  have hz2 : Array.foldl (fun (cs : Array Value) (x : Value × Nat) => cs.setIfInBounds x.snd x.fst) #[Value.nilFunc, Value.nilFunc, Value.bool false] (#[] : Array Value).zipIdx 0 0 = #[Value.nilFunc, Value.nilFunc, Value.bool false] := rfl
  clear h hr IH IW hE ho ht
  go_enter Tryz.func65, Tryz.ntmps65
  go_wp2_with fail
  go_loopw [18] (fun v18 wr => ∃ i : Nat, i ≤ 1 ∧ v18 = .int .i64 i ∧ Aside0 (SwoAt w wr p (mk t))) (fun v18 _ => 1 - (intOf v18).toNat)
  case atStart => exact ⟨0, by omega, rfl, ⟨swo_start w p (mk t)⟩⟩
  case round =>
    obtain ⟨i, hi, rfl, HA⟩ := hrel
    have k4 : wr.cell? ⟨w.heap.size + 1 + 1 + 1 + 1, 0, none⟩ = some (.pointer (some ⟨w.heap.size + 1 + 1 + 1, 0, none⟩)) := cell0 HA.out.s4
    by_cases hlt : i < 1
    · obtain rfl : i = 0 := by omega
      have k0 : wr.cell? ⟨ob, 0, none⟩ = some (.func (.func 92) #[] #[.pointer (some ⟨pb, 0, none⟩)]) := (HA.out.bel.cell (p := ⟨ob, 0, none⟩) hol).trans c0
      have HP := Aside0.mk ((HA.out.bel.block pb (lt_of_heap HPB.out)).trans HPB.out)
      clear c0
      go_wp2_with (go_at_call 92; refine (with_pattern1 (w.heap.size + 1 + 1 + 1) pb _ HA.out.s3 HP.out).mono ?_; rintro e w' ⟨rfl, rfl⟩)
      go_roundw
      case rel => exact ⟨1, by omega, rfl, HA⟩
      case measure => simp [intOf]
    · obtain rfl : i = 1 := by omega
      clear hlt hi c0
      have k3 : wr.cell? ⟨w.heap.size, 0, none⟩ = some (.string (mk t)) := cell0 HA.out.s0
      have hp0 := part0 HA.out.s3
      have HC := Aside0.mk (show ClosAt wr p (w.heap.size + 1 + 1 + 1) (w.heap.size + 1 + 1 + 1 + 1) (w.heap.size + 1) w.heap.size (w.heap.size + 1 + 1) (mk t) from ⟨HA.out.s4, HA.out.s1, HA.out.s0⟩)
      go_wp2_with fail
      go_region_held3 (fun w' => w'.cell? ⟨w.heap.size + 1 + 1 + 1 + 1, 0, none⟩ = some (.pointer (some ⟨w.heap.size + 1 + 1 + 1, 0, none⟩)) ∧ w'.cell? ⟨w.heap.size, 0, none⟩ = some (.string (mk t)) ∧ (partAt ⟨w.heap.size + 1 + 1 + 1, 0, none⟩ 0 0).run Tryz.prog w' = .ok ⟨w.heap.size + 1 + 1 + 1, 0, none⟩ w') (first | exact ⟨k4, k3, hp0⟩ | exact K4 | exact ⟨k4, k3, part0 (CfgAt.drew HA.out.s3)⟩ | go_keep) (first | (go_at_call 95; refine (HR.out (w.heap.size + 1 + 1 + 1) (w.heap.size + 1 + 1 + 1 + 1) (w.heap.size + 1) w.heap.size (w.heap.size + 1 + 1) _ (by first | exact HA.out.bel | exact below_drew1 HA.out.bel) (by first | exact HC.out | exact ClosAt.drew HC.out) (by first | exact HA.out.s3 | exact CfgAt.drew HA.out.s3)).mono ?_; rintro e w2 ⟨rfl, hb⟩; replace hb := below_un hb; have K4 := (show w2.cell? ⟨w.heap.size + 1 + 1 + 1 + 1, 0, none⟩ = some (.pointer (some ⟨w.heap.size + 1 + 1 + 1, 0, none⟩)) ∧ w2.cell? ⟨w.heap.size, 0, none⟩ = some (.string (mk t)) ∧ (partAt ⟨w.heap.size + 1 + 1 + 1, 0, none⟩ 0 0).run Tryz.prog w2 = .ok ⟨w.heap.size + 1 + 1 + 1, 0, none⟩ w2 from ⟨(hb.cell (World.block_lt_of_cell? wr _ k4)).trans k4, (hb.cell (World.block_lt_of_cell? wr _ k3)).trans k3, part0 (HA.out.s3.below hb)⟩); have HB2 := Aside0.mk (HA.out.bel.trans (hb.mono HA.out.bel.size)); have k9 : w2.cell? ⟨w.heap.size + 1 + 1, 0, none⟩ = some .nilIface := (hb.cell (lt_of_heap HA.out.s2)).trans (cell0 HA.out.s2); clear hb))
      all_goals
        go_wp2_with fail
        go_quiet (fail)
        go_wp2
        go_ret2
        exact ⟨_, rfl, rfl, below_drewN HB2.out _⟩
set_option maxHeartbeats 2000000 in
theorem sw_fine (p : Nat) (E : List (ByteArray × ByteArray)) (f : Bs → Ans) (IH : Subs (fine f) p E) (IW : SubsW (fine f) p E) (t r : Bs) (w : World) (ht : t.length < 1152921504606846976) (hE : EnvAt w p E) (h : scan f (envOf E) t 0 = some (r, none)) (hr : r.length ≤ LIM) :
    Calls Tryz.prog 50 #[.string (mk t), lk p, .agg #[], .slice none 0 0] w (Tells w (r, none)) := by
  have H := Lib.hid (fun ob pb (W : World) hE ho => swo_fine p E f IH IW t r W ht hE ob pb ho h hr)
  have HE := Aside0.mk hE
  clear h hr IH IW hE ht
  go_enter Tryz.func50, Tryz.ntmps50
  go_wp2_with (first | (go_at_call 63; refine (with_pattern _).mono ?_; rintro e w1 ⟨rfl, rfl⟩) | (go_at_call 65; refine (H.out (w.heap.size + 1 + 1) (w.heap.size + 1) _ (HE.out.below (((Below.refl w.heap.size w).alloc (Nat.le_refl _) _).alloc (by simp) _ |>.alloc (by simp; omega) _)) ⟨new_at (by simp), heap_old (new_at (by simp))⟩).mono ?_; rintro e w2 ⟨v, rfl, rfl, hb⟩; have HB := Aside0.mk (((((Below.refl w.heap.size w).alloc (Nat.le_refl _) _).alloc (by simp) _ |>.alloc (by simp; omega) _)).trans (hb.mono (by simp; omega))); clear hb))
  go_ret2
  exact ⟨_, rfl, rfl, HB.out⟩
theorem s_fine (p : Nat) (E : List (ByteArray × ByteArray)) (t r : Bs) (w : World) (hE : EnvAt w p E) (h : ∀ W, EnvAt W p E → Calls Tryz.prog 50 #[.string (mk t), lk p, .agg #[], .slice none 0 0] W (Tells W (r, none))) :
    Calls Tryz.prog 34 #[.string (mk t), lk p] w (Tells w (r, none)) := by
  have H := Lib.hid h
  have HE := Aside0.mk hE
  clear h hE
  go_enter Tryz.func34, Tryz.ntmps34
  go_wp2_with (go_at_call 50; refine (H.out _ HE.out).mono ?_; rintro e w2 ⟨v, rfl, rfl, hb⟩; have HB := Aside0.mk hb; clear hb)
  go_ret2
  exact ⟨_, rfl, rfl, HB.out⟩
/-- the substitution, of every text that has no fault -/
theorem subst_fine (p : Nat) (E : List (ByteArray × ByteArray)) : ∀ n, SubsW (fine (sub (envOf E) n)) p E ∧ Subs (fine (sub (envOf E) n)) p E
  | 0 => ⟨fun t a w _ h => absurd (fine_some h).2 (by simp [sub]), fun t a w _ h => absurd (fine_some h).2 (by simp [sub])⟩
  | n + 1 => by
    obtain ⟨IW, IH⟩ := subst_fine p E n
    have hW : SubsW (fine (sub (envOf E) (n + 1))) p E := fun t a w ht h hE => by
      obtain ⟨h1, h2⟩ := fine_some h
      obtain ⟨r, c⟩ := a
      obtain rfl : c = none := h1
      rw [sub] at h2
      cases hs : scan (sub (envOf E) n) (envOf E) t 0 with
      | none => rw [hs] at h2; cases h2
      | some q =>
        rw [hs] at h2
        simp only [] at h2
        split at h2
        · rename_i hl
          injection h2 with h2
          subst h2
          exact sw_fine p E _ IH IW t r w ht hE hs hl
        · cases h2
    refine ⟨hW, fun t a w ht h hE => ?_⟩
    obtain ⟨h1, h2⟩ := fine_some h
    obtain ⟨r, c⟩ := a
    obtain rfl : c = none := h1
    exact s_fine p E t r w hE (fun W hE' => hW t (r, none) W ht h hE')
end Go.Proofs.YtlncdacoefoldaaGreatDoor.U
