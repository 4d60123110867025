/- Walks: the replacement's function, its closure, where there is no fault. -/
import Derived.Test.YtlncdacoefoldaaGreatDoorSubZ
import Derived.Deep.RegionWith
import Derived.Deep.RegionHeld3
namespace Go.Proofs.YtlncdacoefoldaaGreatDoor.U
set_option linter.unusedVariables false
set_option linter.unusedSimpArgs false
set_option linter.unusedSectionVars false
open Go.RowKit Go.Proofs.YtlncdacoefoldaaGreatDoorW.PrintWords Go.Proofs.YtlncdacoefoldaaGreatDoorW.PrintLast Go.Proofs.YtlncdacoefoldaaGreatDoor.PX Go.Proofs.YtlncdacoefoldaaGreatDoor.SM Go.Proofs.YtlncdacoefoldaaGreatDoor.L

theorem drf_fine (p q : Nat) (t r : Bs) (w : World) (h : Calls Tryz.prog 112 #[.string (mk t), lk p, .pointer (some ⟨q, 0, none⟩)] w (RepTells w (r, none))) :
    Calls Tryz.prog 94 #[.string (mk t), lk p, .pointer (some ⟨q, 0, none⟩)] w (Tells w (r, none)) := by
  have H := Lib.hid h
  clear h
  go_enter Tryz.func94, Tryz.ntmps94
  go_wp2_with (go_at_call 112; refine H.out.mono ?_; rintro e w1 ⟨b, v, rfl, rfl, hb⟩; have HB := Aside0.mk hb; clear hb)
  go_ret2
  exact ⟨_, rfl, rfl, HB.out⟩
/-- what the closure has at hand: its four boxes -/
structure ClosAt (w : World) (p q bc bm bt be : Nat) (T : ByteArray) : Prop where
  cfg : w.heap[bc]? = some (.cells #[.pointer (some ⟨q, 0, none⟩)] 154 (0, 0))
  map : w.heap[bm]? = some (.cells #[lk p] 93 (0, 0))
  txt : w.heap[bt]? = some (.cells #[.string T] 9 (0, 0))
theorem ClosAt.grown {w w' : World} {p q bc bm bt be : Nat} {T : ByteArray} (h : ClosAt w p q bc bm bt be T) (hb : Below w.heap.size w w') : ClosAt w' p q bc bm bt be T :=
  ⟨(hb.block bc (lt_of_heap h.cfg)).trans h.cfg, (hb.block bm (lt_of_heap h.map)).trans h.map, (hb.block bt (lt_of_heap h.txt)).trans h.txt⟩
set_option maxHeartbeats 2000000 in
theorem clos_fine (p q bc bm bt be : Nat) (T : ByteArray) (t r : Bs) (w : World) (hC : ClosAt w p q bc bm bt be T) (hq : CfgAt w q) (h : ∀ W, Below w.heap.size w W → Calls Tryz.prog 94 #[.string (mk t), lk p, .pointer (some ⟨q, 0, none⟩)] W (Tells W (r, none))) :
    Calls Tryz.prog 96 #[.string (mk t), .pointer (some ⟨bc, 0, none⟩), .pointer (some ⟨bm, 0, none⟩), .pointer (some ⟨bt, 0, none⟩), .pointer (some ⟨be, 0, none⟩)] w fun e w' => e = .returned (.string (mk r)) ∧ Below w.heap.size w w' := by
  have H := Lib.hid h
  have c1 : w.cell? ⟨bc, 0, none⟩ = some (.pointer (some ⟨q, 0, none⟩)) := cell0 hC.cfg
  have c2 : w.cell? ⟨bm, 0, none⟩ = some (lk p) := cell0 hC.map
  have c3 : w.cell? ⟨q, 1, none⟩ = some (.func (.func 94) #[] #[]) := by have h := hq; unfold CfgAt at h; simp [World.cell?, h]
  clear h hC hq
  go_enter Tryz.func96, Tryz.ntmps96
  go_wp2_with fail
  go_region_held3 (fun w' => w'.cell? ⟨bc, 0, none⟩ = some (.pointer (some ⟨q, 0, none⟩)) ∧ w'.cell? ⟨bm, 0, none⟩ = some (lk p) ∧ w'.cell? ⟨q, 1, none⟩ = some (.func (.func 94) #[] #[])) (first | exact ⟨c1, c2, c3⟩ | exact K4 | go_keep) (first | (go_at_call 94; refine (H.out _ (by repeat (first | exact Below.refl _ _ | apply below_drew1 | apply pw_below_drewN))).mono ?_; rintro e w1 ⟨v, rfl, rfl, hb⟩; have hb' := below_un hb; have K4 := (show w1.cell? ⟨bc, 0, none⟩ = some (.pointer (some ⟨q, 0, none⟩)) ∧ w1.cell? ⟨bm, 0, none⟩ = some (lk p) ∧ w1.cell? ⟨q, 1, none⟩ = some (.func (.func 94) #[] #[]) from ⟨(hb'.cell (World.block_lt_of_cell? w _ c1)).trans c1, (hb'.cell (World.block_lt_of_cell? w _ c2)).trans c2, (hb'.cell (World.block_lt_of_cell? w _ c3)).trans c3⟩); have HB := Aside0.mk hb'; clear hb hb'))
  all_goals (go_wp2; go_ret; exact ⟨rfl, by repeat (first | exact HB.out | apply below_drew1 | apply pw_below_drewN)⟩)
end Go.Proofs.YtlncdacoefoldaaGreatDoor.U
