/- The walk of spec.MergePairs and impl.MappingMerge. -/
import Derived.Test.YtcocmdbleicmcaaGreatDoorTold
import Derived.Test.YtcocmdbleicmcaaGreatDoorFitP
import Derived.Test.YtcocmdbleicmcaaGreatDoorMapA
namespace Go.Proofs.YtcocmdbleicmcaaGreatDoor.M
set_option linter.unusedVariables false
set_option linter.unusedSimpArgs false
set_option linter.unusedSectionVars false
open Go.RowKit Go.Proofs.YtcocmdbleicmcaaGreatDoorW.PrintWords Go.Proofs.YtcocmdbleicmcaaGreatDoorW.PrintLast Go.Proofs.YtcocmdbleicmcaaGreatDoor.PX

theorem kP_all (w : World) (base : Nat) (ok : Nat → Prop) : ∀ x cs, k52.K w x cs → k52.M w base ok x cs := fun x cs h => by rw [k52_open h]; exact k52_mkM _ _ _ _
set_option maxHeartbeats 4000000 in
set_option maxRecDepth 100000 in
theorem spec_MergePairs (A0 : Option Addr) (c0 : Nat) (l0 : List S52) (A1 : Option Addr) (c1 : Nat) (l1 : List S52) (w : World) (hr0 : Kd.C k52 w A0 l0.length l0) (hc0 : l0.length ≤ c0) (hl0 : l0.length ≤ 4294967296) (hr1 : Kd.C k52 w A1 l1.length l1) (hc1 : l1.length ≤ c1) (hl1 : l1.length ≤ 4294967296) :
    Calls Tryz.prog 27 #[.slice A0 l0.length c0, .slice A1 l1.length c1] w fun e w' => ∃ v, e = .returned v ∧ Kd.R k52 52 w' w.heap.size (fun _ => True) v (fitP (l1 ++ l0)) ∧ Below w.heap.size w w' := by
  have HR0 := Aside0.mk hr0
  have HR1 := Aside0.mk hr1
  clear hr0 hc0 hr1 hc1
  obtain ⟨L, hL⟩ : ∃ L, L = l1 ++ l0 := ⟨_, rfl⟩
  have hLl : L.length ≤ 8589934592 := by rw [hL, List.length_append]; omega
  rw [← hL]
  have HL := Lib.hid hL
  clear hL
  go_enter Tryz.func27, Tryz.ntmps27
  go_wp2_with (first | (refine Kd.R_lit k52 (w0 := w) w.heap.size 52 rfl (N := 5) rfl (xs := []) (inner := []) (ok := fun _ => True) (okp := fun _ => True) ?hr ?hp (fun _ hk => hk) trivial ?hB ?hS (by simp) ?_; (case hr => first | (go_simp; done) | (go_simp; rfl)); (case hp => exact Reps.none _ _); (case hB => exact Below.refl _ _); (case hS => exact Nat.le_refl _); intro v5 w5 ho5 hb5 hg5 hn5; have HO5 := Aside0.mk ho5; have HB5 := Aside0.mk hb5; clear ho5 hb5 hg5 hn5) | (at_builtin; refine Kd.R_append_rows k52 (Rr := fun x_ cs_ => k52.K w5 x_ cs_) (w0 := w) w.heap.size rfl (.tmp 5) (.tmp 6) 33 52 (.agg #[.string ⟨#[]⟩, .string ⟨#[]⟩]) 32 rfl Tryz.underlying33 infoP rfl (by decide) (by decide) v5 [] l1 A1 _ _ (fun _ => True) (fun _ => False) rfl rfl ?hO ?hR (kP_all _ _ _) (fun _ h_ => h_.elim) (fun _ _ => trivial) ?hB ?hS ?hL ?_; (case hO => exact HO5.out); (case hR => exact Kd.C_below HR1.out HB5.out); (case hB => exact HB5.out); (case hS => exact HB5.out.size); (case hL => simp only [List.length_nil]; omega); intro v7 w7 ho7 hb7 hg7 hat7; rw [List.nil_append] at ho7; have HO7 := Aside0.mk ho7; have HB7 := Aside0.mk hb7; clear ho7 hb7 hg7 hat7) | (at_builtin; refine Kd.R_append_rows k52 (Rr := fun x_ cs_ => k52.K w7 x_ cs_) (w0 := w) w.heap.size rfl (.tmp 7) (.tmp 8) 33 52 (.agg #[.string ⟨#[]⟩, .string ⟨#[]⟩]) 32 rfl Tryz.underlying33 infoP rfl (by decide) (by decide) v7 l1 l0 A0 _ _ (fun _ => True) (fun _ => False) rfl rfl ?hO ?hR (kP_all _ _ _) (fun _ h_ => h_.elim) (fun _ _ => trivial) ?hB ?hS ?hL ?_; (case hO => exact HO7.out); (case hR => exact Kd.C_below HR0.out HB7.out); (case hB => exact HB7.out); (case hS => exact HB7.out.size); (case hL => omega); intro v9 w9 ho9 hb9 hg9 hat9; rw [← HL.out] at ho9; obtain ⟨A9, c9, rfl, hl9, hC9⟩ := Kd.R_reads ho9; have HC9 := Aside0.mk hC9; have HB9 := Aside0.mk hb9; clear ho9 hb9 hg9 hat9 hC9) | (go_at_call 22; refine (spec_FitPairs A9 c9 L _ HC9.out hl9 (by omega)).mono ?_; rintro e w10 ⟨v10, rfl, ho10, hb10⟩; have HO10 := Aside0.mk (Kd.R_lower ho10 HB9.out.size); have HB10 := Aside0.mk (below_then HB9.out HB9.out.size hb10); clear ho10 hb10))
  go_ret
  exact ⟨_, rfl, HO10.out, HB10.out⟩
end Go.Proofs.YtcocmdbleicmcaaGreatDoor.M
