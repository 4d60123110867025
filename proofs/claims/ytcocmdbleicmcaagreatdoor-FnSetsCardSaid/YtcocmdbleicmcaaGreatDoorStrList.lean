/- The walks of utils.GetAsStringList, utils.GetAsEqualsMap, impl.rising, impl.StringList, impl.EqualsMap, spec.Listed, spec.Sorted. -/
import Derived.Test.YtcocmdbleicmcaaGreatDoorOverr
import Derived.Test.YtcocmdbleicmcaaGreatDoorPairs
import Derived.Test.YtcocmdbleicmcaaGreatDoorPXx3
import Derived.Test.YtcocmdbleicmcaaGreatDoorPXx4
import Derived.Test.YtcocmdbleicmcaaGreatDoorAwake
import Derived.Test.YtcocmdbleicmcaaGreatDoorL
import Derived.Test.YtcocmdbleicmcaaGreatDoorPXx6
import Derived.Test.YtcocmdbleicmcaaGreatDoorPXx8
import Derived.Test.YtcocmdbleicmcaaGreatDoorPXx9
import Derived.Test.YtcocmdbleicmcaaGreatDoorStrs
import Derived.Test.YtcocmdbleicmcaaGreatDoorMSort
namespace Go.Proofs.YtcocmdbleicmcaaGreatDoor.M
set_option linter.unusedVariables false
set_option linter.unusedSimpArgs false
set_option linter.unusedSectionVars false
open Go.RowKit Go.Proofs.YtcocmdbleicmcaaGreatDoorW.PrintWords Go.Proofs.YtcocmdbleicmcaaGreatDoorW.PrintLast Go.Proofs.YtcocmdbleicmcaaGreatDoor.PX Go.Proofs.YtcocmdbleicmcaaGreatDoor.SM

/-- make([]string, 0, n) -/
theorem make_none_run {P : Program} (t e : TypeId) (ht : P.underlying t = some (.slice e)) (hinfo : (P.info? e).map (fun i => (i.zero, i.size, i.bytes)) = some (some (.string ⟨#[]⟩), 1, 16)) (m : Nat) (hm : m ≤ 1099511627776) (W : World) :
    (Instr.makeSlice t (.int .i64 0) (.int .i64 (m : Int))).run P W = .ok (.slice (some ⟨W.heap.size, 0, none⟩) 0 m) (W.alloc (.cells (madeCells #[.string ⟨#[]⟩] m) e)) := by
  obtain ⟨i0, hi, hz0, hz1, hz2⟩ := info_parts hinfo
  have hr := run_make (P := P) W t e i0 (.string ⟨#[]⟩) ht hi hz0 .i64 .i64 0 (m : Int) (by omega) (by omega) (by rw [hz2]; omega) (by omega)
  have e : (Value.string ⟨#[]⟩).cells = #[Value.string ⟨#[]⟩] := rfl
  simp only [hz1, e, Nat.mul_one, Int.toNat_natCast] at hr
  exact hr
theorem make_none_own (W : World) (e : TypeId) (base m : Nat) (hb : base ≤ W.heap.size) (hm : m ≤ 1099511627776) : Kd.R Kd.string e (W.alloc (.cells (madeCells #[.string ⟨#[]⟩] m) e)) base (fun _ => True) (.slice (some ⟨W.heap.size, 0, none⟩) 0 m) [] := by
  refine ⟨fun _ _ => trivial, [], ⟨rfl, .inr ⟨W.heap.size, m, _, rfl, hb, heap_alloc_new W _, Nat.zero_le _, ?_, ?_, rfl⟩⟩, Reps.none _ _⟩
  · unfold maxLen; omega
  · simp [madeCells]; exact (Nat.mul_one m).symm
set_option maxHeartbeats 4000000 in
set_option maxRecDepth 100000 in
theorem impl_rising (v : Value) (l : List ByteArray) (w : World) (base : Nat) (hr : Kd.R Kd.string 9 w base (fun _ => True) v l) (hl : l.length ≤ 1099511627776) :
    Calls Tryz.prog 74 #[v] w fun e w' => e = .returned v ∧ Kd.R Kd.string 9 w' base (fun _ => True) v (Ord.sortS l) ∧ w.grownBy w' v.ownBlock := by
  have HS := Lib.hid (Srt.strings_own (P := Tryz.prog) Tryz.lays192 (Srt.ownS hr) (by omega))
  clear hr
  go_enter Tryz.func74, Tryz.ntmps74
  go_wp2_with (go_at_call 94; refine HS.out.mono ?_; rintro e w1 ⟨rfl, ho, hg⟩; have HO := Aside0.mk ho; have HG := Aside0.mk hg; clear ho hg)
  go_ret
  exact ⟨rfl, Srt.kdS HO.out, HG.out⟩
end Go.Proofs.YtcocmdbleicmcaaGreatDoor.M
