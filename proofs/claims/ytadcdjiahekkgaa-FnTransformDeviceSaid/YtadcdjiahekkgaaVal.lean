/- Walks: a text as a value of a configuration, to the thin package and on to the package. -/
import Derived.Test.YtadcdjiahekkgaaRows
import Derived.Test.YtadcdjiahekkgaaL
import Derived.Test.YtadcdjiahekkgaaJoin
import Derived.Deep.RegionLaw
import Derived.Deep.AppendLies
import Derived.Deep.RegionWith
import Derived.Deep.RegionHeld3
namespace Go.Proofs.Ytadcdjiahekkgaa.L
set_option linter.unusedVariables false
set_option linter.unusedSimpArgs false
set_option linter.unusedSectionVars false
open Go.RowKit

def valT (s : ByteArray) : Value := .agg #[.int .i64 3, .int .i64 0, .string s, .slice none 0 0, .slice none 0 0]

theorem spec_T_at (s : ByteArray) (w : World) :
    Calls Try.prog 11 #[.string s] w fun e w' => e = .returned (valT s) ∧ w' = w.alloc (Obj.cells #[.int .i64 3, .int .i64 0, .string s, .slice none 0 0, .slice none 0 0] 32) := by
  go_enter Try.func11, Try.ntmps11
  go_wp2
  refine bodyPost_ret (v := valT s) (by simp [results, Try.results11, go_sem]; rfl) rfl ?_
  exact ⟨rfl, rfl⟩
theorem spec_T (s : ByteArray) (w : World) :
    Calls Try.prog 11 #[.string s] w fun e w' => e = .returned (valT s) ∧ Below w.heap.size w w' := by
  refine (spec_T_at s w).mono ?_
  rintro e w' ⟨rfl, rfl⟩
  exact ⟨rfl, (Below.refl _ _).alloc (Nat.le_refl _) _⟩

def valI (s : ByteArray) (k : Value) : Value := .agg #[.int .i64 3, .int .i64 0, .string s, k, .slice none 0 0]

theorem laws_to (s : ByteArray) (w : World) :
    Calls Try.prog 10 #[valT s] w fun e w' => (∃ k, e = .returned (valI s k)) ∧ Below w.heap.size w w' := by
  unfold valT
  go_enter Try.func10, Try.ntmps10
  go_wp2_with fail
  go_region_held3 (fun w' => w'.cell? ⟨w.heap.size, 0, none⟩ = some (.int .i64 3) ∧ w'.cell? ⟨w.heap.size, 1, none⟩ = some (.int .i64 0) ∧ w'.cell? ⟨w.heap.size, 2, none⟩ = some (.string s) ∧ w'.cell? ⟨w.heap.size, 3, none⟩ = some (.slice none 0 0)) (first | go_keep) (first | fail)
  all_goals
    go_wp2
    go_loop [4] (fun i => i = .int .i64 0) (fun _ => 0)
    case atStart => rfl
    case round =>
      obtain rfl := hrel
      go_wp2
      refine bodyPost_ret (v := .agg #[.int .i64 3, .int .i64 0, .string s, .slice (some ⟨_, 0, none⟩) 0 0, .slice none 0 0]) (by simp [results, Try.results10, go_sem]; rfl) rfl ?_
      refine ⟨⟨_, rfl⟩, ?_⟩
      repeat (first | exact Below.refl _ _ | (refine Below.alloc ?_ (by simp; try omega) _) | (refine Below.setCell ?_ (by simp; try omega) _) | refine Below.drew ?_)

theorem impl_toAny (s : ByteArray) (k : Value) (w : World) :
    Calls Try.prog 29 #[valI s k] w fun e w' => e = .returned (.iface 9 (.string s)) ∧ Below w.heap.size w w' := by
  unfold valI
  go_enter Try.func29, Try.ntmps29
  go_wp2
  go_ret
  refine ⟨rfl, ?_⟩
  repeat (first | exact Below.refl _ _ | (refine Below.alloc ?_ (by simp; try omega) _) | (refine Below.setCell ?_ (by simp; try omega) _) | refine Below.drew ?_)

theorem impl_at (w : World) :
    Calls Try.prog 30 #[] w fun e w' => (∃ p, e = .returned (.string p)) ∧ Below w.heap.size w w' := by
  have hss : SS (w.alloc (Obj.cells #[Value.string ⟨#[97, 116]⟩] 9)) (.slice (some ⟨w.heap.size, 0, none⟩) 1 1) [⟨#[97, 116]⟩] :=
    ⟨some ⟨w.heap.size, 0, none⟩, 1, rfl, Nat.le_refl _, by unfold maxLen; decide, by simp, fun _ => ⟨w.heap.size, 0, rfl, trivial, by simp, fun i hi => by
      obtain rfl : i = 0 := by simp at hi; omega
      simp⟩⟩
  have HS := Lib.hid hss
  have hj : (joinD [⟨#[97, 116]⟩]).size ≤ 140737488355328 := of_decide_eq_true (by kernel_rfl)
  clear hss
  go_enter Try.func30, Try.ntmps30
  go_wp2_with fail
  refine (tree_NewPath _ _ _ HS.out (by decide) hj).mono ?_
  rintro e w1 ⟨rfl, hb⟩
  go_wp2
  go_ret
  exact ⟨⟨_, rfl⟩, ((Below.refl _ _).alloc (Nat.le_refl _) _).trans (hb.mono (by simp))⟩
end Go.Proofs.Ytadcdjiahekkgaa.L
