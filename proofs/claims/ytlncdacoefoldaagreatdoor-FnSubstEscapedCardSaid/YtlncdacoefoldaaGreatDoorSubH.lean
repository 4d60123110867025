/- Plain: the printed functions of the statements on substitution that turn a text (SubstDouble, substBare, SubstName, SubstPlain), as lists of bytes tell them. -/
import Derived.Test.YtlncdacoefoldaaGreatDoorPXx5
import Derived.Test.YtlncdacoefoldaaGreatDoorSubB
import Derived.Test.YtlncdacoefoldaaGreatDoorSubE
import Derived.Test.YtlncdacoefoldaaGreatDoorBytes
namespace Go.Proofs.YtlncdacoefoldaaGreatDoor.U
set_option linter.unusedVariables false
set_option linter.unusedSimpArgs false
set_option linter.unusedSectionVars false
open Go.RowKit Go.Proofs.YtlncdacoefoldaaGreatDoorW.PrintWords Go.Proofs.YtlncdacoefoldaaGreatDoorW.PrintLast Go.Proofs.YtlncdacoefoldaaGreatDoor.PX Go.Proofs.YtlncdacoefoldaaGreatDoor.L

def nm (l : Bs) : List Int := l.map (fun c => (c.toNat : Int))
theorem nm_app (a b : Bs) : nm a ++ nm b = nm (a ++ b) := by simp [nm]
theorem nm_one (c : UInt8) : [(c.toNat : Int)] = nm [c] := rfl
theorem nm_len (a : Bs) : (nm a).length = a.length := by simp [nm]
theorem str_nm (l : Bs) : strOfNums (nm l) = mk l := strOfNums_bv l
theorem q36 (c : UInt8) : ((c.toNat : Int) = 36) ↔ c = 36 := by rw [u8]; show _ ↔ c.toNat = 36; omega
theorem q10 (c : UInt8) : ((c.toNat : Int) = 10) ↔ c = 10 := by rw [u8]; show _ ↔ c.toNat = 10; omega
theorem double_l0 (s : ByteArray) (hs : s.size ≤ 17592186044416) : ∀ (n x k : Nat) (o : Bs), n = s.size - x → x ≤ s.size → n + 1 ≤ k → o.length ≤ 2 * x → spec_SubstDouble.l0 k s (nm o) (x : Int) = some (mk (o ++ dbl (D s x)))
  | n, x, 0, o, _, _, hk, _ => by omega
  | n, x, k + 1, o, hn, hx, hk, ho => by
    rw [spec_SubstDouble.l0]
    cases h : D s x with
    | nil =>
      have := D_nil h
      rw [if_neg (by omega), str_nm, dbl, List.append_nil]
    | cons c r =>
      have h1 := (D_cons h).1
      have h3 := (D_cons h).2.2
      have w1 := Lib.hid (wrB x (by omega)).1
      rw [if_pos (by omega), if_pos (by omega), if_pos (by rw [nm_len]; omega), (D_cons h).2.1, nm_one, nm_app, w1.out, Option.bind_some]
      by_cases c36 : c = 36
      · subst c36
        rw [if_pos ((q36 36).2 rfl), if_pos (by rw [nm_len, List.length_append]; simp; omega), show ([36] : List Int) = nm [36] from rfl, nm_app, double_l0 s hs (n - 1) (x + 1) k _ (by omega) (by omega) (by omega) (by simp; omega), h3, dbl, if_pos rfl]
        simp
      · rw [if_neg (fun q => c36 ((q36 c).1 q)), double_l0 s hs (n - 1) (x + 1) k _ (by omega) (by omega) (by omega) (by simp; omega), h3, dbl, if_neg c36]
        simp
theorem double_l (s : ByteArray) (hs : s.size ≤ 17592186044416) : spec_SubstDouble.f (s.size + 1) s = some (mk (dbl s.data.toList)) :=
  double_l0 s hs s.size 0 _ [] rfl (Nat.zero_le _) (Nat.le_refl _) (Nat.zero_le _)
/-! ### a name -/
end Go.Proofs.YtlncdacoefoldaaGreatDoor.U
