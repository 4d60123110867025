/- Plain: what spec.Look tells: the last pair of a name. -/
import Derived.Test.YtlncdacoefoldaaGreatDoorPXx7
import Derived.Test.YtlncdacoefoldaaGreatDoorFitP
import Derived.Test.YtlncdacoefoldaaGreatDoorSubL
namespace Go.Proofs.YtlncdacoefoldaaGreatDoor.U
set_option linter.unusedVariables false
set_option linter.unusedSimpArgs false
set_option linter.unusedSectionVars false
open Go.RowKit Go.Proofs.YtlncdacoefoldaaGreatDoorW.PrintWords Go.Proofs.YtlncdacoefoldaaGreatDoorW.PrintLast Go.Proofs.YtlncdacoefoldaaGreatDoor.PX Go.Proofs.YtlncdacoefoldaaGreatDoor.M

abbrev SP := S59
abbrev lastP (l : List SP) (n : ByteArray) : Option SP := Ord.lastOf S59.f0 l n
theorem wrapS (i : Nat) (h : i < 4611686018427387904) : wrap64 ((i : Int) + 1) = ((i + 1 : Nat) : Int) := by unfold wrap64; omega
/-- what spec.Look tells -/
def lookAns (o : Option SP) : ByteArray × Bool := match o with
  | none => (⟨#[]⟩, false)
  | some x => (x.f1, true)
theorem look_l0 (l : List SP) (n : ByteArray) (hl : l.length ≤ 2147483647) : ∀ (i k : Nat), i ≤ l.length → i < k → spec_Look.l0 k l n ((i : Int) - 1) = some (lookAns (lastP (l.take i) n))
  | i, 0, _, h => by omega
  | 0, k + 1, _, _ => by
    rw [spec_Look.l0, if_neg (by omega)]
    rfl
  | i + 1, k + 1, hi, hk => by
    have hlt : i < l.length := by omega
    have e1 : ((i + 1 : Nat) : Int) - 1 = (i : Int) := by omega
    have w1 : wrap64 ((i : Int) - 1) = (i : Int) - 1 := by unfold wrap64; omega
    rw [spec_Look.l0, e1, if_pos (by omega), if_pos (by omega), if_pos (by omega), w1, look_l0 l n hl i k (by omega) (by omega), rd_get hlt, List.take_succ_eq_append_getElem hlt]
    unfold lastP
    rw [Ord.lastOf_snoc]
    by_cases h : l[i].f0 = n
    · rw [if_pos h, if_pos (by rw [h])]; rfl
    · rw [if_neg h, if_neg (fun e => h (Ord.toList_inj e))]
theorem look_l (l : List SP) (n : ByteArray) (hl : l.length ≤ 2147483647) : spec_Look.f (l.length + 1) l n = some (lookAns (lastP l n)) := by
  unfold spec_Look.f
  have w1 : wrap64 ((l.length : Int) - 1) = (l.length : Int) - 1 := by unfold wrap64; omega
  rw [w1, look_l0 l n hl l.length _ (Nat.le_refl _) (Nat.lt_succ_self _), List.take_length]
theorem q45 (c : UInt8) : ((c.toNat : Int) = 45) ↔ c = 45 := by rw [u8]; show _ ↔ c.toNat = 45; omega
theorem q43 (c : UInt8) : ((c.toNat : Int) = 43) ↔ c = 43 := by rw [u8]; show _ ↔ c.toNat = 43; omega
theorem q63 (c : UInt8) : ((c.toNat : Int) = 63) ↔ c = 63 := by rw [u8]; show _ ↔ c.toNat = 63; omega
theorem q58 (c : UInt8) : ((c.toNat : Int) = 58) ↔ c = 58 := by rw [u8]; show _ ↔ c.toNat = 58; omega
end Go.Proofs.YtlncdacoefoldaaGreatDoor.U
