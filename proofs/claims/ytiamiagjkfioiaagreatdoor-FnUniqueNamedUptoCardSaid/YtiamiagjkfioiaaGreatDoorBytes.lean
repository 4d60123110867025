/- Rows of bytes: what is appended to them, and the string that they make. No statement. -/
import Derived.Test.YtiamiagjkfioiaaGreatDoorL
import Derived.Lib.AppendStr
import Derived.Laws.BytesArg
namespace Go.Proofs.YtiamiagjkfioiaaGreatDoor.L
set_option linter.unusedVariables false
set_option linter.unusedSimpArgs false
set_option linter.unusedSectionVars false
open Go.RowKit

/-- a byte in a cell -/
def bv (c : UInt8) : Value := .int .u8 (c.toNat : Int)
theorem strCells_bv (s : ByteArray) : Lib.strCells s = s.data.toList.map bv := rfl
theorem strOfNums_bv (l : List UInt8) : strOfNums (l.map fun c => (c.toNat : Int)) = mk l := by
  apply data_inj
  rw [strOfNums_data, mk_data, List.map_map]
  conv => rhs; rw [← List.map_id l]
  refine List.map_congr_left fun c _ => ?_
  simp

theorem run_string_rd {P : Program} {ok : Nat → Prop} {w : World} {v : Value} {n : Nat} {l : List UInt8} (src e dst : TypeId) (hs : P.underlying src = some (.slice e)) (he : P.underlying e = some (.int .u8)) (hd : P.underlying dst = some .string)
    (h : RdK ok w 1 v n (l.map bv)) : (convert src dst v).run P w = .ok (.string (mk l)) w := by
  obtain ⟨A, c, rfl, h1, h0, h2, h3⟩ := h
  have hn : l.length = n := by simpa using h2
  rcases Nat.eq_zero_or_pos n with hz | hz
  · have hl : l = [] := List.length_eq_zero_iff.1 (by omega)
    subst hl
    subst hz
    cases A with
    | none => exact run_convert_bytes_nil w src e hs he 0 c dst hd
    | some a =>
      rw [run_convert_bytes_string w src dst e _ 0 c hs he hd, run_bytesToString w a 0 c [] (by simp [loadCells, loadCellsFrom])]
      rfl
  · obtain ⟨b, o, rfl, _, hb, hc⟩ := h3 (by rw [List.length_map]; omega)
    rw [run_convert_bytes_arg w src e hs he b o n c (l.map fun c => (c.toNat : Int)) (by simpa using hn) (fun i hi => by
      rw [hc i (by rw [List.length_map]; omega), List.getD_eq_getElem?_getD, List.getD_eq_getElem?_getD, List.getElem?_map, List.getElem?_map, List.getElem?_eq_getElem (by omega)]
      rfl) dst hd, strOfNums_bv]

theorem wpList_string_own {P : Program} {ops : Array Oper} {rest : List Oper} {o : Oper} {a : Act} {w : World} {Q : Exit → Act → World → Prop} {ok : Nat → Prop} (hgd : o.guard = none) (x : Operand) (t e s : TypeId)
    (ho : o.op = .convert t s x) (ht : P.underlying t = some (.slice e)) (he : P.underlying e = some (.int .u8)) (hs : P.underlying s = some .string)
    (v : Value) (hv : a.eval x = v) (n : Nat) (l : List UInt8) (hr : RdK ok w 1 v n (l.map bv)) (h : wpList P ops Q rest (a.put o.dst (.string (mk l))) w) : wpList P ops Q (o :: rest) a w := by
  refine wpList_plain hgd fun K hK => ?_
  have hrun := run_string_rd t e s ht he hs hr
  unfold Oper.wp
  simp [execOp, ho, hv, hrun, Result.andThen]
  exact hK _ _ h
end Go.Proofs.YtiamiagjkfioiaaGreatDoor.L
