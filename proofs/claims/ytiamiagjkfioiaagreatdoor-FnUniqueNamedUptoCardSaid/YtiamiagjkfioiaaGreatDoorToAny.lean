/- The walks of impl.toAny and impl.toMap, of every value of the document's form. -/
import Derived.Test.YtiamiagjkfioiaaGreatDoorAny
import Derived.Test.YtiamiagjkfioiaaGreatDoorPTx2
import Derived.Test.YtiamiagjkfioiaaGreatDoorL
import Derived.Lib.Hide
import Derived.Outline
namespace Go.Proofs.YtiamiagjkfioiaaGreatDoor.A
set_option linter.unusedVariables false
set_option linter.unusedSimpArgs false
set_option linter.unusedSectionVars false
open Go.RowKit Go.Proofs.YtiamiagjkfioiaaGreatDoorW.PrintWords Go.Proofs.YtiamiagjkfioiaaGreatDoorW.PrintLast Go.Proofs.YtiamiagjkfioiaaGreatDoorW.PrintMore Go.Proofs.YtiamiagjkfioiaaGreatDoor.PT Go.Proofs.YtiamiagjkfioiaaGreatDoor.SM Go.Proofs.YtiamiagjkfioiaaGreatDoor.L

theorem wp_put_step {β : Type} {cenc : β → Value} {m : List (ByteArray × β)} {P : Program} {ops : Array Oper} {o : Oper} {a : Act} {Q : Exit → Act → World → Prop} {Kc : Act → World → Prop} {w : World} {b : Nat} {t k e : TypeId} (hw : Region.wanted o (yielded ops a.tmps) = true) (mo xo vo : Operand) (hop : o.op = Op.mapUpdate t mo xo vo) (ht : P.underlying t = some (.map k e)) (hk : P.underlying k = some .string)
    (hm : a.eval mo = .map (some b)) (h : TMap w b cenc m) (s : ByteArray) (v : β) (hx : a.eval xo = .string s) (hv : a.eval vo = cenc v) {w0 : World} {B : Nat} (HB : Below B w0 w) (hB : B ≤ b)
    (hK : ∀ w', TMap w' b cenc (put m s v) → Below B w0 w' → w.grownBy w' (some b) → Kc (a.put o.dst undef) w') : if Region.wanted o (yielded ops a.tmps) = true then Oper.wp P o a w Kc Q else Kc (a.put o.dst undef) w := by
  rw [if_pos hw]
  obtain ⟨ob, hrun, hs⟩ := run_put (P := P) ht hk h s (cenc v)
  rw [put_mapE] at hs
  unfold Oper.wp
  simp [execOp, hop, hm, hx, hv, hrun, Result.andThen]
  exact hK _ hs (HB.grown (setBlock_grown w b ob) (Nat.le_trans hB (Nat.le_of_lt h.lt)) (fun j hj => by cases hj; exact hB)) (setBlock_grown w b ob)
/-- a value's cells, as a call is handed them -/
abbrev cellsI (x : IV) (A3 : Option Addr) (c3 : Nat) (A4 : Option Addr) (c4 : Nat) : Value := .agg #[.int .i64 x.f0, .int .i64 x.f1, .string x.f2, .slice A3 x.f3.length c3, .slice A4 x.f4.length c4]
def ToAnyC (y : IV) (w : World) : Prop := ∀ (A3 : Option Addr) (c3 : Nat) (A4 : Option Addr) (c4 : Nat), y.f3.length ≤ c3 → Kd.C Kd.string w A3 y.f3.length y.f3 → y.f4.length ≤ c4 → Kd.C kI w A4 y.f4.length y.f4 →
  Calls Tryz.prog 42 #[cellsI y A3 c3 A4 c4] w fun e w' => ∃ v : AV, e = .returned v.enc ∧ AnyIs w.heap.size w' y v ∧ Below w.heap.size w w'
theorem ToAnyC.use {y : IV} {w : World} (h : ToAnyC y w) (A3 : Option Addr) (c3 : Nat) (A4 : Option Addr) (c4 : Nat) (m3 : y.f3.length ≤ c3) (q3 : Kd.C Kd.string w A3 y.f3.length y.f3) (m4 : y.f4.length ≤ c4) (q4 : Kd.C kI w A4 y.f4.length y.f4) :
    Calls Tryz.prog 42 #[cellsI y A3 c3 A4 c4] w fun e w' => ∃ v : AV, e = .returned v.enc ∧ AnyIs w.heap.size w' y v ∧ Below w.heap.size w w' := h A3 c3 A4 c4 m3 q3 m4 q4
theorem put_new {β : Type} {m : List (ByteArray × β)} {k : ByteArray} {v : β} (h : k ∉ m.map (·.1)) : put m k v = m ++ [(k, v)] := by
  unfold put
  rw [if_neg]
  intro e
  exact h (has_iff.1 e)
theorem nodup_take {α : Type} {l : List α} {i : Nat} (h : l.Nodup) (hi : i < l.length) : l[i] ∉ l.take i := by
  intro hm
  obtain ⟨j, hj, e⟩ := List.mem_take_iff_getElem.1 hm
  have := (List.getElem_inj h).1 e
  omega
theorem rd_getI {l : List IV} {i : Nat} (h : i < l.length) : rd_T34 l i = l[i] := by
  simp [rd_T34, List.getD_eq_getElem?_getD, List.getElem?_eq_getElem h]
theorem wr1 {i n : Nat} (h : i < n) (hn : n ≤ 140737488355328) : wrap64 ((i : Int) + 1) = ((i + 1 : Nat) : Int) := by unfold wrap64; omega
theorem infoA : (Tryz.prog.info? 20).map (fun i => (i.zero, i.size, i.bytes)) = some (some .nilIface, 1, 16) := by kernel_rfl
theorem at_A {w : World} {A : Option Addr} {n : Nat} {xs : List AV} (h : kA.C w A n xs) (i : Nat) (hi : i < n) : ∃ ad, A = some ad ∧ w.cell? (ad.add i) = some (xs.getD i .nil).enc := by
  obtain ⟨ad, c, e, _, hK, hc⟩ := Kd.C_get h .nil (i : Int) (by omega) (by omega)
  have hK' : c = [(xs.getD i .nil).enc] := hK
  have h0 := hc 0 (xs.getD i .nil).enc (by rw [hK']; rfl)
  refine ⟨ad, e, ?_⟩
  simpa [kA, Kd.scalar] using h0
end Go.Proofs.YtiamiagjkfioiaaGreatDoor.A
