/- What a value of a configuration is as the package takes it: an interface's value, its lists and maps. No statement. -/
import Derived.Test.YtiamiagjkfioiaaGreatDoorPTx0
import Derived.Test.YtiamiagjkfioiaaGreatDoorSM
namespace Go.Proofs.YtiamiagjkfioiaaGreatDoor.A
set_option linter.unusedVariables false
set_option linter.unusedSimpArgs false
set_option linter.unusedSectionVars false
open Go.RowKit Go.Proofs.YtiamiagjkfioiaaGreatDoorW.PrintWords Go.Proofs.YtiamiagjkfioiaaGreatDoorW.PrintLast Go.Proofs.YtiamiagjkfioiaaGreatDoor.PT Go.Proofs.YtiamiagjkfioiaaGreatDoor.SM

/-- the thin package's value -/
abbrev IV := S34
abbrev kI := k34
/-- an interface's value of those kinds that a configuration holds -/
inductive AV where
  | nil
  | bool (b : Bool)
  | int (i : Int)
  | text (s : ByteArray)
  | sl (A : Option Addr) (n c : Nat)
  | map (b : Nat)
def AV.enc : AV → Value
  | .nil => .nilIface
  | .bool b => .iface 4 (.bool b)
  | .int i => .iface 3 (.int .i64 i)
  | .text s => .iface 9 (.string s)
  | .sl A n c => .iface 48 (.slice A n c)
  | .map b => .iface 55 (.map (some b))
theorem AV.enc_one (v : AV) : v.enc.oneCell' = true := by cases v <;> rfl
def kA : Kd AV := Kd.scalar AV.enc AV.enc_one
/-- what a value is as the package has it; all its blocks lie at or behind lo -/
inductive AnyIs (lo : Nat) (w : World) : IV → AV → Prop
  | nil {x : IV} (h : x.f0 < 1 ∨ 5 < x.f0) : AnyIs lo w x .nil
  | bool {x : IV} (h : x.f0 = 1) : AnyIs lo w x (.bool (x.f1 != 0))
  | int {x : IV} (h : x.f0 = 2) : AnyIs lo w x (.int x.f1)
  | text {x : IV} (h : x.f0 = 3) : AnyIs lo w x (.text x.f2)
  | list {x : IV} {A : Option Addr} {c : Nat} {vs : List AV} (h : x.f0 = 4) (hl : vs.length = x.f4.length) (hc : vs.length ≤ c) (hr : kA.C w A vs.length vs) (hA : ∀ ad, A = some ad → lo ≤ ad.block)
      (he : ∀ (i : Nat) (h1 : i < x.f4.length) (h2 : i < vs.length), AnyIs lo w (x.f4[i]'h1) (vs[i]'h2)) : AnyIs lo w x (.sl A vs.length c)
  | map {x : IV} {b : Nat} {m : List (ByteArray × AV)} (h : x.f0 = 5) (hm : TMap w b AV.enc m) (hb : lo ≤ b) (hk : m.map (·.1) = x.f3) (hl : m.length = x.f4.length)
      (he : ∀ (i : Nat) (h1 : i < x.f4.length) (h2 : i < m.length), AnyIs lo w (x.f4[i]'h1) (m[i]'h2).2) : AnyIs lo w x (.map b)
theorem kA_move {w w' : World} {A : Option Addr} {n : Nat} {vs : List AV} (h : kA.C w A n vs) (hm : ∀ ad, A = some ad → ad.block < w.heap.size → w'.heap[ad.block]? = w.heap[ad.block]?) : kA.C w' A n vs := by
  obtain ⟨h1, h2, h3⟩ := h
  refine ⟨h1, h2, fun hp => ?_⟩
  obtain ⟨ad, e, hc⟩ := h3 hp
  refine ⟨ad, e, fun j p hj => ?_⟩
  obtain ⟨cs, ha, hb, hcc⟩ := hc j p hj
  refine ⟨cs, ha, hb, fun i u hu => ?_⟩
  have h4 := hcc i u hu
  have h5 := World.block_lt_of_cell? w _ h4
  have hbk : (ad.add (j * kA.sz + i)).block = ad.block := by unfold Addr.add; split <;> rfl
  rw [hbk] at h5
  have h6 := hm ad e h5
  rw [← h4]
  unfold World.cell?
  rw [hbk, h6]
theorem AnyIs.kept {lo : Nat} {w w' : World} {x : IV} {v : AV} (h : AnyIs lo w x v) (hb : ∀ k, lo ≤ k → k < w.heap.size → w'.heap[k]? = w.heap[k]?) : AnyIs lo w' x v := by
  induction h with
  | nil h => exact .nil h
  | bool h => exact .bool h
  | int h => exact .int h
  | text h => exact .text h
  | list h hl hc hr hA he ih => exact .list h hl hc (kA_move hr (fun ad e hlt => hb _ (hA ad e) hlt)) hA ih
  | map h hm hb' hk hl he ih => exact .map h (SMap.move hm (hb _ hb' hm.lt)) hb' hk hl ih
theorem AnyIs.below_ {lo : Nat} {w w' : World} {x : IV} {v : AV} (h : AnyIs lo w x v) (hb : Below w.heap.size w w') : AnyIs lo w' x v := h.kept (fun k _ hk => hb.block k hk)
theorem AnyIs.lower {lo lo' : Nat} {w : World} {x : IV} {v : AV} (h : AnyIs lo w x v) (hl : lo' ≤ lo) : AnyIs lo' w x v := by
  induction h with
  | nil h => exact .nil h
  | bool h => exact .bool h
  | int h => exact .int h
  | text h => exact .text h
  | list h h1 hc hr hA he ih => exact .list h h1 hc hr (fun ad e => Nat.le_trans hl (hA ad e)) ih
  | map h hm hb' hk h1 he ih => exact .map h hm (Nat.le_trans hl hb') hk h1 ih
/-- of the document's form: a map's keys, each once, and as many values; no list is past all bounds -/
inductive Canon : IV → Prop
  | mk {x : IV} (hm : x.f0 = 5 → x.f3.Nodup ∧ x.f3.length = x.f4.length) (hb : x.f4.length ≤ 1099511627776) (hs : ∀ y ∈ x.f4, Canon y) : Canon x
theorem Canon.keys {x : IV} (h : Canon x) (h5 : x.f0 = 5) : x.f3.Nodup ∧ x.f3.length = x.f4.length := by cases h with | mk hm hb hs => exact hm h5
theorem Canon.short {x : IV} (h : Canon x) : x.f4.length ≤ 1099511627776 := by cases h with | mk hm hb hs => exact hb
theorem Canon.sub {x y : IV} (h : Canon x) (hy : y ∈ x.f4) : Canon y := by cases h with | mk hm hb hs => exact hs y hy
theorem size_sub {x y : IV} (h : y ∈ x.f4) : SizeOf.sizeOf y < SizeOf.sizeOf x := by
  have h1 := List.sizeOf_lt_of_mem h
  cases x with
  | mk f0 f1 f2 f3 f4 =>
    simp only [S34.mk.sizeOf_spec] at h1 ⊢
    omega
end Go.Proofs.YtiamiagjkfioiaaGreatDoor.A
