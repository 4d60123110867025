/- What a value of the package comes back as. Plain. -/
import Derived.Test.YtiamiagjkfioiaaGreatDoorRI
import Derived.Test.YtiamiagjkfioiaaGreatDoorOrd
namespace Go.Proofs.YtiamiagjkfioiaaGreatDoor.A
set_option linter.unusedVariables false
set_option linter.unusedSimpArgs false
set_option linter.unusedSectionVars false
open Go.RowKit Go.Proofs.YtiamiagjkfioiaaGreatDoorW.PrintWords Go.Proofs.YtiamiagjkfioiaaGreatDoorW.PrintLast Go.Proofs.YtiamiagjkfioiaaGreatDoorW.PrintMore Go.Proofs.YtiamiagjkfioiaaGreatDoor.PT Go.Proofs.YtiamiagjkfioiaaGreatDoor.L Go.Proofs.YtiamiagjkfioiaaGreatDoor.SM

theorem new_atI {w : World} {o : Obj} {n : Nat} (h : w.heap.size = n) : (w.alloc o).heap[n]? = some o := by rw [← h]; exact (MapKept.heap_alloc w o).1
theorem heap_oldI {w : World} {o o' : Obj} {n : Nat} (h : w.heap[n]? = some o) : (w.alloc o').heap[n]? = some o := ((Below.refl w.heap.size w).alloc (Nat.le_refl _) o').block n (blk_lt h) |>.trans h
abbrev be : ByteArray := ⟨#[]⟩
/-- what the package told is as a value of the thin package: a map's keys rise -/
inductive FromIs (w : World) : AV → IV → Prop
  | nil : FromIs w .nil ⟨0, 0, be, [], []⟩
  | bool (b : Bool) : FromIs w (.bool b) ⟨1, if b then 1 else 0, be, [], []⟩
  | int (i : Int) : FromIs w (.int i) ⟨2, i, be, [], []⟩
  | text (s : ByteArray) : FromIs w (.text s) ⟨3, 0, s, [], []⟩
  | list {A : Option Addr} {c : Nat} {vs : List AV} {ys : List IV} (hl : vs.length = ys.length) (hc : vs.length ≤ c) (hb : vs.length ≤ 1099511627776) (hr : kA.C w A vs.length vs)
      (he : ∀ (i : Nat) (h1 : i < vs.length) (h2 : i < ys.length), FromIs w (vs[i]'h1) (ys[i]'h2)) : FromIs w (.sl A vs.length c) ⟨4, 0, be, [], ys⟩
  | map {b : Nat} {m : List (ByteArray × AV)} {ks : List ByteArray} {ys : List IV} (hm : TMap w b AV.enc m) (hb : m.length ≤ 1099511627776) (hk : ks = Ord.sortS (keys m)) (hl : ys.length = ks.length)
      (he : ∀ (i : Nat) (h1 : i < ks.length) (h2 : i < ys.length) (v : AV), SM.look m (ks[i]'h1) = some v → FromIs w v (ys[i]'h2)) : FromIs w (.map b) ⟨5, 0, be, ks, ys⟩
theorem FromIs.below_ {w w' : World} {v : AV} {y : IV} (h : FromIs w v y) (hb : Below w.heap.size w w') : FromIs w' v y := by
  induction h with
  | nil => exact .nil
  | bool b => exact .bool b
  | int i => exact .int i
  | text s => exact .text s
  | list hl hc hbd hr he ih => exact .list hl hc hbd (Kd.C_below hr hb) ih
  | map hm hbd hk hl he ih => exact .map (hm.below hb) hbd hk hl ih
/-- of the document's form, with nothing in the fields that a kind has not -/
inductive Fine : IV → Prop
  | nil : Fine ⟨0, 0, be, [], []⟩
  | bool (b : Bool) : Fine ⟨1, if b then 1 else 0, be, [], []⟩
  | int (i : Int) : Fine ⟨2, i, be, [], []⟩
  | text (s : ByteArray) : Fine ⟨3, 0, s, [], []⟩
  | list {ys : List IV} (hb : ys.length ≤ 1099511627776) (he : ∀ y ∈ ys, Fine y) : Fine ⟨4, 0, be, [], ys⟩
  | map {ks : List ByteArray} {ys : List IV} (ha : Ord.Asc id ks) (hl : ys.length = ks.length) (hb : ys.length ≤ 1099511627776) (he : ∀ y ∈ ys, Fine y) : Fine ⟨5, 0, be, ks, ys⟩
theorem asc_nodup {ks : List ByteArray} (h : Ord.Asc id ks) : ks.Nodup := List.Pairwise.imp (fun h => Ord.lt_ne h) h
theorem asc_srt {ks : List ByteArray} (h : Ord.Asc id ks) : Ord.Srt ks := List.Pairwise.imp (fun h => Ord.lt_asymm h) h
theorem Fine.canon {x : IV} (h : Fine x) : Canon x := by
  induction h with
  | nil => exact .mk (fun h => by cases h) (by simp) (fun y hy => by cases hy)
  | bool b => exact .mk (fun h => by cases h) (by simp) (fun y hy => by cases hy)
  | int i => exact .mk (fun h => by cases h) (by simp) (fun y hy => by cases hy)
  | text s => exact .mk (fun h => by cases h) (by simp) (fun y hy => by cases hy)
  | list hb he ih => exact .mk (fun h => by cases h) hb ih
  | map ha hl hb he ih => exact .mk (fun _ => ⟨asc_nodup ha, hl.symm⟩) hb ih
end Go.Proofs.YtiamiagjkfioiaaGreatDoor.A
