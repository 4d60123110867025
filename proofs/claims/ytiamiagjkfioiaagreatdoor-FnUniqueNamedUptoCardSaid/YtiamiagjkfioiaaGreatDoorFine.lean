/- Joined texts. -/
import GoSem.Op.String
import Derived.Lib.Strings
import Derived.Test.YtiamiagjkfioiaaGreatDoorRI
/- Plain facts: the order of strings, lists that rise by their keys, the last value of a key. No statement, no program. -/
namespace Go.Proofs.YtiamiagjkfioiaaGreatDoor.Ord
set_option linter.unusedVariables false
set_option linter.unusedSimpArgs false
set_option linter.unusedSectionVars false
open Go

/-! ### the order of strings -/
theorem less_irrefl : ∀ l : List UInt8, Op.bytesLess l l = false
  | [] => rfl
  | a :: l => by simp [Op.bytesLess, less_irrefl l]
theorem less_trans : ∀ a b c : List UInt8, Op.bytesLess a b = true → Op.bytesLess b c = true → Op.bytesLess a c = true
  | _, _, [], _, h => by cases ‹List UInt8› <;> simp [Op.bytesLess] at h
  | _, [], _ :: _, h, _ => by cases ‹List UInt8› <;> simp [Op.bytesLess] at h
  | [], _ :: _, _ :: _, _, _ => rfl
  | a :: x, b :: y, c :: z, h, k => by
    simp only [Op.bytesLess, Bool.or_eq_true, Bool.and_eq_true, decide_eq_true_eq, beq_iff_eq] at h k ⊢
    rcases h with h | ⟨rfl, h⟩
    · rcases k with k | ⟨rfl, k⟩
      · exact .inl (UInt8.lt_trans h k)
      · exact .inl h
    · rcases k with k | ⟨rfl, k⟩
      · exact .inl k
      · exact .inr ⟨rfl, less_trans x y z h k⟩
theorem less_tri : ∀ a b : List UInt8, Op.bytesLess a b = false → Op.bytesLess b a = false → a = b
  | [], [], _, _ => rfl
  | [], _ :: _, h, _ => by simp [Op.bytesLess] at h
  | _ :: _, [], _, h => by simp [Op.bytesLess] at h
  | a :: x, b :: y, h, k => by
    simp only [Op.bytesLess, Bool.or_eq_false_iff, decide_eq_false_iff_not, Bool.and_eq_false_iff, beq_eq_false_iff_ne] at h k
    have e : a = b := by
      have h1 := UInt8.not_lt.1 h.1
      have h2 := UInt8.not_lt.1 k.1
      exact UInt8.le_antisymm h2 h1
    subst e
    have h2 := h.2.resolve_left (by simp)
    have k2 := k.2.resolve_left (by simp)
    rw [less_tri x y h2 k2]
theorem toList_inj {s t : ByteArray} (h : s.toList = t.toList) : s = t := by
  have e : ∀ u : ByteArray, u.toList = u.data.toList := fun u => by
    exact Lib.toList_data u
  rw [e, e] at h
  exact ByteArray.ext (Array.toList_inj.1 h)
def lt (a b : ByteArray) : Bool := Op.bytesLess a.toList b.toList
theorem lt_irrefl (a : ByteArray) : lt a a = false := less_irrefl _
theorem lt_trans {a b c : ByteArray} (h : lt a b = true) (k : lt b c = true) : lt a c = true := less_trans _ _ _ h k
theorem lt_tri {a b : ByteArray} (h : lt a b = false) (k : lt b a = false) : a = b := toList_inj (less_tri _ _ h k)
theorem lt_asymm {a b : ByteArray} (h : lt a b = true) : lt b a = false := by
  cases e : lt b a
  · rfl
  · have := lt_trans h e
    rw [lt_irrefl] at this
    cases this
theorem lt_ne {a b : ByteArray} (h : lt a b = true) : a ≠ b := fun e => by rw [e, lt_irrefl] at h; cases h

/-! ### lists that rise by their keys -/
section
variable {α : Type} (key : α → ByteArray)
def Asc (l : List α) : Prop := l.Pairwise (fun p q => lt (key p) (key q) = true)
/-- where a key stands, or would stand -/
def at_ (l : List α) (k : ByteArray) : Nat := (l.takeWhile (fun p => lt (key p) k)).length
def step (l : List α) (x : α) : List α :=
  match l[at_ key l (key x)]? with
  | some q => if key q = key x then l.set (at_ key l (key x)) x else l.take (at_ key l (key x)) ++ x :: l.drop (at_ key l (key x))
  | none => l.take (at_ key l (key x)) ++ x :: l.drop (at_ key l (key x))
variable {key}
end

/-! ### texts in rising order, as often as they stand there -/
def Srt (l : List ByteArray) : Prop := l.Pairwise (fun a b => lt b a = false)
theorem nlt_trans {a b c : ByteArray} (h : lt b a = false) (k : lt c b = false) : lt c a = false := by
  cases e : lt c a
  · rfl
  · cases e2 : lt a b
    · have := lt_tri h e2
      rw [this] at k
      rw [k] at e; exact e.symm
    · have := lt_trans e e2
      rw [k] at this; exact this.symm
theorem srt_ext : ∀ {l l' : List ByteArray}, Srt l → Srt l' → l.Perm l' → l = l'
  | [], l', _, _, h => (List.nil_perm.1 h).symm
  | a :: l, [], _, _, h => by have := h.length_eq; simp at this
  | a :: l, b :: l', h1, h2, h => by
    have a1 := List.pairwise_cons.1 h1
    have a2 := List.pairwise_cons.1 h2
    have e : a = b := by
      rcases List.mem_cons.1 (h.mem_iff.1 (List.mem_cons_self (a := a) (l := l))) with e | ha
      · exact e
      · rcases List.mem_cons.1 (h.mem_iff.2 (List.mem_cons_self (a := b) (l := l'))) with e | hb
        · exact e.symm
        · exact lt_tri (a2.1 a ha) (a1.1 b hb)
    subst e
    rw [srt_ext a1.2 a2.2 ((List.perm_cons a).1 h)]
def sortS (l : List ByteArray) : List ByteArray := l.mergeSort (fun a b => !lt b a)
theorem sortS_perm (l : List ByteArray) : (sortS l).Perm l := List.mergeSort_perm l _
theorem sortS_srt (l : List ByteArray) : Srt (sortS l) := by
  have h := List.pairwise_mergeSort (le := fun a b => !lt b a) (fun a b c h k => by
    simp only [Bool.not_eq_true'] at h k ⊢
    exact nlt_trans h k) (fun a b => by
    cases e : lt b a
    · simp
    · rw [lt_asymm e]; simp) l
  exact h.imp (fun h => by simpa using h)
theorem sortS_unique {l l' : List ByteArray} (h : Srt l) (hp : l.Perm l') : l = sortS l' := srt_ext h (sortS_srt l') (hp.trans (sortS_perm l').symm)
theorem sortS_of_perm {l l' : List ByteArray} (h : l.Perm l') : sortS l = sortS l' := sortS_unique (sortS_srt l) ((sortS_perm l).trans h)
theorem sortS_length (l : List ByteArray) : (sortS l).length = l.length := (sortS_perm l).length_eq
end Go.Proofs.YtiamiagjkfioiaaGreatDoor.Ord
/- What a value of the package comes back as. Plain. -/
namespace Go.Proofs.YtiamiagjkfioiaaGreatDoor.A
set_option linter.unusedVariables false
set_option linter.unusedSimpArgs false
set_option linter.unusedSectionVars false
open Go.RowKit Go.Proofs.YtiamiagjkfioiaaGreatDoorW.PrintWords Go.Proofs.YtiamiagjkfioiaaGreatDoorW.PrintLast Go.Proofs.YtiamiagjkfioiaaGreatDoorW.PrintMore Go.Proofs.YtiamiagjkfioiaaGreatDoor.PT Go.Proofs.YtiamiagjkfioiaaGreatDoor.L Go.Proofs.YtiamiagjkfioiaaGreatDoor.SM

theorem new_atI {w : World} {o : Obj} {n : Nat} (h : w.heap.size = n) : (w.alloc o).heap[n]? = some o := by rw [← h]; exact (MapKept.heap_alloc w o).1
theorem heap_oldI {w : World} {o o' : Obj} {n : Nat} (h : w.heap[n]? = some o) : (w.alloc o').heap[n]? = some o := ((Below.refl w.heap.size w).alloc (Nat.le_refl _) o').block n (blk_lt h) |>.trans h
abbrev be : ByteArray := ⟨#[]⟩
/-- what the package told is as a value of the thin package: a map's keys rise -/
inductive FromIs (w : World) : AV → IV → Prop
  | nil : FromIs w .nil ⟨0, 0, be, [], []⟩
  | bool (b : Bool) : FromIs w (.bool b) ⟨1, if b then 1 else 0, be, [], []⟩
  | int (i : Int) : FromIs w (.int i) ⟨2, i, be, [], []⟩
  | text (s : ByteArray) : FromIs w (.text s) ⟨3, 0, s, [], []⟩
  | list {A : Option Addr} {c : Nat} {vs : List AV} {ys : List IV} (hl : vs.length = ys.length) (hc : vs.length ≤ c) (hb : vs.length ≤ 1099511627776) (hr : kA.C w A vs.length vs)
      (he : ∀ (i : Nat) (h1 : i < vs.length) (h2 : i < ys.length), FromIs w (vs[i]'h1) (ys[i]'h2)) : FromIs w (.sl A vs.length c) ⟨4, 0, be, [], ys⟩
  | map {b : Nat} {m : List (ByteArray × AV)} {ks : List ByteArray} {ys : List IV} (hm : TMap w b AV.enc m) (hb : m.length ≤ 1099511627776) (hk : ks = Ord.sortS (keys m)) (hl : ys.length = ks.length)
      (he : ∀ (i : Nat) (h1 : i < ks.length) (h2 : i < ys.length) (v : AV), SM.look m (ks[i]'h1) = some v → FromIs w v (ys[i]'h2)) : FromIs w (.map b) ⟨5, 0, be, ks, ys⟩
theorem FromIs.below_ {w w' : World} {v : AV} {y : IV} (h : FromIs w v y) (hb : Below w.heap.size w w') : FromIs w' v y := by
  induction h with
  | nil => exact .nil
  | bool b => exact .bool b
  | int i => exact .int i
  | text s => exact .text s
  | list hl hc hbd hr he ih => exact .list hl hc hbd (Kd.C_below hr hb) ih
  | map hm hbd hk hl he ih => exact .map (hm.below hb) hbd hk hl ih
/-- of the document's form, with nothing in the fields that a kind has not -/
inductive Fine : IV → Prop
  | nil : Fine ⟨0, 0, be, [], []⟩
  | bool (b : Bool) : Fine ⟨1, if b then 1 else 0, be, [], []⟩
  | int (i : Int) : Fine ⟨2, i, be, [], []⟩
  | text (s : ByteArray) : Fine ⟨3, 0, s, [], []⟩
  | list {ys : List IV} (hb : ys.length ≤ 1099511627776) (he : ∀ y ∈ ys, Fine y) : Fine ⟨4, 0, be, [], ys⟩
  | map {ks : List ByteArray} {ys : List IV} (ha : Ord.Asc id ks) (hl : ys.length = ks.length) (hb : ys.length ≤ 1099511627776) (he : ∀ y ∈ ys, Fine y) : Fine ⟨5, 0, be, ks, ys⟩
theorem asc_nodup {ks : List ByteArray} (h : Ord.Asc id ks) : ks.Nodup := List.Pairwise.imp (fun h => Ord.lt_ne h) h
theorem asc_srt {ks : List ByteArray} (h : Ord.Asc id ks) : Ord.Srt ks := List.Pairwise.imp (fun h => Ord.lt_asymm h) h
theorem Fine.canon {x : IV} (h : Fine x) : Canon x := by
  induction h with
  | nil => exact .mk (fun h => by cases h) (by simp) (fun y hy => by cases hy)
  | bool b => exact .mk (fun h => by cases h) (by simp) (fun y hy => by cases hy)
  | int i => exact .mk (fun h => by cases h) (by simp) (fun y hy => by cases hy)
  | text s => exact .mk (fun h => by cases h) (by simp) (fun y hy => by cases hy)
  | list hb he ih => exact .mk (fun h => by cases h) hb ih
  | map ha hl hb he ih => exact .mk (fun _ => ⟨asc_nodup ha, hl.symm⟩) hb ih
end Go.Proofs.YtiamiagjkfioiaaGreatDoor.A
