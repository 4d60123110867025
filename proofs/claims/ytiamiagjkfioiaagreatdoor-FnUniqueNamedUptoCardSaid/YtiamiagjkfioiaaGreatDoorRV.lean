/- Values of a specification's configuration as their five cells, and what such a value holds, all its rows at or behind a block. No statement. -/
import Derived.Test.YtiamiagjkfioiaaGreatDoorWithK
namespace Go.Proofs.YtiamiagjkfioiaaGreatDoor.A
set_option linter.unusedVariables false
set_option linter.unusedSimpArgs false
set_option linter.unusedSectionVars false
open Go.RowKit Go.Proofs.YtiamiagjkfioiaaGreatDoorW.PrintWords Go.Proofs.YtiamiagjkfioiaaGreatDoorW.PrintLast Go.Proofs.YtiamiagjkfioiaaGreatDoorW.PrintMore Go.Proofs.YtiamiagjkfioiaaGreatDoor.PT Go.Proofs.YtiamiagjkfioiaaGreatDoor.L

abbrev SV := S26
abbrev kS := k26
/-- a value's five cells -/
structure RV where
  n0 : Int
  n1 : Int
  t : ByteArray
  A : Option Addr
  an : Nat
  ac : Nat
  B : Option Addr
  bn : Nat
  bc : Nat
def RV.cs (r : RV) : List Value := [.int .i64 r.n0, .int .i64 r.n1, .string r.t, .slice r.A r.an r.ac, .slice r.B r.bn r.bc]
def RV.val (r : RV) : Value := .agg #[.int .i64 r.n0, .int .i64 r.n1, .string r.t, .slice r.A r.an r.ac, .slice r.B r.bn r.bc]
def RV.zero : RV := ⟨0, 0, ⟨#[]⟩, none, 0, 0, none, 0, 0⟩
instance : Inhabited RV := ⟨RV.zero⟩
def kR : Kd RV where
  sz := 5
  E := []
  K := fun _ x cs => cs = x.cs
  M := fun _ _ _ x cs => cs = x.cs
  K_len := fun h => by rw [h]; rfl
  K_one := fun h => by rw [h]; intro q hq; simp only [RV.cs, List.mem_cons, List.not_mem_nil, or_false] at hq; rcases hq with rfl | rfl | rfl | rfl | rfl <;> rfl
  K_below := fun _ h => h
  K_of_M := fun h => h
  M_mono := fun _ h => h
  M_bound := fun h => h
  M_move := fun _ h => h
  M_lower := fun _ h => h
theorem kR_apart {w w1 : World} {B : Nat} {e : Nat} {v : Value} {xs : List RV} {row : Option Nat} (h : kR.R e w B (fun _ => True) v xs) (hg : w.grownBy w1 row) (hs : ∀ k, v.ownBlock = some k → some k ≠ row) : kR.R e w1 B (fun _ => True) v xs := by
  have h' : kR.R e w B (fun k => some k ≠ row) v xs := ⟨fun k hk => hs k hk, h.2⟩
  have h'' := Kd.R_grown h' hg (fun k hk => hk)
  exact ⟨fun k hk => trivial, h''.2⟩
/-- a row whose block lies at or behind lo -/
def Fr (lo : Nat) (A : Option Addr) : Prop := ∀ ad, A = some ad → lo ≤ ad.block
theorem Fr.none (lo : Nat) : Fr lo none := fun ad e => by cases e
theorem Fr.lower {lo lo' : Nat} {A : Option Addr} (h : Fr lo A) (hl : lo' ≤ lo) : Fr lo' A := fun ad e => Nat.le_trans hl (h ad e)
theorem fr_own {α : Type} {d : Kd α} {w : World} {B lo : Nat} {e : Nat} {ok : Nat → Prop} {A : Option Addr} {n c : Nat} {xs : List α} (h : d.R e w B ok (.slice A n c) xs) (hl : lo ≤ B) : Fr lo A := fun ad ea => by
  obtain ⟨inner, hown⟩ := Kd.R_own h
  subst ea
  rcases hown.2 with ⟨hv, _⟩ | ⟨g, cap, cur, hv, hb, _⟩
  · cases hv
  · injection hv with h1 _ _
    injection h1 with h1
    subst h1
    exact Nat.le_trans hl (own_base hown g rfl)
theorem kd_move {α : Type} {d : Kd α} {w w' : World} {A : Option Addr} {n : Nat} {xs : List α} (h : d.C w A n xs) (hK : ∀ x cs, d.K w x cs → d.K w' x cs) (hm : ∀ ad, A = some ad → ad.block < w.heap.size → w'.heap[ad.block]? = w.heap[ad.block]?) : d.C w' A n xs := by
  obtain ⟨h1, h2, h3⟩ := h
  refine ⟨h1, h2, fun hp => ?_⟩
  obtain ⟨ad, e, hc⟩ := h3 hp
  refine ⟨ad, e, fun j p hj => ?_⟩
  obtain ⟨cs, ha, hb, hcc⟩ := hc j p hj
  refine ⟨cs, ha, hK _ _ hb, fun i u hu => ?_⟩
  have h4 := hcc i u hu
  have h5 := World.block_lt_of_cell? w _ h4
  have hbk : (ad.add (j * d.sz + i)).block = ad.block := by unfold Addr.add; split <;> rfl
  rw [hbk] at h5
  have h6 := hm ad e h5
  rw [← h4]
  unfold World.cell?
  rw [hbk, h6]
/-- what a value's cells hold -/
inductive Deep (lo : Nat) (w : World) : SV → RV → Prop
  | mk {x : SV} {r : RV} {rs : List RV} (h0 : r.n0 = x.f0) (h1 : r.n1 = x.f1) (h2 : r.t = x.f2) (h3 : r.an = x.f3.length) (h3c : r.an ≤ r.ac) (h3k : Kd.C Kd.string w r.A x.f3.length x.f3) (h3f : Fr lo r.A)
      (h4 : r.bn = x.f4.length) (h4c : r.bn ≤ r.bc) (h4l : rs.length = x.f4.length) (h4k : Kd.C kR w r.B rs.length rs) (h4f : Fr lo r.B)
      (he : ∀ (i : Nat) (q1 : i < x.f4.length) (q2 : i < rs.length), Deep lo w (x.f4[i]'q1) (rs[i]'q2)) : Deep lo w x r
theorem Deep.kept {lo : Nat} {w w' : World} {x : SV} {r : RV} (h : Deep lo w x r) (hb : ∀ k, lo ≤ k → k < w.heap.size → w'.heap[k]? = w.heap[k]?) : Deep lo w' x r := by
  induction h with
  | mk h0 h1 h2 h3 h3c h3k h3f h4 h4c h4l h4k h4f he ih =>
    exact .mk h0 h1 h2 h3 h3c (kd_move h3k (fun _ _ q => q) (fun ad e hlt => hb _ (h3f ad e) hlt)) h3f h4 h4c h4l (kd_move h4k (fun _ _ q => q) (fun ad e hlt => hb _ (h4f ad e) hlt)) h4f ih
theorem Deep.below_ {lo : Nat} {w w' : World} {x : SV} {r : RV} (h : Deep lo w x r) (hb : Below w.heap.size w w') : Deep lo w' x r := h.kept (fun k _ hk => hb.block k hk)
theorem Deep.lower {lo lo' : Nat} {w : World} {x : SV} {r : RV} (h : Deep lo w x r) (hl : lo' ≤ lo) : Deep lo' w x r := by
  induction h with
  | mk h0 h1 h2 h3 h3c h3k h3f h4 h4c h4l h4k h4f he ih => exact .mk h0 h1 h2 h3 h3c h3k (h3f.lower hl) h4 h4c h4l h4k (h4f.lower hl) ih
/-- a text -/
def tS (s : ByteArray) : SV := ⟨3, 0, s, [], []⟩
theorem C_nil {α : Type} (d : Kd α) (w : World) (A : Option Addr) : d.C w A 0 [] := ⟨rfl, Nat.zero_le _, fun hp => absurd hp (Nat.lt_irrefl _)⟩
/-- all parts of a value, as the print has them -/
theorem Deep.kS {lo : Nat} {w : World} {x : SV} {r : RV} (h : Deep lo w x r) : kS.K w x r.cs := by
  induction h with
  | @mk x r rs h0 h1 h2 h3 h3c h3k h3f h4 h4c h4l h4k h4f he ih =>
    have hC : Kd.C A.kS w r.B x.f4.length x.f4 := by
      obtain ⟨q1, q2, q3⟩ := h4k
      refine ⟨rfl, by rw [← h4l]; exact q2, fun hp => ?_⟩
      obtain ⟨ad, e, hc⟩ := q3 (by omega)
      refine ⟨ad, e, fun j p hj => ?_⟩
      have hj1 : j < x.f4.length := by
        rcases Nat.lt_or_ge j x.f4.length with q | q
        · exact q
        · rw [List.getElem?_eq_none q] at hj; cases hj
      have hj2 : j < rs.length := by omega
      obtain ⟨cs, ha, hb, hcc⟩ := hc j (rs[j]'hj2) (List.getElem?_eq_getElem hj2)
      have ep : p = x.f4[j]'hj1 := by rw [List.getElem?_eq_getElem hj1] at hj; injection hj with hj; exact hj.symm
      refine ⟨cs, ha, ?_, hcc⟩
      rw [ep, hb]
      exact ih j hj1 hj2
    have := k26_mk w x (c3 := r.ac) (A3 := r.A) (c4 := r.bc) (A4 := r.B) (by omega) h3k (by omega) hC
    unfold RV.cs
    rw [h0, h1, h2, h3, h4]
    exact this
end Go.Proofs.YtiamiagjkfioiaaGreatDoor.A
