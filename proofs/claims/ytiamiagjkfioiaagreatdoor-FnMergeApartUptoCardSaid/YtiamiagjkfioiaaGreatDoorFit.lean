/- Joined texts. -/
import Derived.Test.YtiamiagjkfioiaaGreatDoorTo
/- Plain: values of the document's form, and what a value's cells hold, all its rows in blocks of one kind. -/
namespace Go.Proofs.YtiamiagjkfioiaaGreatDoor.A
set_option linter.unusedVariables false
set_option linter.unusedSimpArgs false
set_option linter.unusedSectionVars false
open Go.RowKit Go.Proofs.YtiamiagjkfioiaaGreatDoorW.PrintWords Go.Proofs.YtiamiagjkfioiaaGreatDoorW.PrintLast Go.Proofs.YtiamiagjkfioiaaGreatDoorW.PrintMore Go.Proofs.YtiamiagjkfioiaaGreatDoor.PT Go.Proofs.YtiamiagjkfioiaaGreatDoor.L Go.Proofs.YtiamiagjkfioiaaGreatDoor.SM

/-- of the document's form -/
inductive FineS : SV → Prop
  | nil : FineS ⟨0, 0, be, [], []⟩
  | bool (b : Bool) : FineS ⟨1, if b then 1 else 0, be, [], []⟩
  | int (i : Int) : FineS ⟨2, i, be, [], []⟩
  | text (s : ByteArray) : FineS ⟨3, 0, s, [], []⟩
  | list {ys : List SV} (hb : ys.length ≤ 1099511627776) (he : ∀ (i : Nat) (h : i < ys.length), FineS (ys[i]'h)) : FineS ⟨4, 0, be, [], ys⟩
  | map {ks : List ByteArray} {ys : List SV} (ha : Ord.Asc id ks) (hl : ys.length = ks.length) (hb : ys.length ≤ 1099511627776) (he : ∀ (i : Nat) (h : i < ys.length), FineS (ys[i]'h)) : FineS ⟨5, 0, be, ks, ys⟩
/-- the thin package's value of it -/
theorem FineS.twin {x : SV} (h : FineS x) : ∃ y, Twin x y ∧ Fine y := by
  have pick : ∀ {ys : List SV}, (∀ (i : Nat) (h : i < ys.length), ∃ y, Twin (ys[i]'h) y ∧ Fine y) → ∃ zs : List IV, zs.length = ys.length ∧ (∀ (i : Nat) (h1 : i < ys.length) (h2 : i < zs.length), Twin (ys[i]'h1) (zs[i]'h2)) ∧ ∀ z ∈ zs, Fine z := by
    intro ys
    induction ys with
    | nil => exact fun _ => ⟨[], rfl, fun i h1 _ => absurd h1 (Nat.not_lt_zero _), fun z hz => absurd hz List.not_mem_nil⟩
    | cons y ys ih =>
      intro h
      obtain ⟨z, hz1, hz2⟩ := h 0 (by simp)
      obtain ⟨zs, hl, ht, hf⟩ := ih (fun i hi => h (i + 1) (by simpa using hi))
      refine ⟨z :: zs, by simp [hl], fun i h1 h2 => ?_, fun q hq => ?_⟩
      · rcases i with _ | i
        · exact hz1
        · exact ht i (by simpa using h1) (by simpa using h2)
      · rcases List.mem_cons.1 hq with rfl | hq
        · exact hz2
        · exact hf q hq
  induction h with
  | nil => exact ⟨⟨0, 0, be, [], []⟩, .mk rfl rfl rfl rfl rfl (Nat.zero_le _) (Nat.zero_le _) (fun i q _ => absurd q (Nat.not_lt_zero _)), .nil⟩
  | bool b => exact ⟨⟨1, if b then 1 else 0, be, [], []⟩, .mk rfl rfl rfl rfl rfl (Nat.zero_le _) (Nat.zero_le _) (fun i q _ => absurd q (Nat.not_lt_zero _)), .bool b⟩
  | int i => exact ⟨⟨2, i, be, [], []⟩, .mk rfl rfl rfl rfl rfl (Nat.zero_le _) (Nat.zero_le _) (fun i q _ => absurd q (Nat.not_lt_zero _)), .int i⟩
  | text s => exact ⟨⟨3, 0, s, [], []⟩, .mk rfl rfl rfl rfl rfl (Nat.zero_le _) (Nat.zero_le _) (fun i q _ => absurd q (Nat.not_lt_zero _)), .text s⟩
  | list hb he ih =>
    obtain ⟨zs, hl, ht, hf⟩ := pick ih
    exact ⟨⟨4, 0, be, [], zs⟩, .mk rfl rfl rfl rfl hl.symm (Nat.zero_le _) hb ht, .list (by rw [hl]; exact hb) hf⟩
  | @map ks ys ha hly hb he ih =>
    obtain ⟨zs, hl, ht, hf⟩ := pick ih
    exact ⟨⟨5, 0, be, ks, zs⟩, .mk rfl rfl rfl rfl hl.symm (by show ks.length ≤ _; omega) hb ht, .map ha (by omega) (by omega) hf⟩
/-- what a value's cells hold; the rows that hold something lie in blocks of a kind -/
inductive DeepP (P : Nat → Prop) (w : World) : SV → RV → Prop
  | mk {x : SV} {r : RV} {rs : List RV} (h0 : r.n0 = x.f0) (h1 : r.n1 = x.f1) (h2 : r.t = x.f2) (h3 : r.an = x.f3.length) (h3c : r.an ≤ r.ac) (h3k : Kd.C Kd.string w r.A x.f3.length x.f3) (h3f : 0 < x.f3.length → ∀ ad, r.A = some ad → P ad.block)
      (h4 : r.bn = x.f4.length) (h4c : r.bn ≤ r.bc) (h4l : rs.length = x.f4.length) (h4k : Kd.C kR w r.B rs.length rs) (h4f : 0 < rs.length → ∀ ad, r.B = some ad → P ad.block)
      (he : ∀ (i : Nat) (q1 : i < x.f4.length) (q2 : i < rs.length), DeepP P w (x.f4[i]'q1) (rs[i]'q2)) : DeepP P w x r
theorem C_lt {α : Type} {d : Kd α} {w : World} {ad : Addr} {n : Nat} {xs : List α} (h : d.C w (some ad) n xs) (hz : 0 < d.sz) (hn : 0 < n) : ad.block < w.heap.size := by
  obtain ⟨h1, h2, h3⟩ := h
  obtain ⟨ad', e, hc⟩ := h3 hn
  injection e with e
  subst e
  obtain ⟨x, hx⟩ : ∃ x, xs[0]? = some x := ⟨xs[0]'(by omega), List.getElem?_eq_getElem (by omega)⟩
  obtain ⟨cs, ha, hb, hcc⟩ := hc 0 x hx
  have h4 := hcc 0 (cs[0]'(by omega)) (List.getElem?_eq_getElem (by omega))
  have h5 := World.block_lt_of_cell? w _ h4
  have hbk : ∀ k, (ad.add k).block = ad.block := fun k => by unfold Addr.add; split <;> rfl
  rw [hbk] at h5
  exact h5
theorem C_keep {α : Type} {d : Kd α} {w w' : World} {A : Option Addr} {n : Nat} {xs : List α} (h : d.C w A n xs) (hK : ∀ x cs, d.K w x cs → d.K w' x cs) (hm : 0 < n → ∀ ad, A = some ad → ad.block < w.heap.size → w'.heap[ad.block]? = w.heap[ad.block]?) : d.C w' A n xs := by
  obtain ⟨h1, h2, h3⟩ := h
  refine ⟨h1, h2, fun hp => ?_⟩
  obtain ⟨ad, e, hc⟩ := h3 hp
  refine ⟨ad, e, fun j p hj => ?_⟩
  obtain ⟨cs, ha, hb, hcc⟩ := hc j p hj
  refine ⟨cs, ha, hK _ _ hb, fun i u hu => ?_⟩
  have h4 := hcc i u hu
  have h5 := World.block_lt_of_cell? w _ h4
  have hbk : (ad.add (j * d.sz + i)).block = ad.block := by unfold Addr.add; split <;> rfl
  rw [hbk] at h5
  have h6 := hm hp ad e h5
  rw [← h4]
  unfold World.cell?
  rw [hbk, h6]
theorem DeepP.kept {P : Nat → Prop} {w w' : World} {x : SV} {r : RV} (h : DeepP P w x r) (hb : ∀ k, P k → k < w.heap.size → w'.heap[k]? = w.heap[k]?) : DeepP P w' x r := by
  induction h with
  | mk h0 h1 h2 h3 h3c h3k h3f h4 h4c h4l h4k h4f he ih =>
    exact .mk h0 h1 h2 h3 h3c (C_keep h3k (fun _ _ q => q) (fun hp ad e hlt => hb _ (h3f hp ad e) hlt)) h3f h4 h4c h4l (C_keep h4k (fun _ _ q => q) (fun hp ad e hlt => hb _ (h4f hp ad e) hlt)) h4f ih
theorem DeepP.below_ {P : Nat → Prop} {w w' : World} {x : SV} {r : RV} (h : DeepP P w x r) (hb : Below w.heap.size w w') : DeepP P w' x r := h.kept (fun k _ hk => hb.block k hk)
theorem DeepP.imp {P Q : Nat → Prop} {w : World} {x : SV} {r : RV} (h : DeepP P w x r) (hl : ∀ k, P k → k < w.heap.size → Q k) : DeepP Q w x r := by
  induction h with
  | @mk x r rs h0 h1 h2 h3 h3c h3k h3f h4 h4c h4l h4k h4f he ih =>
    refine .mk h0 h1 h2 h3 h3c h3k (fun hp ad e => hl _ (h3f hp ad e) ?_) h4 h4c h4l h4k (fun hp ad e => hl _ (h4f hp ad e) ?_) ih
    · rw [e] at h3k; exact C_lt h3k (by decide) hp
    · rw [e] at h4k; exact C_lt h4k (by decide) hp
theorem DeepP.toDeep {P : Nat → Prop} {w : World} {x : SV} {r : RV} (h : DeepP P w x r) : kS.K w x r.cs := by
  induction h with
  | @mk x r rs h0 h1 h2 h3 h3c h3k h3f h4 h4c h4l h4k h4f he ih =>
    have hC : Kd.C A.kS w r.B x.f4.length x.f4 := by
      obtain ⟨q1, q2, q3⟩ := h4k
      refine ⟨rfl, by rw [← h4l]; exact q2, fun hp => ?_⟩
      obtain ⟨ad, e, hc⟩ := q3 (by omega)
      refine ⟨ad, e, fun j p hj => ?_⟩
      have hj1 : j < x.f4.length := by
        rcases Nat.lt_or_ge j x.f4.length with q | q
        · exact q
        · rw [List.getElem?_eq_none q] at hj; cases hj
      have hj2 : j < rs.length := by omega
      obtain ⟨cs, ha, hb, hcc⟩ := hc j (rs[j]'hj2) (List.getElem?_eq_getElem hj2)
      have ep : p = x.f4[j]'hj1 := by rw [List.getElem?_eq_getElem hj1] at hj; injection hj with hj; exact hj.symm
      refine ⟨cs, ha, ?_, hcc⟩
      rw [ep, hb]
      exact ih j hj1 hj2
    have := k26_mk w x (c3 := r.ac) (A3 := r.A) (c4 := r.bc) (A4 := r.B) (by omega) h3k (by omega) hC
    unfold RV.cs
    rw [h0, h1, h2, h3, h4]
    exact this
theorem DeepP.parts {P : Nat → Prop} {w : World} {x : SV} {r : RV} (h : DeepP P w x r) : MadeS x w r.val := by
  cases h with
  | @mk _ _ rs h0 h1 h2 h3 h3c h3k h3f h4 h4c h4l h4k h4f he =>
    have hC : Kd.C A.kS w r.B x.f4.length x.f4 := by
      obtain ⟨q1, q2, q3⟩ := h4k
      refine ⟨rfl, by rw [← h4l]; exact q2, fun hp => ?_⟩
      obtain ⟨ad, e, hc⟩ := q3 (by omega)
      refine ⟨ad, e, fun j p hj => ?_⟩
      have hj1 : j < x.f4.length := by
        rcases Nat.lt_or_ge j x.f4.length with q | q
        · exact q
        · rw [List.getElem?_eq_none q] at hj; cases hj
      have hj2 : j < rs.length := by omega
      obtain ⟨cs, ha, hb, hcc⟩ := hc j (rs[j]'hj2) (List.getElem?_eq_getElem hj2)
      have ep : p = x.f4[j]'hj1 := by rw [List.getElem?_eq_getElem hj1] at hj; injection hj with hj; exact hj.symm
      refine ⟨cs, ha, ?_, hcc⟩
      rw [ep, hb]
      exact (he j hj1 hj2).toDeep
    refine ⟨r.A, r.ac, r.B, r.bc, ?_, by omega, h3k, by omega, hC⟩
    unfold RV.val cellsS
    rw [h0, h1, h2, h3, h4]
theorem deepP_flat (P : Nat → Prop) (w : World) (a b : Int) (s : ByteArray) : DeepP P w ⟨a, b, s, [], []⟩ ⟨a, b, s, none, 0, 0, none, 0, 0⟩ := .mk (rs := []) rfl rfl rfl rfl (Nat.le_refl _) (C_nil _ _ _) (fun h => absurd h (Nat.lt_irrefl _)) rfl (Nat.le_refl _) rfl (C_nil _ _ _) (fun h => absurd h (Nat.lt_irrefl _)) (fun i q1 _ => by cases q1)
/-! ### how much a value holds -/
def wt : SV → Nat
  | ⟨_, _, s, ks, vs⟩ => 1 + s.size + (ks.map (fun k => k.size + 1)).sum + (vs.attach.map (fun v => wt v.1)).sum
termination_by x => SizeOf.sizeOf x
decreasing_by
  have := List.sizeOf_lt_of_mem v.2
  simp only [S26.mk.sizeOf_spec]
  omega
def ksum (ks : List ByteArray) : Nat := (ks.map (fun k => k.size + 1)).sum
theorem wt_eq (x : SV) : wt x = 1 + x.f2.size + ksum x.f3 + (x.f4.map wt).sum := by
  cases x with
  | mk a b s ks vs => rw [wt]; simp [ksum, List.attach_map_val]
theorem ksum_append (a b : List ByteArray) : ksum (a ++ b) = ksum a + ksum b := by simp [ksum]
theorem be_size : (be : ByteArray).size = 0 := rfl
theorem wt_flat {x : SV} {a b : Int} {s : ByteArray} (h : s = x.f2 ∨ s = be) : wt ⟨a, b, s, [], []⟩ ≤ wt x := by
  have e : wt ⟨a, b, s, [], []⟩ = 1 + s.size := wt_eq _
  rw [e, wt_eq x]
  rcases h with rfl | rfl
  · omega
  · rw [be_size]; omega
theorem wt_list {x : SV} {ys : List SV} (h : (ys.map wt).sum ≤ (x.f4.map wt).sum) : wt ⟨4, 0, be, [], ys⟩ ≤ wt x := by
  have e : wt ⟨4, 0, be, [], ys⟩ = 1 + (be : ByteArray).size + 0 + (ys.map wt).sum := wt_eq _
  rw [e, wt_eq x, be_size]
  omega
theorem take_sum (l : List Nat) (i : Nat) : (l.take i).sum ≤ l.sum := by
  have := congrArg List.sum (List.take_append_drop i l)
  rw [List.sum_append] at this
  omega
theorem wt_map {x : SV} {ks : List ByteArray} {ys : List SV} {i : Nat} (h : ksum ks + (ys.map wt).sum ≤ ksum (x.f3.take i) + ((x.f4.take i).map wt).sum) : wt ⟨5, 0, be, ks, ys⟩ ≤ wt x := by
  rw [wt_eq, wt_eq x]
  have h1 : ksum (x.f3.take i) ≤ ksum x.f3 := by unfold ksum; rw [List.map_take]; exact take_sum _ _
  have h2 : ((x.f4.take i).map wt).sum ≤ (x.f4.map wt).sum := by rw [List.map_take]; exact take_sum _ _
  show 1 + (be : ByteArray).size + ksum ks + (ys.map wt).sum ≤ _
  rw [be_size]
  omega
/-! ### spec.With, side by side on values and their cells -/
def withL {α : Type} (key : ByteArray) (ks : List ByteArray) (vs : List α) (x : α) : List α := if placeB key ks then vs.set (placeN key ks) x else vs.take (placeN key ks) ++ x :: vs.drop (placeN key ks)
theorem withL_RV (key : ByteArray) (ks : List ByteArray) (vs : List RV) (x : RV) : withVs key ks vs x = withL key ks vs x := rfl
def All2 {α β : Type} (R : α → β → Prop) (xs : List α) (ys : List β) : Prop := xs.length = ys.length ∧ ∀ (i : Nat) (h1 : i < xs.length) (h2 : i < ys.length), R (xs[i]'h1) (ys[i]'h2)
theorem All2.imp {α β : Type} {R R' : α → β → Prop} {xs : List α} {ys : List β} (h : All2 R xs ys) (hi : ∀ x y, R x y → R' x y) : All2 R' xs ys := ⟨h.1, fun i h1 h2 => hi _ _ (h.2 i h1 h2)⟩
theorem All2.snoc {α β : Type} {R : α → β → Prop} {xs : List α} {ys : List β} {x : α} {y : β} (h : All2 R xs ys) (hx : R x y) : All2 R (xs ++ [x]) (ys ++ [y]) := by
  refine ⟨by simp [h.1], fun i h1 h2 => ?_⟩
  rcases Nat.lt_or_ge i xs.length with q | q
  · rw [List.getElem_append_left q, List.getElem_append_left (by rw [← h.1]; exact q)]
    exact h.2 i q _
  · have e : i = xs.length := by simp at h1; omega
    subst e
    have e2 : (ys ++ [y])[xs.length]'h2 = y := by
      rw [List.getElem_append_right (by rw [h.1]; exact Nat.le_refl _)]; simp [h.1]
    rw [e2]
    simpa using hx
theorem All2.withL {α β : Type} {R : α → β → Prop} {xs : List α} {ys : List β} {x : α} {y : β} (key : ByteArray) (ks : List ByteArray) (h : All2 R xs ys) (hx : R x y) : All2 R (withL key ks xs x) (withL key ks ys y) := by
  unfold A.withL
  split
  · refine ⟨by simp [h.1], fun i h1 h2 => ?_⟩
    rw [List.length_set] at h1 h2
    by_cases e : placeN key ks = i
    · subst e; simpa using hx
    · rw [List.getElem_set_ne e, List.getElem_set_ne e]; exact h.2 i h1 h2
  · generalize placeN key ks = n
    refine ⟨by simp [h.1], fun i h1 h2 => ?_⟩
    have hl := h.1
    have key' : ∀ {γ : Type} (l : List γ) (z : γ) (i : Nat) (hi : i < (l.take n ++ z :: l.drop n).length), (l.take n ++ z :: l.drop n)[i]? = if i < min n l.length then l[i]? else if i = min n l.length then some z else l[i - 1]? := by
      intro γ l z i hi
      by_cases c1 : i < min n l.length
      · rw [if_pos c1, List.getElem?_append_left (by simp; omega), List.getElem?_take, if_pos (by omega)]
      · rw [if_neg c1, List.getElem?_append_right (by simp; omega), List.length_take]
        by_cases c2 : i = min n l.length
        · rw [if_pos c2, c2]; simp
        · rw [if_neg c2]
          obtain ⟨q, hq⟩ : ∃ q, i - min n l.length = q + 1 := ⟨i - min n l.length - 1, by omega⟩
          rw [hq, List.getElem?_cons_succ, List.getElem?_drop]
          simp at hi
          congr 1
          omega
    have a1 := key' xs x i h1
    have a2 := key' ys y i h2
    rw [List.getElem?_eq_getElem h1] at a1
    rw [List.getElem?_eq_getElem h2] at a2
    rw [hl] at a1
    by_cases c1 : i < min n ys.length
    · rw [if_pos c1, List.getElem?_eq_getElem (by omega)] at a1
      rw [if_pos c1, List.getElem?_eq_getElem (by omega)] at a2
      injection a1 with a1
      injection a2 with a2
      rw [a1, a2]
      exact h.2 i _ _
    · by_cases c2 : i = min n ys.length
      · rw [if_neg c1, if_pos c2] at a1 a2
        injection a1 with a1
        injection a2 with a2
        rw [a1, a2]
        exact hx
      · have h3 : i - 1 < ys.length := by simp at h2; omega
        rw [if_neg c1, if_neg c2, List.getElem?_eq_getElem (by omega)] at a1
        rw [if_neg c1, if_neg c2, List.getElem?_eq_getElem h3] at a2
        injection a1 with a1
        injection a2 with a2
        rw [a1, a2]
        exact h.2 _ _ _
theorem split_sum (l : List Nat) (n : Nat) : (l.take n).sum + (l.drop n).sum = l.sum := by rw [← List.sum_append, List.take_append_drop]
theorem ksum_with (key : ByteArray) (ks : List ByteArray) : ksum (withKs key ks) ≤ ksum ks + (key.size + 1) := by
  unfold withKs
  split
  · omega
  · rw [ksum_append]
    have h1 := split_sum (ks.map (fun k => k.size + 1)) (placeN key ks)
    have h2 : ksum (key :: ks.drop (placeN key ks)) = (key.size + 1) + ksum (ks.drop (placeN key ks)) := by simp [ksum]
    rw [h2]
    unfold ksum
    rw [List.map_take, List.map_drop]
    omega
theorem set_sum : ∀ (l : List Nat) (i : Nat) (x : Nat), (l.set i x).sum ≤ l.sum + x
  | [], i, x => by simp
  | a :: l, 0, x => by simp; omega
  | a :: l, i + 1, x => by have := set_sum l i x; simp; omega
theorem wsum_with (key : ByteArray) (ks : List ByteArray) (ys : List SV) (z : SV) : ((withL key ks ys z).map wt).sum ≤ (ys.map wt).sum + wt z := by
  unfold A.withL
  split
  · rw [List.map_set]; exact set_sum _ _ _
  · rw [List.map_append, List.map_cons, List.sum_append, List.sum_cons]
    have h1 := split_sum (ys.map wt) (placeN key ks)
    rw [← List.map_take, ← List.map_drop] at h1
    omega
theorem withKs_mem {key : ByteArray} : ∀ {ks : List ByteArray} {k : ByteArray}, k ∈ withKs key ks → k = key ∨ k ∈ ks := by
  intro ks k h
  unfold withKs at h
  split at h
  · exact .inr h
  · rcases List.mem_append.1 h with h | h
    · exact .inr (List.mem_of_mem_take h)
    · rcases List.mem_cons.1 h with h | h
      · exact .inl h
      · exact .inr (List.mem_of_mem_drop h)
theorem withKs_cons (key y : ByteArray) (l : List ByteArray) : withKs key (y :: l) = if Op.bytesLess y.toList key.toList then y :: withKs key l else if y.toList = key.toList then y :: l else key :: y :: l := by
  unfold withKs
  by_cases c : Op.bytesLess y.toList key.toList = true
  · simp only [placeB, placeN, c, if_true]
    split <;> simp
  · simp only [placeB, placeN, c, if_false, Bool.false_eq_true]
    by_cases e : y.toList = key.toList
    · simp [e]
    · have : (y.toList == key.toList) = false := by simpa using e
      simp [this, e]
theorem withKs_asc {key : ByteArray} : ∀ {ks : List ByteArray}, Ord.Asc id ks → Ord.Asc id (withKs key ks)
  | [], _ => by unfold withKs; simp [placeB, placeN, Ord.Asc]
  | y :: l, h => by
    have h1 := (List.pairwise_cons.1 h).1
    have h2 := (List.pairwise_cons.1 h).2
    rw [withKs_cons]
    split
    · rename_i c
      refine List.pairwise_cons.2 ⟨fun k hk => ?_, withKs_asc (key := key) (ks := l) h2⟩
      rcases withKs_mem hk with rfl | hk
      · exact c
      · exact h1 k hk
    · rename_i c
      split
      · exact h
      · rename_i e
        have hlt : Ord.lt key y = true := by
          cases hq : Ord.lt key y with
          | true => rfl
          | false =>
            have hc : Ord.lt y key = false := by unfold Ord.lt; simpa using c
            exact absurd (congrArg ByteArray.toList (Ord.lt_tri hc hq)) e
        refine List.pairwise_cons.2 ⟨fun k hk => ?_, h⟩
        rcases List.mem_cons.1 hk with rfl | hk
        · exact hlt
        · exact Ord.lt_trans hlt (h1 k hk)
end Go.Proofs.YtiamiagjkfioiaaGreatDoor.A
/- The walk of spec.Fit, of every value (printed by gen_fit.py). -/
namespace Go.Proofs.YtiamiagjkfioiaaGreatDoor.A
set_option linter.unusedVariables false
set_option linter.unusedSimpArgs false
set_option linter.unusedSectionVars false
open Go.RowKit Go.Proofs.YtiamiagjkfioiaaGreatDoorW.PrintWords Go.Proofs.YtiamiagjkfioiaaGreatDoorW.PrintLast Go.Proofs.YtiamiagjkfioiaaGreatDoorW.PrintMore Go.Proofs.YtiamiagjkfioiaaGreatDoor.PT Go.Proofs.YtiamiagjkfioiaaGreatDoor.L Go.Proofs.YtiamiagjkfioiaaGreatDoor.SM

def FitSays (x : SV) (w : World) (e : Ending) (w' : World) : Prop := ∃ (y : SV) (r : RV), e = .returned r.val ∧ FineS y ∧ wt y ≤ wt x ∧ DeepP (fun k => w.heap.size ≤ k) w' y r ∧ Below w.heap.size w w'
def FitC (x : SV) (w : World) : Prop := ∀ v, MadeS x w v → Calls Tryz.prog 18 #[v] w (FitSays x w)
theorem FitC.use {x : SV} {w : World} (h : FitC x w) (A3 : Option Addr) (c3 : Nat) (A4 : Option Addr) (c4 : Nat) (h3 : x.f3.length ≤ c3) (g3 : Kd.C Kd.string w A3 x.f3.length x.f3) (h4 : x.f4.length ≤ c4) (g4 : Kd.C kS w A4 x.f4.length x.f4) : Calls Tryz.prog 18 #[cellsS x A3 c3 A4 c4] w (FitSays x w) := h _ ⟨A3, c3, A4, c4, rfl, h3, g3, h4, g4⟩
theorem Bnd.here {x : SV} (h : Bnd x) : x.f3.length ≤ 1099511627776 ∧ x.f4.length ≤ 1099511627776 := by cases h with | mk a b c => exact ⟨a, b⟩
theorem Bnd.sub {x : SV} (h : Bnd x) (i : Nat) (q : i < x.f4.length) : Bnd (x.f4[i]'q) := by cases h with | mk a b c => exact c i q
theorem spec_B (b : Bool) (w : World) : Calls Tryz.prog 36 #[.bool b] w fun e w' => e = .returned (.agg #[.int .i64 1, .int .i64 (if b then 1 else 0), .string ⟨#[]⟩, .slice none 0 0, .slice none 0 0]) ∧ Below w.heap.size w w' := by
  cases b
  · go_enter Tryz.func36, Tryz.ntmps36
    go_wp2
    refine bodyPost_ret (v := .agg #[.int .i64 1, .int .i64 0, .string ⟨#[]⟩, .slice none 0 0, .slice none 0 0]) (by simp [results, Tryz.results36, go_sem]) rfl ?_
    exact ⟨rfl, (Below.refl _ _).alloc (Nat.le_refl _) _⟩
  · go_enter Tryz.func36, Tryz.ntmps36
    go_wp2
    refine bodyPost_ret (v := .agg #[.int .i64 1, .int .i64 1, .string ⟨#[]⟩, .slice none 0 0, .slice none 0 0]) (by simp [results, Tryz.results36, go_sem]) rfl ?_
    exact ⟨rfl, (Below.refl _ _).alloc (Nat.le_refl _) _⟩
theorem spec_N (i : Int) (w : World) : Calls Tryz.prog 37 #[.int .i64 i] w fun e w' => e = .returned (.agg #[.int .i64 2, .int .i64 i, .string ⟨#[]⟩, .slice none 0 0, .slice none 0 0]) ∧ Below w.heap.size w w' := by
  go_enter Tryz.func37, Tryz.ntmps37
  go_wp2
  refine bodyPost_ret (v := .agg #[.int .i64 2, .int .i64 i, .string ⟨#[]⟩, .slice none 0 0, .slice none 0 0]) (by simp [results, Tryz.results37, go_sem]) rfl ?_
  exact ⟨rfl, (Below.refl _ _).alloc (Nat.le_refl _) _⟩
theorem spec_Tx (s : ByteArray) (w : World) : Calls Tryz.prog 26 #[.string s] w fun e w' => e = .returned (.agg #[.int .i64 3, .int .i64 0, .string s, .slice none 0 0, .slice none 0 0]) ∧ Below w.heap.size w w' := L.spec_T s w
set_option maxHeartbeats 8000000 in
set_option maxRecDepth 100000 in
theorem fit_flat (x : SV) (h45 : ¬ x.f0 = 4 ∧ ¬ x.f0 = 5) (w : World) : FitC x w := by
  rintro v ⟨A3, c3, A4, c4, rfl, h3, g3, h4, g4⟩
  obtain ⟨h4', h5'⟩ := h45
  unfold cellsS
  by_cases h1 : x.f0 = 1
  · rw [h1]
    clear h1 h4' h5' h3 g3 h4 g4
    obtain ⟨b, q, hq, hbt⟩ : ∃ (b : Bool) (q : Int), q = (if b then 1 else 0) ∧ ∀ u, Calls Tryz.prog 36 #[.bool (x.f1 != 0)] u fun e w' => e = .returned (.agg #[.int .i64 1, .int .i64 q, .string ⟨#[]⟩, .slice none 0 0, .slice none 0 0]) ∧ Below u.heap.size u w' := ⟨x.f1 != 0, _, rfl, fun u => spec_B _ u⟩
    have HBT := Lib.hid hbt
    have HQ := Lib.hid hq
    clear hbt hq
    obtain ⟨W0, hW0⟩ : ∃ W0 : World, W0 = (w.alloc (Obj.cells #[.int .i64 1, .int .i64 x.f1, .string x.f2, .slice A3 x.f3.length c3, .slice A4 x.f4.length c4] 26)).alloc (Obj.cells #[.int .i64 0, .int .i64 0, .string ⟨#[]⟩, .slice none 0 0, .slice none 0 0] 26) := ⟨_, rfl⟩
    have hb0 : Below w.heap.size w W0 := by rw [hW0]; exact ((Below.refl _ _).alloc (Nat.le_refl _) _).alloc (by simp) _
    have hbx : W0.heap[w.heap.size]? = some (.cells #[.int .i64 1, .int .i64 x.f1, .string x.f2, .slice A3 x.f3.length c3, .slice A4 x.f4.length c4] 26 (0, 0)) := by rw [hW0]; exact heap_oldI (new_atI rfl)
    have hre : W0.heap[w.heap.size + 1]? = some (.cells zV 26 (0, 0)) := by rw [hW0]; exact new_atI (by simp)
    have HS0 : Hid (W0.heap.size = w.heap.size + 2) := Lib.hid (by rw [hW0]; simp)
    have HB0 := Aside0.mk hb0
    have HBX := Aside0.mk hbx
    have HRE := Aside0.mk hre
    have HW0 := Lib.hid hW0
    have m0 : W0.cell? ⟨w.heap.size, 0, none⟩ = some (.int .i64 1) := (blk_cell hbx 0).trans rfl
    have m1 : W0.cell? ⟨w.heap.size, 1, none⟩ = some (.int .i64 x.f1) := (blk_cell hbx 1).trans rfl
    have m2 : W0.cell? ⟨w.heap.size, 2, none⟩ = some (.string x.f2) := (blk_cell hbx 2).trans rfl
    have m3 : W0.cell? ⟨w.heap.size, 3, none⟩ = some (.slice A3 x.f3.length c3) := (blk_cell hbx 3).trans rfl
    have m4 : W0.cell? ⟨w.heap.size, 4, none⟩ = some (.slice A4 x.f4.length c4) := (blk_cell hbx 4).trans rfl
    clear hb0 hbx hre hW0
    go_enter Tryz.func18, Tryz.ntmps18
    go_upto_region 1 with fail
    rw [← HW0.out]
    go_wp2_with fail
    refine (HBT.out _).mono ?_
    clear m0 m1 m2 m3 m4
    rintro e w1 ⟨rfl, hb1⟩
    have HB1 := Aside0.mk (HB0.out.trans (hb1.mono HB0.out.size))
    have hr1 := blk_below HRE.out hb1
    have n0 : w1.cell? ⟨w.heap.size + 1, 0, none⟩ = some (.int .i64 0) := (blk_cell hr1 0).trans rfl
    have n1 : w1.cell? ⟨w.heap.size + 1, 1, none⟩ = some (.int .i64 0) := (blk_cell hr1 1).trans rfl
    have n2 : w1.cell? ⟨w.heap.size + 1, 2, none⟩ = some (.string ⟨#[]⟩) := (blk_cell hr1 2).trans rfl
    have n3 : w1.cell? ⟨w.heap.size + 1, 3, none⟩ = some (.slice none 0 0) := (blk_cell hr1 3).trans rfl
    have n4 : w1.cell? ⟨w.heap.size + 1, 4, none⟩ = some (.slice none 0 0) := (blk_cell hr1 4).trans rfl
    have f0 := blk_frozen hr1 0
    have f1 := blk_frozen hr1 1
    have f2 := blk_frozen hr1 2
    have f3 := blk_frozen hr1 3
    have f4 := blk_frozen hr1 4
    clear hr1 hb1
    go_wp2
    refine bodyPost_ret (v := .agg #[.int .i64 (1), .int .i64 (q), .string (be), .slice none 0 0, .slice none 0 0]) (by simp [results, Tryz.results18, go_sem, *]) rfl ?_
    exact ⟨⟨1, q, be, [], []⟩, ⟨1, q, be, none, 0, 0, none, 0, 0⟩, rfl, (by rw [HQ.out]; exact FineS.bool b), wt_flat (.inr rfl), deepP_flat _ _ _ _ _, below5 HB1.out _ (Nat.le_succ _) _ _ _ _ _⟩
  by_cases h2 : x.f0 = 2
  · rw [h2]
    clear h1 h2 h4' h5' h3 g3 h4 g4
    obtain ⟨W0, hW0⟩ : ∃ W0 : World, W0 = (w.alloc (Obj.cells #[.int .i64 2, .int .i64 x.f1, .string x.f2, .slice A3 x.f3.length c3, .slice A4 x.f4.length c4] 26)).alloc (Obj.cells #[.int .i64 0, .int .i64 0, .string ⟨#[]⟩, .slice none 0 0, .slice none 0 0] 26) := ⟨_, rfl⟩
    have hb0 : Below w.heap.size w W0 := by rw [hW0]; exact ((Below.refl _ _).alloc (Nat.le_refl _) _).alloc (by simp) _
    have hbx : W0.heap[w.heap.size]? = some (.cells #[.int .i64 2, .int .i64 x.f1, .string x.f2, .slice A3 x.f3.length c3, .slice A4 x.f4.length c4] 26 (0, 0)) := by rw [hW0]; exact heap_oldI (new_atI rfl)
    have hre : W0.heap[w.heap.size + 1]? = some (.cells zV 26 (0, 0)) := by rw [hW0]; exact new_atI (by simp)
    have HS0 : Hid (W0.heap.size = w.heap.size + 2) := Lib.hid (by rw [hW0]; simp)
    have HB0 := Aside0.mk hb0
    have HBX := Aside0.mk hbx
    have HRE := Aside0.mk hre
    have HW0 := Lib.hid hW0
    have m0 : W0.cell? ⟨w.heap.size, 0, none⟩ = some (.int .i64 2) := (blk_cell hbx 0).trans rfl
    have m1 : W0.cell? ⟨w.heap.size, 1, none⟩ = some (.int .i64 x.f1) := (blk_cell hbx 1).trans rfl
    have m2 : W0.cell? ⟨w.heap.size, 2, none⟩ = some (.string x.f2) := (blk_cell hbx 2).trans rfl
    have m3 : W0.cell? ⟨w.heap.size, 3, none⟩ = some (.slice A3 x.f3.length c3) := (blk_cell hbx 3).trans rfl
    have m4 : W0.cell? ⟨w.heap.size, 4, none⟩ = some (.slice A4 x.f4.length c4) := (blk_cell hbx 4).trans rfl
    clear hb0 hbx hre hW0
    go_enter Tryz.func18, Tryz.ntmps18
    go_upto_region 1 with fail
    rw [← HW0.out]
    go_wp2_with fail
    refine (spec_N x.f1 _).mono ?_
    clear m0 m1 m2 m3 m4
    rintro e w1 ⟨rfl, hb1⟩
    have HB1 := Aside0.mk (HB0.out.trans (hb1.mono HB0.out.size))
    have hr1 := blk_below HRE.out hb1
    have n0 : w1.cell? ⟨w.heap.size + 1, 0, none⟩ = some (.int .i64 0) := (blk_cell hr1 0).trans rfl
    have n1 : w1.cell? ⟨w.heap.size + 1, 1, none⟩ = some (.int .i64 0) := (blk_cell hr1 1).trans rfl
    have n2 : w1.cell? ⟨w.heap.size + 1, 2, none⟩ = some (.string ⟨#[]⟩) := (blk_cell hr1 2).trans rfl
    have n3 : w1.cell? ⟨w.heap.size + 1, 3, none⟩ = some (.slice none 0 0) := (blk_cell hr1 3).trans rfl
    have n4 : w1.cell? ⟨w.heap.size + 1, 4, none⟩ = some (.slice none 0 0) := (blk_cell hr1 4).trans rfl
    have f0 := blk_frozen hr1 0
    have f1 := blk_frozen hr1 1
    have f2 := blk_frozen hr1 2
    have f3 := blk_frozen hr1 3
    have f4 := blk_frozen hr1 4
    clear hr1 hb1
    go_wp2
    refine bodyPost_ret (v := .agg #[.int .i64 (2), .int .i64 (x.f1), .string (be), .slice none 0 0, .slice none 0 0]) (by simp [results, Tryz.results18, go_sem, *]) rfl ?_
    exact ⟨⟨2, x.f1, be, [], []⟩, ⟨2, x.f1, be, none, 0, 0, none, 0, 0⟩, rfl, FineS.int x.f1, wt_flat (.inr rfl), deepP_flat _ _ _ _ _, below5 HB1.out _ (Nat.le_succ _) _ _ _ _ _⟩
  by_cases h3' : x.f0 = 3
  · rw [h3']
    clear h1 h2 h3' h4' h5' h3 g3 h4 g4
    obtain ⟨W0, hW0⟩ : ∃ W0 : World, W0 = (w.alloc (Obj.cells #[.int .i64 3, .int .i64 x.f1, .string x.f2, .slice A3 x.f3.length c3, .slice A4 x.f4.length c4] 26)).alloc (Obj.cells #[.int .i64 0, .int .i64 0, .string ⟨#[]⟩, .slice none 0 0, .slice none 0 0] 26) := ⟨_, rfl⟩
    have hb0 : Below w.heap.size w W0 := by rw [hW0]; exact ((Below.refl _ _).alloc (Nat.le_refl _) _).alloc (by simp) _
    have hbx : W0.heap[w.heap.size]? = some (.cells #[.int .i64 3, .int .i64 x.f1, .string x.f2, .slice A3 x.f3.length c3, .slice A4 x.f4.length c4] 26 (0, 0)) := by rw [hW0]; exact heap_oldI (new_atI rfl)
    have hre : W0.heap[w.heap.size + 1]? = some (.cells zV 26 (0, 0)) := by rw [hW0]; exact new_atI (by simp)
    have HS0 : Hid (W0.heap.size = w.heap.size + 2) := Lib.hid (by rw [hW0]; simp)
    have HB0 := Aside0.mk hb0
    have HBX := Aside0.mk hbx
    have HRE := Aside0.mk hre
    have HW0 := Lib.hid hW0
    have m0 : W0.cell? ⟨w.heap.size, 0, none⟩ = some (.int .i64 3) := (blk_cell hbx 0).trans rfl
    have m1 : W0.cell? ⟨w.heap.size, 1, none⟩ = some (.int .i64 x.f1) := (blk_cell hbx 1).trans rfl
    have m2 : W0.cell? ⟨w.heap.size, 2, none⟩ = some (.string x.f2) := (blk_cell hbx 2).trans rfl
    have m3 : W0.cell? ⟨w.heap.size, 3, none⟩ = some (.slice A3 x.f3.length c3) := (blk_cell hbx 3).trans rfl
    have m4 : W0.cell? ⟨w.heap.size, 4, none⟩ = some (.slice A4 x.f4.length c4) := (blk_cell hbx 4).trans rfl
    clear hb0 hbx hre hW0
    go_enter Tryz.func18, Tryz.ntmps18
    go_upto_region 1 with fail
    rw [← HW0.out]
    go_wp2_with fail
    refine (spec_Tx x.f2 _).mono ?_
    clear m0 m1 m2 m3 m4
    rintro e w1 ⟨rfl, hb1⟩
    have HB1 := Aside0.mk (HB0.out.trans (hb1.mono HB0.out.size))
    have hr1 := blk_below HRE.out hb1
    have n0 : w1.cell? ⟨w.heap.size + 1, 0, none⟩ = some (.int .i64 0) := (blk_cell hr1 0).trans rfl
    have n1 : w1.cell? ⟨w.heap.size + 1, 1, none⟩ = some (.int .i64 0) := (blk_cell hr1 1).trans rfl
    have n2 : w1.cell? ⟨w.heap.size + 1, 2, none⟩ = some (.string ⟨#[]⟩) := (blk_cell hr1 2).trans rfl
    have n3 : w1.cell? ⟨w.heap.size + 1, 3, none⟩ = some (.slice none 0 0) := (blk_cell hr1 3).trans rfl
    have n4 : w1.cell? ⟨w.heap.size + 1, 4, none⟩ = some (.slice none 0 0) := (blk_cell hr1 4).trans rfl
    have f0 := blk_frozen hr1 0
    have f1 := blk_frozen hr1 1
    have f2 := blk_frozen hr1 2
    have f3 := blk_frozen hr1 3
    have f4 := blk_frozen hr1 4
    clear hr1 hb1
    go_wp2
    refine bodyPost_ret (v := .agg #[.int .i64 (3), .int .i64 (0), .string (x.f2), .slice none 0 0, .slice none 0 0]) (by simp [results, Tryz.results18, go_sem, *]) rfl ?_
    exact ⟨⟨3, 0, x.f2, [], []⟩, ⟨3, 0, x.f2, none, 0, 0, none, 0, 0⟩, rfl, FineS.text x.f2, wt_flat (.inl rfl), deepP_flat _ _ _ _ _, below5 HB1.out _ (Nat.le_succ _) _ _ _ _ _⟩
  · have e1 : (x.f0 == 1) = false := by simpa using h1
    have e2 : (x.f0 == 2) = false := by simpa using h2
    have e3 : (x.f0 == 3) = false := by simpa using h3'
    have e4 : (x.f0 == 4) = false := by simpa using h4'
    have e5 : (x.f0 == 5) = false := by simpa using h5'
    clear h1 h2 h3' h4' h5' h3 g3 h4 g4
    obtain ⟨W0, hW0⟩ : ∃ W0 : World, W0 = (w.alloc (Obj.cells #[.int .i64 x.f0, .int .i64 x.f1, .string x.f2, .slice A3 x.f3.length c3, .slice A4 x.f4.length c4] 26)).alloc (Obj.cells #[.int .i64 0, .int .i64 0, .string ⟨#[]⟩, .slice none 0 0, .slice none 0 0] 26) := ⟨_, rfl⟩
    have hb0 : Below w.heap.size w W0 := by rw [hW0]; exact ((Below.refl _ _).alloc (Nat.le_refl _) _).alloc (by simp) _
    have hbx : W0.heap[w.heap.size]? = some (.cells #[.int .i64 x.f0, .int .i64 x.f1, .string x.f2, .slice A3 x.f3.length c3, .slice A4 x.f4.length c4] 26 (0, 0)) := by rw [hW0]; exact heap_oldI (new_atI rfl)
    have hre : W0.heap[w.heap.size + 1]? = some (.cells zV 26 (0, 0)) := by rw [hW0]; exact new_atI (by simp)
    have HS0 : Hid (W0.heap.size = w.heap.size + 2) := Lib.hid (by rw [hW0]; simp)
    have HB0 := Aside0.mk hb0
    have HBX := Aside0.mk hbx
    have HRE := Aside0.mk hre
    have HW0 := Lib.hid hW0
    have m0 : W0.cell? ⟨w.heap.size, 0, none⟩ = some (.int .i64 x.f0) := (blk_cell hbx 0).trans rfl
    have m1 : W0.cell? ⟨w.heap.size, 1, none⟩ = some (.int .i64 x.f1) := (blk_cell hbx 1).trans rfl
    have m2 : W0.cell? ⟨w.heap.size, 2, none⟩ = some (.string x.f2) := (blk_cell hbx 2).trans rfl
    have m3 : W0.cell? ⟨w.heap.size, 3, none⟩ = some (.slice A3 x.f3.length c3) := (blk_cell hbx 3).trans rfl
    have m4 : W0.cell? ⟨w.heap.size, 4, none⟩ = some (.slice A4 x.f4.length c4) := (blk_cell hbx 4).trans rfl
    clear hb0 hbx hre hW0
    go_enter Tryz.func18, Tryz.ntmps18
    go_upto_region 1 with fail
    rw [← HW0.out]
    have hr1 := HRE.out
    have n0 : W0.cell? ⟨w.heap.size + 1, 0, none⟩ = some (.int .i64 0) := (blk_cell hr1 0).trans rfl
    have n1 : W0.cell? ⟨w.heap.size + 1, 1, none⟩ = some (.int .i64 0) := (blk_cell hr1 1).trans rfl
    have n2 : W0.cell? ⟨w.heap.size + 1, 2, none⟩ = some (.string ⟨#[]⟩) := (blk_cell hr1 2).trans rfl
    have n3 : W0.cell? ⟨w.heap.size + 1, 3, none⟩ = some (.slice none 0 0) := (blk_cell hr1 3).trans rfl
    have n4 : W0.cell? ⟨w.heap.size + 1, 4, none⟩ = some (.slice none 0 0) := (blk_cell hr1 4).trans rfl
    have f0 := blk_frozen hr1 0
    have f1 := blk_frozen hr1 1
    have f2 := blk_frozen hr1 2
    have f3 := blk_frozen hr1 3
    have f4 := blk_frozen hr1 4
    clear hr1
    go_wp2
    refine bodyPost_ret (v := .agg zV) (by simp [results, Tryz.results18, go_sem, *]) rfl ?_
    exact ⟨⟨0, 0, be, [], []⟩, RV.zero, rfl, .nil, wt_flat (.inr rfl), deepP_flat _ _ _ _ _, by first | exact HB0.out | exact below5 HB0.out _ (Nat.le_succ _) _ _ _ _ _⟩
end Go.Proofs.YtiamiagjkfioiaaGreatDoor.A
