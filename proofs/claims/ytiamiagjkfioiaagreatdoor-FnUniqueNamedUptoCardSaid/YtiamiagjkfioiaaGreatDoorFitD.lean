/- Plain: values of the document's form, and what a value's cells hold, all its rows in blocks of one kind. -/
import Derived.Test.YtiamiagjkfioiaaGreatDoorTo
namespace Go.Proofs.YtiamiagjkfioiaaGreatDoor.A
set_option linter.unusedVariables false
set_option linter.unusedSimpArgs false
set_option linter.unusedSectionVars false
open Go.RowKit Go.Proofs.YtiamiagjkfioiaaGreatDoorW.PrintWords Go.Proofs.YtiamiagjkfioiaaGreatDoorW.PrintLast Go.Proofs.YtiamiagjkfioiaaGreatDoorW.PrintMore Go.Proofs.YtiamiagjkfioiaaGreatDoor.PT Go.Proofs.YtiamiagjkfioiaaGreatDoor.L Go.Proofs.YtiamiagjkfioiaaGreatDoor.SM

/-- of the document's form -/
inductive FineS : SV → Prop
  | nil : FineS ⟨0, 0, be, [], []⟩
  | bool (b : Bool) : FineS ⟨1, if b then 1 else 0, be, [], []⟩
  | int (i : Int) : FineS ⟨2, i, be, [], []⟩
  | text (s : ByteArray) : FineS ⟨3, 0, s, [], []⟩
  | list {ys : List SV} (hb : ys.length ≤ 1099511627776) (he : ∀ (i : Nat) (h : i < ys.length), FineS (ys[i]'h)) : FineS ⟨4, 0, be, [], ys⟩
  | map {ks : List ByteArray} {ys : List SV} (ha : Ord.Asc id ks) (hl : ys.length = ks.length) (hb : ys.length ≤ 1099511627776) (he : ∀ (i : Nat) (h : i < ys.length), FineS (ys[i]'h)) : FineS ⟨5, 0, be, ks, ys⟩
/-- the thin package's value of it -/
theorem FineS.twin {x : SV} (h : FineS x) : ∃ y, Twin x y ∧ Fine y := by
  have pick : ∀ {ys : List SV}, (∀ (i : Nat) (h : i < ys.length), ∃ y, Twin (ys[i]'h) y ∧ Fine y) → ∃ zs : List IV, zs.length = ys.length ∧ (∀ (i : Nat) (h1 : i < ys.length) (h2 : i < zs.length), Twin (ys[i]'h1) (zs[i]'h2)) ∧ ∀ z ∈ zs, Fine z := by
    intro ys
    induction ys with
    | nil => exact fun _ => ⟨[], rfl, fun i h1 _ => absurd h1 (Nat.not_lt_zero _), fun z hz => absurd hz List.not_mem_nil⟩
    | cons y ys ih =>
      intro h
      obtain ⟨z, hz1, hz2⟩ := h 0 (by simp)
      obtain ⟨zs, hl, ht, hf⟩ := ih (fun i hi => h (i + 1) (by simpa using hi))
      refine ⟨z :: zs, by simp [hl], fun i h1 h2 => ?_, fun q hq => ?_⟩
      · rcases i with _ | i
        · exact hz1
        · exact ht i (by simpa using h1) (by simpa using h2)
      · rcases List.mem_cons.1 hq with rfl | hq
        · exact hz2
        · exact hf q hq
  induction h with
  | nil => exact ⟨⟨0, 0, be, [], []⟩, .mk rfl rfl rfl rfl rfl (Nat.zero_le _) (Nat.zero_le _) (fun i q _ => absurd q (Nat.not_lt_zero _)), .nil⟩
  | bool b => exact ⟨⟨1, if b then 1 else 0, be, [], []⟩, .mk rfl rfl rfl rfl rfl (Nat.zero_le _) (Nat.zero_le _) (fun i q _ => absurd q (Nat.not_lt_zero _)), .bool b⟩
  | int i => exact ⟨⟨2, i, be, [], []⟩, .mk rfl rfl rfl rfl rfl (Nat.zero_le _) (Nat.zero_le _) (fun i q _ => absurd q (Nat.not_lt_zero _)), .int i⟩
  | text s => exact ⟨⟨3, 0, s, [], []⟩, .mk rfl rfl rfl rfl rfl (Nat.zero_le _) (Nat.zero_le _) (fun i q _ => absurd q (Nat.not_lt_zero _)), .text s⟩
  | list hb he ih =>
    obtain ⟨zs, hl, ht, hf⟩ := pick ih
    exact ⟨⟨4, 0, be, [], zs⟩, .mk rfl rfl rfl rfl hl.symm (Nat.zero_le _) hb ht, .list (by rw [hl]; exact hb) hf⟩
  | @map ks ys ha hly hb he ih =>
    obtain ⟨zs, hl, ht, hf⟩ := pick ih
    exact ⟨⟨5, 0, be, ks, zs⟩, .mk rfl rfl rfl rfl hl.symm (by show ks.length ≤ _; omega) hb ht, .map ha (by omega) (by omega) hf⟩
/-- what a value's cells hold; the rows that hold something lie in blocks of a kind -/
inductive DeepP (P : Nat → Prop) (w : World) : SV → RV → Prop
  | mk {x : SV} {r : RV} {rs : List RV} (h0 : r.n0 = x.f0) (h1 : r.n1 = x.f1) (h2 : r.t = x.f2) (h3 : r.an = x.f3.length) (h3c : r.an ≤ r.ac) (h3k : Kd.C Kd.string w r.A x.f3.length x.f3) (h3f : 0 < x.f3.length → ∀ ad, r.A = some ad → P ad.block)
      (h4 : r.bn = x.f4.length) (h4c : r.bn ≤ r.bc) (h4l : rs.length = x.f4.length) (h4k : Kd.C kR w r.B rs.length rs) (h4f : 0 < rs.length → ∀ ad, r.B = some ad → P ad.block)
      (he : ∀ (i : Nat) (q1 : i < x.f4.length) (q2 : i < rs.length), DeepP P w (x.f4[i]'q1) (rs[i]'q2)) : DeepP P w x r
theorem C_lt {α : Type} {d : Kd α} {w : World} {ad : Addr} {n : Nat} {xs : List α} (h : d.C w (some ad) n xs) (hz : 0 < d.sz) (hn : 0 < n) : ad.block < w.heap.size := by
  obtain ⟨h1, h2, h3⟩ := h
  obtain ⟨ad', e, hc⟩ := h3 hn
  injection e with e
  subst e
  obtain ⟨x, hx⟩ : ∃ x, xs[0]? = some x := ⟨xs[0]'(by omega), List.getElem?_eq_getElem (by omega)⟩
  obtain ⟨cs, ha, hb, hcc⟩ := hc 0 x hx
  have h4 := hcc 0 (cs[0]'(by omega)) (List.getElem?_eq_getElem (by omega))
  have h5 := World.block_lt_of_cell? w _ h4
  have hbk : ∀ k, (ad.add k).block = ad.block := fun k => by unfold Addr.add; split <;> rfl
  rw [hbk] at h5
  exact h5
theorem C_keep {α : Type} {d : Kd α} {w w' : World} {A : Option Addr} {n : Nat} {xs : List α} (h : d.C w A n xs) (hK : ∀ x cs, d.K w x cs → d.K w' x cs) (hm : 0 < n → ∀ ad, A = some ad → ad.block < w.heap.size → w'.heap[ad.block]? = w.heap[ad.block]?) : d.C w' A n xs := by
  obtain ⟨h1, h2, h3⟩ := h
  refine ⟨h1, h2, fun hp => ?_⟩
  obtain ⟨ad, e, hc⟩ := h3 hp
  refine ⟨ad, e, fun j p hj => ?_⟩
  obtain ⟨cs, ha, hb, hcc⟩ := hc j p hj
  refine ⟨cs, ha, hK _ _ hb, fun i u hu => ?_⟩
  have h4 := hcc i u hu
  have h5 := World.block_lt_of_cell? w _ h4
  have hbk : (ad.add (j * d.sz + i)).block = ad.block := by unfold Addr.add; split <;> rfl
  rw [hbk] at h5
  have h6 := hm hp ad e h5
  rw [← h4]
  unfold World.cell?
  rw [hbk, h6]
theorem DeepP.kept {P : Nat → Prop} {w w' : World} {x : SV} {r : RV} (h : DeepP P w x r) (hb : ∀ k, P k → k < w.heap.size → w'.heap[k]? = w.heap[k]?) : DeepP P w' x r := by
  induction h with
  | mk h0 h1 h2 h3 h3c h3k h3f h4 h4c h4l h4k h4f he ih =>
    exact .mk h0 h1 h2 h3 h3c (C_keep h3k (fun _ _ q => q) (fun hp ad e hlt => hb _ (h3f hp ad e) hlt)) h3f h4 h4c h4l (C_keep h4k (fun _ _ q => q) (fun hp ad e hlt => hb _ (h4f hp ad e) hlt)) h4f ih
theorem DeepP.below_ {P : Nat → Prop} {w w' : World} {x : SV} {r : RV} (h : DeepP P w x r) (hb : Below w.heap.size w w') : DeepP P w' x r := h.kept (fun k _ hk => hb.block k hk)
theorem DeepP.imp {P Q : Nat → Prop} {w : World} {x : SV} {r : RV} (h : DeepP P w x r) (hl : ∀ k, P k → k < w.heap.size → Q k) : DeepP Q w x r := by
  induction h with
  | @mk x r rs h0 h1 h2 h3 h3c h3k h3f h4 h4c h4l h4k h4f he ih =>
    refine .mk h0 h1 h2 h3 h3c h3k (fun hp ad e => hl _ (h3f hp ad e) ?_) h4 h4c h4l h4k (fun hp ad e => hl _ (h4f hp ad e) ?_) ih
    · rw [e] at h3k; exact C_lt h3k (by decide) hp
    · rw [e] at h4k; exact C_lt h4k (by decide) hp
theorem DeepP.toDeep {P : Nat → Prop} {w : World} {x : SV} {r : RV} (h : DeepP P w x r) : kS.K w x r.cs := by
  induction h with
  | @mk x r rs h0 h1 h2 h3 h3c h3k h3f h4 h4c h4l h4k h4f he ih =>
    have hC : Kd.C A.kS w r.B x.f4.length x.f4 := by
      obtain ⟨q1, q2, q3⟩ := h4k
      refine ⟨rfl, by rw [← h4l]; exact q2, fun hp => ?_⟩
      obtain ⟨ad, e, hc⟩ := q3 (by omega)
      refine ⟨ad, e, fun j p hj => ?_⟩
      have hj1 : j < x.f4.length := by
        rcases Nat.lt_or_ge j x.f4.length with q | q
        · exact q
        · rw [List.getElem?_eq_none q] at hj; cases hj
      have hj2 : j < rs.length := by omega
      obtain ⟨cs, ha, hb, hcc⟩ := hc j (rs[j]'hj2) (List.getElem?_eq_getElem hj2)
      have ep : p = x.f4[j]'hj1 := by rw [List.getElem?_eq_getElem hj1] at hj; injection hj with hj; exact hj.symm
      refine ⟨cs, ha, ?_, hcc⟩
      rw [ep, hb]
      exact ih j hj1 hj2
    have := k26_mk w x (c3 := r.ac) (A3 := r.A) (c4 := r.bc) (A4 := r.B) (by omega) h3k (by omega) hC
    unfold RV.cs
    rw [h0, h1, h2, h3, h4]
    exact this
theorem DeepP.parts {P : Nat → Prop} {w : World} {x : SV} {r : RV} (h : DeepP P w x r) : MadeS x w r.val := by
  cases h with
  | @mk _ _ rs h0 h1 h2 h3 h3c h3k h3f h4 h4c h4l h4k h4f he =>
    have hC : Kd.C A.kS w r.B x.f4.length x.f4 := by
      obtain ⟨q1, q2, q3⟩ := h4k
      refine ⟨rfl, by rw [← h4l]; exact q2, fun hp => ?_⟩
      obtain ⟨ad, e, hc⟩ := q3 (by omega)
      refine ⟨ad, e, fun j p hj => ?_⟩
      have hj1 : j < x.f4.length := by
        rcases Nat.lt_or_ge j x.f4.length with q | q
        · exact q
        · rw [List.getElem?_eq_none q] at hj; cases hj
      have hj2 : j < rs.length := by omega
      obtain ⟨cs, ha, hb, hcc⟩ := hc j (rs[j]'hj2) (List.getElem?_eq_getElem hj2)
      have ep : p = x.f4[j]'hj1 := by rw [List.getElem?_eq_getElem hj1] at hj; injection hj with hj; exact hj.symm
      refine ⟨cs, ha, ?_, hcc⟩
      rw [ep, hb]
      exact (he j hj1 hj2).toDeep
    refine ⟨r.A, r.ac, r.B, r.bc, ?_, by omega, h3k, by omega, hC⟩
    unfold RV.val cellsS
    rw [h0, h1, h2, h3, h4]
/-! ### how much a value holds -/
def wt : SV → Nat
  | ⟨_, _, s, ks, vs⟩ => 1 + s.size + (ks.map (fun k => k.size + 1)).sum + (vs.attach.map (fun v => wt v.1)).sum
termination_by x => SizeOf.sizeOf x
decreasing_by
  have := List.sizeOf_lt_of_mem v.2
  simp only [S26.mk.sizeOf_spec]
  omega
def ksum (ks : List ByteArray) : Nat := (ks.map (fun k => k.size + 1)).sum
/-! ### spec.With, side by side on values and their cells -/
def withL {α : Type} (key : ByteArray) (ks : List ByteArray) (vs : List α) (x : α) : List α := if placeB key ks then vs.set (placeN key ks) x else vs.take (placeN key ks) ++ x :: vs.drop (placeN key ks)
def All2 {α β : Type} (R : α → β → Prop) (xs : List α) (ys : List β) : Prop := xs.length = ys.length ∧ ∀ (i : Nat) (h1 : i < xs.length) (h2 : i < ys.length), R (xs[i]'h1) (ys[i]'h2)
theorem All2.imp {α β : Type} {R R' : α → β → Prop} {xs : List α} {ys : List β} (h : All2 R xs ys) (hi : ∀ x y, R x y → R' x y) : All2 R' xs ys := ⟨h.1, fun i h1 h2 => hi _ _ (h.2 i h1 h2)⟩
theorem All2.snoc {α β : Type} {R : α → β → Prop} {xs : List α} {ys : List β} {x : α} {y : β} (h : All2 R xs ys) (hx : R x y) : All2 R (xs ++ [x]) (ys ++ [y]) := by
  refine ⟨by simp [h.1], fun i h1 h2 => ?_⟩
  rcases Nat.lt_or_ge i xs.length with q | q
  · rw [List.getElem_append_left q, List.getElem_append_left (by rw [← h.1]; exact q)]
    exact h.2 i q _
  · have e : i = xs.length := by simp at h1; omega
    subst e
    have e2 : (ys ++ [y])[xs.length]'h2 = y := by
      rw [List.getElem_append_right (by rw [h.1]; exact Nat.le_refl _)]; simp [h.1]
    rw [e2]
    simpa using hx
theorem All2.withL {α β : Type} {R : α → β → Prop} {xs : List α} {ys : List β} {x : α} {y : β} (key : ByteArray) (ks : List ByteArray) (h : All2 R xs ys) (hx : R x y) : All2 R (withL key ks xs x) (withL key ks ys y) := by
  unfold A.withL
  split
  · refine ⟨by simp [h.1], fun i h1 h2 => ?_⟩
    rw [List.length_set] at h1 h2
    by_cases e : placeN key ks = i
    · subst e; simpa using hx
    · rw [List.getElem_set_ne e, List.getElem_set_ne e]; exact h.2 i h1 h2
  · generalize placeN key ks = n
    refine ⟨by simp [h.1], fun i h1 h2 => ?_⟩
    have hl := h.1
    have key' : ∀ {γ : Type} (l : List γ) (z : γ) (i : Nat) (hi : i < (l.take n ++ z :: l.drop n).length), (l.take n ++ z :: l.drop n)[i]? = if i < min n l.length then l[i]? else if i = min n l.length then some z else l[i - 1]? := by
      intro γ l z i hi
      by_cases c1 : i < min n l.length
      · rw [if_pos c1, List.getElem?_append_left (by simp; omega), List.getElem?_take, if_pos (by omega)]
      · rw [if_neg c1, List.getElem?_append_right (by simp; omega), List.length_take]
        by_cases c2 : i = min n l.length
        · rw [if_pos c2, c2]; simp
        · rw [if_neg c2]
          obtain ⟨q, hq⟩ : ∃ q, i - min n l.length = q + 1 := ⟨i - min n l.length - 1, by omega⟩
          rw [hq, List.getElem?_cons_succ, List.getElem?_drop]
          simp at hi
          congr 1
          omega
    have a1 := key' xs x i h1
    have a2 := key' ys y i h2
    rw [List.getElem?_eq_getElem h1] at a1
    rw [List.getElem?_eq_getElem h2] at a2
    rw [hl] at a1
    by_cases c1 : i < min n ys.length
    · rw [if_pos c1, List.getElem?_eq_getElem (by omega)] at a1
      rw [if_pos c1, List.getElem?_eq_getElem (by omega)] at a2
      injection a1 with a1
      injection a2 with a2
      rw [a1, a2]
      exact h.2 i _ _
    · by_cases c2 : i = min n ys.length
      · rw [if_neg c1, if_pos c2] at a1 a2
        injection a1 with a1
        injection a2 with a2
        rw [a1, a2]
        exact hx
      · have h3 : i - 1 < ys.length := by simp at h2; omega
        rw [if_neg c1, if_neg c2, List.getElem?_eq_getElem (by omega)] at a1
        rw [if_neg c1, if_neg c2, List.getElem?_eq_getElem h3] at a2
        injection a1 with a1
        injection a2 with a2
        rw [a1, a2]
        exact h.2 _ _ _
theorem withKs_mem {key : ByteArray} : ∀ {ks : List ByteArray} {k : ByteArray}, k ∈ withKs key ks → k = key ∨ k ∈ ks := by
  intro ks k h
  unfold withKs at h
  split at h
  · exact .inr h
  · rcases List.mem_append.1 h with h | h
    · exact .inr (List.mem_of_mem_take h)
    · rcases List.mem_cons.1 h with h | h
      · exact .inl h
      · exact .inr (List.mem_of_mem_drop h)
theorem withKs_cons (key y : ByteArray) (l : List ByteArray) : withKs key (y :: l) = if Op.bytesLess y.toList key.toList then y :: withKs key l else if y.toList = key.toList then y :: l else key :: y :: l := by
  unfold withKs
  by_cases c : Op.bytesLess y.toList key.toList = true
  · simp only [placeB, placeN, c, if_true]
    split <;> simp
  · simp only [placeB, placeN, c, if_false, Bool.false_eq_true]
    by_cases e : y.toList = key.toList
    · simp [e]
    · have : (y.toList == key.toList) = false := by simpa using e
      simp [this, e]
theorem withKs_asc {key : ByteArray} : ∀ {ks : List ByteArray}, Ord.Asc id ks → Ord.Asc id (withKs key ks)
  | [], _ => by unfold withKs; simp [placeB, placeN, Ord.Asc]
  | y :: l, h => by
    have h1 := (List.pairwise_cons.1 h).1
    have h2 := (List.pairwise_cons.1 h).2
    rw [withKs_cons]
    split
    · rename_i c
      refine List.pairwise_cons.2 ⟨fun k hk => ?_, withKs_asc (key := key) (ks := l) h2⟩
      rcases withKs_mem hk with rfl | hk
      · exact c
      · exact h1 k hk
    · rename_i c
      split
      · exact h
      · rename_i e
        have hlt : Ord.lt key y = true := by
          cases hq : Ord.lt key y with
          | true => rfl
          | false =>
            have hc : Ord.lt y key = false := by unfold Ord.lt; simpa using c
            exact absurd (congrArg ByteArray.toList (Ord.lt_tri hc hq)) e
        refine List.pairwise_cons.2 ⟨fun k hk => ?_, h⟩
        rcases List.mem_cons.1 hk with rfl | hk
        · exact hlt
        · exact Ord.lt_trans hlt (h1 k hk)
end Go.Proofs.YtiamiagjkfioiaaGreatDoor.A
