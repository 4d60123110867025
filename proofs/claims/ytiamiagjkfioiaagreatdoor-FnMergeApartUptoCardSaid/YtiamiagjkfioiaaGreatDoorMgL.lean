/- Joined texts. -/
import Derived.Test.YtiamiagjkfioiaaGreatDoorOnly
import Derived.Test.YtiamiagjkfioiaaGreatDoorFine
import Derived.Test.YtiamiagjkfioiaaGreatDoorRepl
/- What a value of the package comes back as, with the blocks that it takes up: no two of its parts share one; a map's keys stand in any order. Plain. -/
namespace Go.Proofs.YtiamiagjkfioiaaGreatDoor.A
set_option linter.unusedVariables false
set_option linter.unusedSimpArgs false
set_option linter.unusedSectionVars false
open Go.RowKit Go.Proofs.YtiamiagjkfioiaaGreatDoorW.PrintWords Go.Proofs.YtiamiagjkfioiaaGreatDoorW.PrintLast Go.Proofs.YtiamiagjkfioiaaGreatDoorW.PrintMore Go.Proofs.YtiamiagjkfioiaaGreatDoor.PT Go.Proofs.YtiamiagjkfioiaaGreatDoor.L Go.Proofs.YtiamiagjkfioiaaGreatDoor.SM

inductive FromF (w : World) : (Nat → Prop) → AV → IV → Prop
  | nil {P : Nat → Prop} : FromF w P .nil ⟨0, 0, be, [], []⟩
  | bool {P : Nat → Prop} (b : Bool) : FromF w P (.bool b) ⟨1, if b then 1 else 0, be, [], []⟩
  | int {P : Nat → Prop} (i : Int) : FromF w P (.int i) ⟨2, i, be, [], []⟩
  | text {P : Nat → Prop} (s : ByteArray) : FromF w P (.text s) ⟨3, 0, s, [], []⟩
  | list {P : Nat → Prop} {A : Option Addr} {c : Nat} {vs : List AV} {ys : List IV} (Q : Nat → Nat → Prop) (hl : vs.length = ys.length) (hc : vs.length ≤ c) (hb : vs.length ≤ 1099511627776) (hr : kA.C w A vs.length vs) (hA : 0 < vs.length → ∀ ad, A = some ad → P ad.block ∧ ∀ i, ¬ Q i ad.block)
      (hQ : ∀ i k, Q i k → P k) (hd : ∀ i j k, Q i k → Q j k → i = j) (he : ∀ (i : Nat) (h1 : i < vs.length) (h2 : i < ys.length), FromF w (Q i) (vs[i]'h1) (ys[i]'h2)) : FromF w P (.sl A vs.length c) ⟨4, 0, be, [], ys⟩
  | map {P : Nat → Prop} {b : Nat} {m : List (ByteArray × AV)} {ks : List ByteArray} {ys : List IV} (Q : ByteArray → Nat → Prop) (hm : TMap w b AV.enc m) (hP : P b) (hbQ : ∀ k, ¬ Q k b) (hQ : ∀ k n, Q k n → P n) (hd : ∀ k k' n, Q k n → Q k' n → k = k') (hb : m.length ≤ 1099511627776) (hk : ks = Ord.sortS (SM.keys m)) (hl : ys.length = ks.length)
      (he : ∀ (i : Nat) (h1 : i < ks.length) (h2 : i < ys.length) (v : AV), SM.look m (ks[i]'h1) = some v → FromF w (Q (ks[i]'h1)) v (ys[i]'h2)) : FromF w P (.map b) ⟨5, 0, be, ks, ys⟩
theorem FromF.kept {w w' : World} {P : Nat → Prop} {v : AV} {y : IV} (h : FromF w P v y) : (∀ k, P k → k < w.heap.size → w'.heap[k]? = w.heap[k]?) → FromF w' P v y := by
  induction h with
  | nil => exact fun _ => .nil
  | bool b => exact fun _ => .bool b
  | int b => exact fun _ => .int b
  | text b => exact fun _ => .text b
  | list Q hl hc hb hr hA hQ hd he ih =>
    intro hk
    refine .list Q hl hc hb ?_ hA hQ hd (fun i h1 h2 => ih i h1 h2 (fun k hk' => hk k (hQ i k hk')))
    rcases Nat.eq_zero_or_pos _ with hz | hp
    · obtain ⟨q1, q2, q3⟩ := hr
      exact ⟨q1, q2, fun hp => absurd hz (Nat.pos_iff_ne_zero.1 hp)⟩
    · exact kA_move hr (fun ad e hlt => hk _ (hA hp ad e).1 hlt)
  | map Q hm hP hbQ hQ hd hb hk hl he ih =>
    exact fun hh => .map Q (SMap.move hm (hh _ hP hm.lt)) hP hbQ hQ hd hb hk hl (fun i h1 h2 v hv => ih i h1 h2 v hv (fun k hk' => hh k (hQ _ k hk')))
theorem FromF.below_ {w w' : World} {P : Nat → Prop} {v : AV} {y : IV} (h : FromF w P v y) (hb : Below w.heap.size w w') : FromF w' P v y := h.kept (fun k _ hk => hb.block k hk)
theorem FromF.imp {w : World} {P P' : Nat → Prop} {v : AV} {y : IV} (h : FromF w P v y) (hi : ∀ k, P k → P' k) : FromF w P' v y := by
  cases h with
  | nil => exact .nil
  | bool b => exact .bool b
  | int b => exact .int b
  | text b => exact .text b
  | list Q hl hc hb hr hA hQ hd he => exact .list Q hl hc hb hr (fun hp ad e => ⟨hi _ (hA hp ad e).1, (hA hp ad e).2⟩) (fun i k hk => hi _ (hQ i k hk)) hd he
  | map Q hm hP hbQ hQ hd hb hk hl he => exact .map Q hm (hi _ hP) hbQ (fun k n hn => hi _ (hQ k n hn)) hd hb hk hl he
theorem FromF.toFrom {w : World} {P : Nat → Prop} {v : AV} {y : IV} (h : FromF w P v y) : FromIs w v y := by
  induction h with
  | nil => exact .nil
  | bool b => exact .bool b
  | int b => exact .int b
  | text b => exact .text b
  | list Q hl hc hb hr hA hQ hd he ih => exact .list hl hc hb hr ih
  | map Q hm hP hbQ hQ hd hb hk hl he ih => exact .map hm hb hk hl ih
/-- a tree's child by its key -/
def kidI (y : IV) (k : ByteArray) : Option IV := SM.look (y.f3.zip y.f4) k
theorem keys_zip {α : Type} {ks : List ByteArray} {ys : List α} (hl : ys.length = ks.length) : SM.keys (ks.zip ys) = ks := by unfold SM.keys; exact List.map_fst_zip (by omega)
theorem kid_at {y : IV} (hl : y.f4.length = y.f3.length) (hn : y.f3.Nodup) {i : Nat} (h3 : i < y.f3.length) (h4 : i < y.f4.length) : kidI y (y.f3[i]'h3) = some (y.f4[i]'h4) := by
  unfold kidI
  refine find_of (j := i) (p := (y.f3[i]'h3, y.f4[i]'h4)) (by rw [keys_zip hl]; exact hn) ?_
  rw [List.getElem?_zip_eq_some]
  exact ⟨List.getElem?_eq_getElem h3, List.getElem?_eq_getElem h4⟩
theorem kid_none {y : IV} (hl : y.f4.length = y.f3.length) {k : ByteArray} : kidI y k = none ↔ k ∉ y.f3 := by
  unfold kidI
  rw [look_none, has_false, keys_zip hl]
theorem kid_some {y : IV} (hl : y.f4.length = y.f3.length) {k : ByteArray} (h : k ∈ y.f3) : ∃ x, kidI y k = some x := by
  cases e : kidI y k with
  | some x => exact ⟨x, rfl⟩
  | none => exact absurd h ((kid_none hl).1 e)
/-- a map, in words of its children by key -/
theorem FromF.mapK {w : World} {P : Nat → Prop} {b : Nat} {m : List (ByteArray × AV)} {z : IV} (hz : Fine z) (h5 : z.f0 = 5) (Q : ByteArray → Nat → Prop) (hm : TMap w b AV.enc m) (hP : P b) (hbQ : ∀ k, ¬ Q k b) (hQ : ∀ k n, Q k n → P n) (hd : ∀ k k' n, Q k n → Q k' n → k = k')
    (hk : ∀ k, k ∈ SM.keys m ↔ k ∈ z.f3) (he : ∀ k v, SM.look m k = some v → ∃ y, kidI z k = some y ∧ FromF w (Q k) v y) : FromF w P (.map b) z := by
  cases hz with
  | nil => cases h5
  | bool b => cases h5
  | int b => cases h5
  | text b => cases h5
  | list _ _ => cases h5
  | @map ks ys ha hl hb hy =>
    have hpm : (SM.keys m).Perm ks := (List.perm_ext_iff_of_nodup hm.nodup (asc_nodup ha)).2 hk
    have hml : m.length = ks.length := by have := hpm.length_eq; simpa [SM.keys] using this
    refine .map Q hm hP hbQ hQ hd (by omega) ?_ hl (fun i h1 h2 v hv => ?_)
    · exact Ord.sortS_unique (asc_srt ha) hpm.symm
    · obtain ⟨y, hy1, hy2⟩ := he _ v hv
      have := kid_at (y := ⟨5, 0, be, ks, ys⟩) hl (asc_nodup ha) h1 h2
      rw [this] at hy1
      injection hy1 with hy1
      rw [hy1]
      exact hy2
/-- a map's parts, by key -/
theorem FromF.unmap {w : World} {P : Nat → Prop} {v : AV} {y : IV} (h : FromF w P v y) (h5 : y.f0 = 5) : ∃ (b : Nat) (m : List (ByteArray × AV)) (Q : ByteArray → Nat → Prop), v = .map b ∧ TMap w b AV.enc m ∧ P b ∧ (∀ k, ¬ Q k b) ∧ (∀ k n, Q k n → P n) ∧ (∀ k k' n, Q k n → Q k' n → k = k') ∧ (∀ k, k ∈ SM.keys m ↔ k ∈ y.f3) ∧
    ∀ k u, SM.look m k = some u → ∃ x, kidI y k = some x ∧ FromF w (Q k) u x := by
  cases h with
  | nil => cases h5
  | bool b => cases h5
  | int b => cases h5
  | text b => cases h5
  | list _ _ => cases h5
  | @map _ b m ks ys Q hm hP hbQ hQ hd hb hk hl he =>
    have hpm : ks.Perm (SM.keys m) := by rw [hk]; exact Ord.sortS_perm _
    have hmem : ∀ k, k ∈ SM.keys m ↔ k ∈ ks := fun k => hpm.symm.mem_iff
    refine ⟨b, m, Q, rfl, hm, hP, hbQ, hQ, hd, hmem, fun k u hu => ?_⟩
    have hkm : k ∈ ks := (hmem k).1 (has_iff.1 (look_some hu).2)
    obtain ⟨i, hi, rfl⟩ := List.mem_iff_getElem.1 hkm
    have h4 : i < ys.length := by omega
    exact ⟨ys[i]'h4, kid_at (y := ⟨5, 0, be, ks, ys⟩) hl (hpm.nodup_iff.2 hm.nodup) hi h4, he i hi h4 u hu⟩
theorem AnyF.toldF {w : World} {P : Nat → Prop} {x : IV} {v : AV} (h : AnyF w P x v) : Fine x → FromF w P v x := by
  induction h with
  | @nil P x h => intro hf; cases hf with
    | nil => exact .nil
    | bool b => exact absurd h (by simp)
    | int i => exact absurd h (by simp)
    | text s => exact absurd h (by simp)
    | list _ _ => exact absurd h (by simp)
    | map _ _ _ _ => exact absurd h (by simp)
  | @bool P x h => intro hf; cases hf with
    | bool b => cases b <;> exact FromF.bool _
    | nil => cases h
    | int i => cases h
    | text s => cases h
    | list _ _ => cases h
    | map _ _ _ _ => cases h
  | @int P x h => intro hf; cases hf with
    | int i => exact .int i
    | nil => cases h
    | bool i => cases h
    | text s => cases h
    | list _ _ => cases h
    | map _ _ _ _ => cases h
  | @text P x h => intro hf; cases hf with
    | text s => exact .text s
    | nil => cases h
    | bool i => cases h
    | int s => cases h
    | list _ _ => cases h
    | map _ _ _ _ => cases h
  | @list P x A c vs Q h hl hc hr hA hQ hd he ih => intro hf; cases hf with
    | list hb hy => exact .list Q hl hc (by rw [hl]; exact hb) hr hA hQ hd (fun i h1 h2 => ih i h2 h1 (hy _ (List.getElem_mem h2)))
    | nil => cases h
    | bool i => cases h
    | int s => cases h
    | text s => cases h
    | map _ _ _ _ => cases h
  | @map P x b m Q h hm hb hbQ hQ hd hk hl he ih => intro hf; cases hf with
    | @map ks ys ha hyl hyb hy =>
      refine FromF.mapK (.map ha hyl hyb hy) rfl Q hm hb hbQ hQ hd (fun k => by rw [← hk]; rfl) (fun k v hv => ?_)
      obtain ⟨i, hi, e⟩ := List.mem_iff_getElem.1 (look_some hv).1
      have h4 : i < ys.length := by rw [← hl]; exact hi
      have h3 : i < ks.length := by rw [← hyl]; exact h4
      have ek : ks[i]'h3 = k := by
        have : (m.map (·.1))[i]? = ks[i]? := by rw [hk]
        rw [List.getElem?_map, List.getElem?_eq_getElem hi, List.getElem?_eq_getElem h3, Option.map_some, Option.some.injEq] at this
        rw [← this, e]
      have hv2 := ih i h4 hi (hy _ (List.getElem_mem h4))
      rw [e] at hv2
      exact ⟨ys[i]'h4, by rw [← ek]; exact kid_at (y := ⟨5, 0, be, ks, ys⟩) hyl (asc_nodup ha) h3 h4, hv2⟩
    | nil => cases h
    | bool i => cases h
    | int s => cases h
    | text s => cases h
    | list _ _ => cases h
end Go.Proofs.YtiamiagjkfioiaaGreatDoor.A
/- What a merge of two trees at a path is, where the path has no rule of its own. Plain. -/
namespace Go.Proofs.YtiamiagjkfioiaaGreatDoor.A
set_option linter.unusedVariables false
set_option linter.unusedSimpArgs false
set_option linter.unusedSectionVars false
open Go.RowKit Go.Proofs.YtiamiagjkfioiaaGreatDoorW.PrintWords Go.Proofs.YtiamiagjkfioiaaGreatDoorW.PrintLast Go.Proofs.YtiamiagjkfioiaaGreatDoorW.PrintMore Go.Proofs.YtiamiagjkfioiaaGreatDoor.PT Go.Proofs.YtiamiagjkfioiaaGreatDoor.L Go.Proofs.YtiamiagjkfioiaaGreatDoor.SM

/-- the first words of the patterns that have a rule -/
def headsS : List ByteArray := [⟨#[110, 101, 116, 119, 111, 114, 107, 115]⟩, ⟨#[118, 111, 108, 117, 109, 101, 115]⟩, ⟨#[115, 101, 99, 114, 101, 116, 115]⟩, ⟨#[99, 111, 110, 102, 105, 103, 115]⟩, ⟨#[115, 101, 114, 118, 105, 99, 101, 115]⟩, ⟨#[106, 111, 98, 115]⟩]
/-- a pattern that may have a rule: three parts at least, the first a section's name -/
def ruleB (pat : ByteArray) : Bool := decide (3 ≤ (parts pat).length) && headsS.any (fun h => decide ((parts pat).head? = some h))
/-- a path that no rule is for -/
structure NoRule (p : ByteArray) : Prop where
  size : p.size ≤ 2147483647
  no : ∀ pat, ruleB pat = true → matchesB p pat = false
theorem noRule_short {p : ByteArray} (hs : p.size ≤ 2147483647) (hl : (parts p).length < 3) : NoRule p := ⟨hs, fun pat h => by
  unfold ruleB at h
  rw [Bool.and_eq_true] at h
  have h1 := of_decide_eq_true h.1
  unfold matchesB
  rw [decide_eq_false (by omega), Bool.false_and]⟩
/-- two trees merged at a path -/
inductive Mrg : ByteArray → IV → IV → IV → Prop
  | null {p : ByteArray} {a b : IV} (hn : NoRule p) (h0 : b.f0 = 0) : Mrg p a b a
  | last {p : ByteArray} {a b : IV} (hn : NoRule p) (h0 : b.f0 ≠ 0) (h4 : a.f0 ≠ 4) (h5 : a.f0 ≠ 5) : Mrg p a b b
  | map {p : ByteArray} {a b z : IV} (hn : NoRule p) (ha : a.f0 = 5) (hb : b.f0 = 5) (hz : Fine z) (h5 : z.f0 = 5) (hk : ∀ k, k ∈ z.f3 ↔ k ∈ a.f3 ∨ k ∈ b.f3) (h1 : ∀ k, k ∉ b.f3 → kidI z k = kidI a k) (h2 : ∀ k, k ∉ a.f3 → kidI z k = kidI b k)
      (hs : ∀ k, k ∈ a.f3 → k ∈ b.f3 → k.size ≤ 2147483647) (h3 : ∀ k x y u, kidI a k = some x → kidI b k = some y → kidI z k = some u → Mrg (nextP p k) x y u) : Mrg p a b z
end Go.Proofs.YtiamiagjkfioiaaGreatDoor.A
/- The state of override.mergeMappings' loop, and its steps. Plain. -/
namespace Go.Proofs.YtiamiagjkfioiaaGreatDoor.A
set_option linter.unusedVariables false
set_option linter.unusedSimpArgs false
set_option linter.unusedSectionVars false
open Go.RowKit Go.Proofs.YtiamiagjkfioiaaGreatDoorW.PrintWords Go.Proofs.YtiamiagjkfioiaaGreatDoorW.PrintLast Go.Proofs.YtiamiagjkfioiaaGreatDoorW.PrintMore Go.Proofs.YtiamiagjkfioiaaGreatDoor.PT Go.Proofs.YtiamiagjkfioiaaGreatDoor.L Go.Proofs.YtiamiagjkfioiaaGreatDoor.SM

theorem look_put {β : Type} {m : List (ByteArray × β)} (hn : (SM.keys m).Nodup) (k : ByteArray) (v : β) (k' : ByteArray) : SM.look (put m k v) k' = if k' = k then some v else SM.look m k' := by
  by_cases e : k' = k
  · rw [if_pos e, e]
    exact look_mem (p := (k, v)) (nodup_put hn k v) ((mem_put _).2 (.inl rfl))
  · rw [if_neg e]
    cases h : SM.look m k' with
    | none =>
      rw [look_none, has_false]
      intro hm
      obtain ⟨q, hq, rfl⟩ := List.mem_map.1 hm
      rcases (mem_put q).1 hq with h1 | ⟨_, h1⟩
      · rw [h1] at e; exact e rfl
      · exact absurd (List.mem_map_of_mem (f := (·.1)) h1) (has_false.1 (look_none.1 h))
    | some u => exact look_mem (p := (k', u)) (nodup_put hn k v) ((mem_put _).2 (.inr ⟨e, (look_some h).1⟩))
theorem keys_put_iff {β : Type} {m : List (ByteArray × β)} {k : ByteArray} {v : β} {x : ByteArray} : x ∈ SM.keys (put m k v) ↔ x = k ∨ x ∈ SM.keys m := by
  unfold SM.keys
  constructor
  · intro h
    obtain ⟨q, hq, rfl⟩ := List.mem_map.1 h
    rcases (mem_put q).1 hq with h1 | ⟨_, h1⟩
    · exact .inl (by rw [h1])
    · exact .inr (List.mem_map_of_mem h1)
  · intro h
    by_cases e : x = k
    · subst e; exact List.mem_map_of_mem (f := (·.1)) ((mem_put (x, v)).2 (.inl rfl))
    · rcases h with h | h
      · exact absurd h e
      · obtain ⟨q, hq, rfl⟩ := List.mem_map.1 h
        exact List.mem_map_of_mem ((mem_put q).2 (.inr ⟨e, hq⟩))
/-- what stands fast while two maps are merged -/
structure MgK (a b z : IV) (P1 P2 : Nat → Prop) (Q1 Q2 : ByteArray → Nat → Prop) (b1 b2 : Nat) (m1 m2 : List (ByteArray × AV)) (w : World) : Prop where
  fz : Fine z
  z5 : z.f0 = 5
  hk : ∀ k, k ∈ z.f3 ↔ k ∈ a.f3 ∨ k ∈ b.f3
  h1 : ∀ k, k ∉ b.f3 → kidI z k = kidI a k
  h2 : ∀ k, k ∉ a.f3 → kidI z k = kidI b k
  k1 : ∀ k, k ∈ SM.keys m1 ↔ k ∈ a.f3
  k2 : ∀ k, k ∈ SM.keys m2 ↔ k ∈ b.f3
  t1 : TMap w b1 AV.enc m1
  t2 : TMap w b2 AV.enc m2
  e1 : ∀ k u, SM.look m1 k = some u → ∃ x, kidI a k = some x ∧ FromF w (Q1 k) u x
  e2 : ∀ k u, SM.look m2 k = some u → ∃ x, kidI b k = some x ∧ FromF w (Q2 k) u x
  l1 : ∀ n, P1 n → n < w.heap.size
  l2 : ∀ n, P2 n → n < w.heap.size
  dis : ∀ n, P1 n → ¬ P2 n
  p1 : P1 b1
  p2 : P2 b2
  q1 : ∀ k n, Q1 k n → P1 n
  q2 : ∀ k n, Q2 k n → P2 n
  n1 : ∀ k, ¬ Q1 k b1
  n2 : ∀ k, ¬ Q2 k b2
  d1 : ∀ k k' n, Q1 k n → Q1 k' n → k = k'
  d2 : ∀ k k' n, Q2 k n → Q2 k' n → k = k'
structure MgL (a b z : IV) (P1 : Nat → Prop) (Q1 Q2 : ByteArray → Nat → Prop) (b1 b2 r : Nat) (m2 : List (ByteArray × AV)) (w wr : World) (m rm : List (ByteArray × AV)) (G : ByteArray → Nat → Prop) : Prop where
  rng : TRng wr b2 r AV.enc m2 rm
  map : TMap wr b1 AV.enc m
  keys : ∀ k, k ∈ SM.keys m ↔ k ∈ a.f3 ∨ (k ∈ b.f3 ∧ SM.has rm k = false)
  kid : ∀ k v, SM.look m k = some v → ∃ y, (if SM.has rm k = true then kidI a k else kidI z k) = some y ∧ FromF wr (G k) v y
  left : ∀ k v, SM.look m2 k = some v → SM.has rm k = true → ∃ y, kidI b k = some y ∧ FromF wr (Q2 k) v y
  foot : ∀ k n, G k n → n < wr.heap.size ∧ (Q1 k n ∨ (SM.has rm k = false ∧ Q2 k n) ∨ r < n)
  apart : ∀ k k' n, G k n → G k' n → k = k'
  only : Only P1 w wr
variable {a b z : IV} {P1 P2 : Nat → Prop} {Q1 Q2 G : ByteArray → Nat → Prop} {b1 b2 r : Nat} {m1 m2 m rm : List (ByteArray × AV)} {w wr w2 w3 w6 w7 : World}
theorem MgK.start (h : MgK a b z P1 P2 Q1 Q2 b1 b2 m1 m2 w) (hr : r = w.heap.size) (ht : TRng w2 b2 r AV.enc m2 m2) (hg : w.grownBy w2 none) : MgL a b z P1 Q1 Q2 b1 b2 r m2 w w2 m1 m2 Q1 := by
  have hb : ∀ k, k < w.heap.size → w2.heap[k]? = w.heap[k]? := fun k hk => hg.block k hk (fun e => by cases e)
  have hm2 : ∀ k, SM.has m2 k = true ↔ k ∈ b.f3 := fun k => by rw [has_iff]; exact h.k2 k
  refine ⟨ht, SMap.move h.t1 (hb _ h.t1.lt), fun k => ?_, fun k v hv => ?_, fun k v hv _ => ?_, fun k n hn => ⟨Nat.lt_of_lt_of_le (h.l1 _ (h.q1 _ _ hn)) hg.size, .inl hn⟩, h.d1, ⟨hg.os, hg.tape, hg.output, hg.size, fun k hk _ => hb k hk⟩⟩
  · rw [h.k1]
    constructor
    · exact .inl
    · rintro (h1 | ⟨h1, h2⟩)
      · exact h1
      · rw [(hm2 k).2 h1] at h2; cases h2
  · obtain ⟨x, hx, hf⟩ := h.e1 k v hv
    refine ⟨x, ?_, hf.kept (fun n _ hn => hb n hn)⟩
    split
    · exact hx
    · rename_i hh
      rw [h.h1 k (fun hk => hh ((hm2 k).2 hk)), hx]
  · obtain ⟨x, hx, hf⟩ := h.e2 k v hv
    exact ⟨x, hx, hf.kept (fun n _ hn => hb n hn)⟩
theorem MgK.footG (h : MgK a b z P1 P2 Q1 Q2 b1 b2 m1 m2 w) (hr : r = w.heap.size) (l : MgL a b z P1 Q1 Q2 b1 b2 r m2 w wr m rm G) {k : ByteArray} {n : Nat} (hn : G k n) : n ≠ b1 ∧ n ≠ b2 ∧ n ≠ r ∧ n < wr.heap.size := by
  have h1 := h.l1 _ h.p1
  have h2 := h.l2 _ h.p2
  obtain ⟨h3, h4⟩ := l.foot k n hn
  refine ⟨fun e => ?_, fun e => ?_, fun e => ?_, h3⟩
  · subst e
    rcases h4 with h4 | ⟨_, h4⟩ | h4
    · exact h.n1 k h4
    · exact h.dis _ h.p1 (h.q2 _ _ h4)
    · omega
  · subst e
    rcases h4 with h4 | ⟨_, h4⟩ | h4
    · exact h.dis _ (h.q1 _ _ h4) h.p2
    · exact h.n2 k h4
    · omega
  · rcases h4 with h4 | ⟨_, h4⟩ | h4
    · have := h.l1 _ (h.q1 _ _ h4); omega
    · have := h.l2 _ (h.q2 _ _ h4); omega
    · omega
theorem MgK.done (h : MgK a b z P1 P2 Q1 Q2 b1 b2 m1 m2 w) (hr : r = w.heap.size) (l : MgL a b z P1 Q1 Q2 b1 b2 r m2 w wr m [] G) : FromF wr (fun n => P1 n ∨ P2 n ∨ (w.heap.size ≤ n ∧ n < wr.heap.size)) (.map b1) z := by
  refine FromF.mapK h.fz h.z5 G l.map (.inl h.p1) (fun k hn => (h.footG hr l hn).1 rfl) (fun k n hn => ?_) l.apart (fun k => ?_) (fun k v hv => ?_)
  · obtain ⟨h3, h4⟩ := l.foot k n hn
    rcases h4 with h4 | ⟨_, h4⟩ | h4
    · exact .inl (h.q1 _ _ h4)
    · exact .inr (.inl (h.q2 _ _ h4))
    · exact .inr (.inr ⟨by omega, h3⟩)
  · rw [l.keys, h.hk]
    simp [SM.has]
  · obtain ⟨y, hy, hf⟩ := l.kid k v hv
    refine ⟨y, ?_, hf⟩
    rw [if_neg (by simp [SM.has])] at hy
    exact hy
/-- a key that the first map has not: its value is put there -/
theorem MgK.fresh (h : MgK a b z P1 P2 Q1 Q2 b1 b2 m1 m2 w) (hr : r = w.heap.size) (l : MgL a b z P1 Q1 Q2 b1 b2 r m2 w wr m rm G) {k : ByteArray} {v : AV} (hq : (k, v) ∈ rm) (hno : SM.has m k = false)
    (ht : TRng w2 b2 r AV.enc m2 (del rm k)) (hg : wr.grownBy w2 (some r)) (hm : TMap w3 b1 AV.enc (put m k v)) (hg3 : w2.grownBy w3 (some b1)) :
    MgL a b z P1 Q1 Q2 b1 b2 r m2 w w3 (put m k v) (del rm k) (fun k' n => (k' ≠ k ∧ G k' n) ∨ (k' = k ∧ Q2 k n)) := by
  have h1 := h.l1 _ h.p1
  have h2 := h.l2 _ h.p2
  have hsz : wr.heap.size ≤ w3.heap.size := Nat.le_trans hg.size hg3.size
  have hrm : SM.has rm k = true := has_iff.2 (List.mem_map_of_mem (f := fun q : ByteArray × AV => q.1) hq)
  have hkb : k ∈ b.f3 := (h.k2 k).1 (List.mem_map_of_mem (f := fun q : ByteArray × AV => q.1) (rng_mem_of l.rng hq))
  have hlk : SM.look m2 k = some v := look_mem (p := (k, v)) l.rng.map.nodup (rng_mem_of l.rng hq)
  have hka : k ∉ a.f3 := fun hk => (has_false.1 hno) ((l.keys k).2 (.inl hk))
  have hkeep : ∀ n, n < wr.heap.size → n ≠ r → n ≠ b1 → w3.heap[n]? = wr.heap[n]? := fun n hn e1 e2 => (hg3.block n (Nat.lt_of_lt_of_le hn hg.size) (fun e => by injection e with e; exact e2 e)).trans (hg.block n hn (fun e => by injection e with e; exact e1 e))
  have hb12 : b2 ≠ b1 := fun e => h.dis _ h.p1 (e ▸ h.p2)
  have hQ2 : ∀ k' n, Q2 k' n → n < wr.heap.size ∧ n ≠ r ∧ n ≠ b1 := fun k' n hn => by
    have := h.l2 _ (h.q2 _ _ hn)
    have h3 := l.only.size
    exact ⟨by omega, by omega, fun e => h.dis _ h.p1 (e ▸ h.q2 _ _ hn)⟩
  refine ⟨ht.grown hg3 (fun e => by injection e with e; exact hb12 e) (fun e => by injection e with e; omega), hm, fun k' => ?_, fun k' u hu => ?_, fun k' u hu hh => ?_, fun k' n hn => ?_, fun k' k'' n hn hn' => ?_, ?_⟩
  · rw [keys_put_iff, l.keys]
    by_cases e : k' = k
    · subst e; simp [hkb, hd_same]
    · rw [hd_other e]; simp [e]
  · rw [look_put l.map.nodup] at hu
    by_cases e : k' = k
    · subst e
      rw [if_pos rfl] at hu
      injection hu with hu
      subst hu
      obtain ⟨y, hy, hf⟩ := l.left _ _ hlk hrm
      refine ⟨y, ?_, (hf.kept (fun n hn hlt => hkeep n hlt (hQ2 _ _ hn).2.1 (hQ2 _ _ hn).2.2)).imp (fun n hn => .inr ⟨rfl, hn⟩)⟩
      rw [if_neg (by rw [hd_same]; decide), h.h2 _ hka]
      exact hy
    · rw [if_neg e] at hu
      obtain ⟨y, hy, hf⟩ := l.kid _ _ hu
      rw [hd_other e]
      exact ⟨y, hy, (hf.kept (fun n hn hlt => hkeep n hlt (h.footG hr l hn).2.2.1 (h.footG hr l hn).1)).imp (fun n hn => .inl ⟨e, hn⟩)⟩
  · have e : k' ≠ k := fun e => by rw [e, hd_same] at hh; cases hh
    rw [hd_other e] at hh
    obtain ⟨y, hy, hf⟩ := l.left _ _ hu hh
    exact ⟨y, hy, hf.kept (fun n hn hlt => hkeep n hlt (hQ2 _ _ hn).2.1 (hQ2 _ _ hn).2.2)⟩
  · rcases hn with ⟨e, hn⟩ | ⟨e, hn⟩
    · rw [hd_other e]
      obtain ⟨h3, h4⟩ := l.foot _ _ hn
      exact ⟨by omega, h4⟩
    · rw [e, hd_same]
      exact ⟨Nat.lt_of_lt_of_le (hQ2 _ _ hn).1 hsz, .inr (.inl ⟨rfl, hn⟩)⟩
  · have key : ∀ k' n, k' ≠ k → G k' n → ¬ Q2 k n := fun k' n e hn hq2 => by
      rcases (l.foot _ _ hn).2 with h4 | ⟨_, h4⟩ | h4
      · exact h.dis _ (h.q1 _ _ h4) (h.q2 _ _ hq2)
      · exact e (h.d2 _ _ _ h4 hq2)
      · have := h.l2 _ (h.q2 _ _ hq2); omega
    rcases hn with ⟨e, hn⟩ | ⟨e, hn⟩
    · rcases hn' with ⟨e', hn'⟩ | ⟨e', hn'⟩
      · exact l.apart _ _ _ hn hn'
      · exact absurd hn' (key _ _ e hn)
    · rcases hn' with ⟨e', hn'⟩ | ⟨e', hn'⟩
      · exact absurd hn (key _ _ e' hn')
      · rw [e, e']
  · exact (l.only.trans (⟨hg.os, hg.tape, hg.output, hg.size, fun n hn e => hg.block n hn (fun e' => by injection e' with e'; exact e e')⟩ : Only (fun n => n = r) wr w2) (fun n e hn => by omega)).trans (Only.of_grown hg3 (P := fun n => n = b1) rfl) (fun n e _ => e ▸ h.p1)
/-- a key that both have: their values are merged -/
theorem MgK.both (h : MgK a b z P1 P2 Q1 Q2 b1 b2 m1 m2 w) (hr : r = w.heap.size) (l : MgL a b z P1 Q1 Q2 b1 b2 r m2 w wr m rm G) {k : ByteArray} {v v6 : AV} {u : IV} (hq : (k, v) ∈ rm) (hyes : SM.has m k = true) (hu : kidI z k = some u)
    (ht : TRng w2 b2 r AV.enc m2 (del rm k)) (hg : wr.grownBy w2 (some r)) (hb3 : Below w2.heap.size w2 w3) (hv6 : FromF w6 (fun n => G k n ∨ Q2 k n ∨ (w3.heap.size ≤ n ∧ n < w6.heap.size)) v6 u) (ho6 : Only (G k) w3 w6)
    (hm : TMap w7 b1 AV.enc (put m k v6)) (hg7 : w6.grownBy w7 (some b1)) :
    MgL a b z P1 Q1 Q2 b1 b2 r m2 w w7 (put m k v6) (del rm k) (fun k' n => G k' n ∨ (k' = k ∧ (Q2 k n ∨ (w3.heap.size ≤ n ∧ n < w6.heap.size)))) := by
  have h1 := h.l1 _ h.p1
  have h2 := h.l2 _ h.p2
  have s3 := hb3.size
  have s6 := ho6.size
  have s2 := hg.size
  have s7 := hg7.size
  have sr := l.rng.lt
  have sw := l.only.size
  have hrm : SM.has rm k = true := has_iff.2 (List.mem_map_of_mem (f := fun q : ByteArray × AV => q.1) hq)
  have hkb : k ∈ b.f3 := (h.k2 k).1 (List.mem_map_of_mem (f := fun q : ByteArray × AV => q.1) (rng_mem_of l.rng hq))
  have hb12 : b2 ≠ b1 := fun e => h.dis _ h.p1 (e ▸ h.p2)
  have hfree : ∀ n, Q2 k n → False → False := fun _ _ h => h
  have hkeep : ∀ n, n < wr.heap.size → n ≠ r → n ≠ b1 → ¬ G k n → w7.heap[n]? = wr.heap[n]? := fun n hn e1 e2 e3 =>
    (hg7.block n (by omega) (fun e => by injection e with e; exact e2 e)).trans ((ho6.block n (by omega) e3).trans ((hb3.block n (by omega)).trans (hg.block n hn (fun e => by injection e with e; exact e1 e))))
  have hQ2 : ∀ k' n, Q2 k' n → n < wr.heap.size ∧ n ≠ r ∧ n ≠ b1 ∧ ¬ G k n := fun k' n hn => by
    have h5 := h.l2 _ (h.q2 _ _ hn)
    refine ⟨by omega, by omega, fun e => h.dis _ h.p1 (e ▸ h.q2 _ _ hn), fun hG => ?_⟩
    rcases (l.foot _ _ hG).2 with h4 | ⟨h4, _⟩ | h4
    · exact h.dis _ (h.q1 _ _ h4) (h.q2 _ _ hn)
    · rw [hrm] at h4; cases h4
    · omega
  have hG2 : ¬ G k b2 ∧ ¬ G k r := ⟨fun hG => (h.footG hr l hG).2.1 rfl, fun hG => (h.footG hr l hG).2.2.1 rfl⟩
  have hrng : TRng w7 b2 r AV.enc m2 (del rm k) := by
    refine ht.move ?_ ?_
    · exact (hg7.block b2 (by have := ht.map.lt; omega) (fun e => by injection e with e; exact hb12 e)).trans ((ho6.block b2 (by have := ht.map.lt; omega) hG2.1).trans (hb3.block b2 ht.map.lt))
    · exact (hg7.block r (by have := ht.lt; omega) (fun e => by injection e with e; omega)).trans ((ho6.block r (by have := ht.lt; omega) hG2.2).trans (hb3.block r ht.lt))
  refine ⟨hrng, hm, fun k' => ?_, fun k' q hq' => ?_, fun k' q hq' hh => ?_, fun k' n hn => ?_, fun k' k'' n hn hn' => ?_, ?_⟩
  · rw [keys_put_iff, l.keys]
    by_cases e : k' = k
    · subst e; simp [hkb, hd_same]
    · rw [hd_other e]; simp [e]
  · rw [look_put l.map.nodup] at hq'
    by_cases e : k' = k
    · subst e
      rw [if_pos rfl] at hq'
      injection hq' with hq'
      subst hq'
      refine ⟨u, by rw [if_neg (by rw [hd_same]; decide)]; exact hu, (hv6.kept (fun n hn hlt => hg7.block n hlt (fun e => ?_))).imp (fun n hn => ?_)⟩
      · injection e with e
        rcases hn with hn | hn | hn
        · exact (h.footG hr l hn).1 e
        · exact (hQ2 _ _ hn).2.2.1 e
        · omega
      · rcases hn with hn | hn | hn
        · exact .inl hn
        · exact .inr ⟨rfl, .inl hn⟩
        · exact .inr ⟨rfl, .inr hn⟩
    · rw [if_neg e] at hq'
      obtain ⟨y, hy, hf⟩ := l.kid _ _ hq'
      rw [hd_other e]
      exact ⟨y, hy, (hf.kept (fun n hn hlt => hkeep n hlt (h.footG hr l hn).2.2.1 (h.footG hr l hn).1 (fun hG => e (l.apart _ _ _ hn hG)))).imp (fun n hn => .inl hn)⟩
  · have e : k' ≠ k := fun e => by rw [e, hd_same] at hh; cases hh
    rw [hd_other e] at hh
    obtain ⟨y, hy, hf⟩ := l.left _ _ hq' hh
    exact ⟨y, hy, hf.kept (fun n hn hlt => hkeep n hlt (hQ2 _ _ hn).2.1 (hQ2 _ _ hn).2.2.1 (hQ2 _ _ hn).2.2.2)⟩
  · rcases hn with hn | ⟨e, hn⟩
    · obtain ⟨h3, h4⟩ := l.foot _ _ hn
      refine ⟨by omega, ?_⟩
      rcases h4 with h4 | ⟨h4, h5⟩ | h4
      · exact .inl h4
      · refine .inr (.inl ⟨?_, h5⟩)
        by_cases e : k' = k
        · rw [e, hd_same]
        · rw [hd_other e]; exact h4
      · exact .inr (.inr h4)
    · rw [e, hd_same]
      rcases hn with hn | hn
      · exact ⟨by have := (hQ2 _ _ hn).1; omega, .inr (.inl ⟨rfl, hn⟩)⟩
      · exact ⟨by omega, .inr (.inr (by omega))⟩
  · have key : ∀ k' n, k' ≠ k → G k' n → ¬ (Q2 k n ∨ (w3.heap.size ≤ n ∧ n < w6.heap.size)) := fun k' n e hn hq2 => by
      have h5 := l.foot _ _ hn
      rcases hq2 with hq2 | hq2
      · rcases h5.2 with h4 | ⟨_, h4⟩ | h4
        · exact h.dis _ (h.q1 _ _ h4) (h.q2 _ _ hq2)
        · exact e (h.d2 _ _ _ h4 hq2)
        · have := h.l2 _ (h.q2 _ _ hq2); omega
      · omega
    rcases hn with hn | ⟨e, hn⟩
    · rcases hn' with hn' | ⟨e', hn'⟩
      · exact l.apart _ _ _ hn hn'
      · by_cases e : k' = k
        · rw [e, e']
        · exact absurd hn' (key _ _ e hn)
    · rcases hn' with hn' | ⟨e', hn'⟩
      · by_cases e' : k'' = k
        · rw [e, e']
        · exact absurd hn (key _ _ e' hn')
      · rw [e, e']
  · have o1 := l.only.trans (⟨hg.os, hg.tape, hg.output, hg.size, fun n hn e => hg.block n hn (fun e' => by injection e' with e'; exact e e')⟩ : Only (fun n => n = r) wr w2) (fun n e hn => by omega)
    have o2 := o1.trans (Only.of_below (P := fun _ => False) hb3) (fun n e _ => e.elim)
    have o3 := o2.trans ho6 (fun n hn hlt => ?_)
    · exact o3.trans (Only.of_grown hg7 (P := fun n => n = b1) rfl) (fun n e _ => e ▸ h.p1)
    · rcases (l.foot _ _ hn).2 with h4 | ⟨h4, _⟩ | h4
      · exact h.q1 _ _ h4
      · rw [hrm] at h4; cases h4
      · omega
end Go.Proofs.YtiamiagjkfioiaaGreatDoor.A
