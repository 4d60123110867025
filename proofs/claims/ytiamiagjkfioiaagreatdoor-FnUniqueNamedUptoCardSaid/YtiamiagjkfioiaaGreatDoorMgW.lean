/- Joined texts. -/
import Derived.Test.YtiamiagjkfioiaaGreatDoorMgS
import Derived.Test.YtiamiagjkfioiaaGreatDoorFromA
/- The state of override.mergeMappings' loop, and its steps. Plain. -/
namespace Go.Proofs.YtiamiagjkfioiaaGreatDoor.A
set_option linter.unusedVariables false
set_option linter.unusedSimpArgs false
set_option linter.unusedSectionVars false
open Go.RowKit Go.Proofs.YtiamiagjkfioiaaGreatDoorW.PrintWords Go.Proofs.YtiamiagjkfioiaaGreatDoorW.PrintLast Go.Proofs.YtiamiagjkfioiaaGreatDoorW.PrintMore Go.Proofs.YtiamiagjkfioiaaGreatDoor.PT Go.Proofs.YtiamiagjkfioiaaGreatDoor.L Go.Proofs.YtiamiagjkfioiaaGreatDoor.SM

/-- what stands fast while two maps are merged -/
structure MgK (a b z : IV) (P1 P2 : Nat → Prop) (Q1 Q2 : ByteArray → Nat → Prop) (b1 b2 : Nat) (m1 m2 : List (ByteArray × AV)) (w : World) : Prop where
  fz : Fine z
  z5 : z.f0 = 5
  hk : ∀ k, k ∈ z.f3 ↔ k ∈ a.f3 ∨ k ∈ b.f3
  h1 : ∀ k, k ∉ b.f3 → kidI z k = kidI a k
  h2 : ∀ k, k ∉ a.f3 → kidI z k = kidI b k
  k1 : ∀ k, k ∈ SM.keys m1 ↔ k ∈ a.f3
  k2 : ∀ k, k ∈ SM.keys m2 ↔ k ∈ b.f3
  t1 : TMap w b1 AV.enc m1
  t2 : TMap w b2 AV.enc m2
  e1 : ∀ k u, SM.look m1 k = some u → ∃ x, kidI a k = some x ∧ FromF w (Q1 k) u x
  e2 : ∀ k u, SM.look m2 k = some u → ∃ x, kidI b k = some x ∧ FromF w (Q2 k) u x
  l1 : ∀ n, P1 n → n < w.heap.size
  l2 : ∀ n, P2 n → n < w.heap.size
  dis : ∀ n, P1 n → ¬ P2 n
  p1 : P1 b1
  p2 : P2 b2
  q1 : ∀ k n, Q1 k n → P1 n
  q2 : ∀ k n, Q2 k n → P2 n
  n1 : ∀ k, ¬ Q1 k b1
  n2 : ∀ k, ¬ Q2 k b2
  d1 : ∀ k k' n, Q1 k n → Q1 k' n → k = k'
  d2 : ∀ k k' n, Q2 k n → Q2 k' n → k = k'
structure MgL (a b z : IV) (P1 : Nat → Prop) (Q1 Q2 : ByteArray → Nat → Prop) (b1 b2 r : Nat) (m2 : List (ByteArray × AV)) (w wr : World) (m rm : List (ByteArray × AV)) (G : ByteArray → Nat → Prop) : Prop where
  rng : TRng wr b2 r AV.enc m2 rm
  map : TMap wr b1 AV.enc m
  keys : ∀ k, k ∈ SM.keys m ↔ k ∈ a.f3 ∨ (k ∈ b.f3 ∧ SM.has rm k = false)
  kid : ∀ k v, SM.look m k = some v → ∃ y, (if SM.has rm k = true then kidI a k else kidI z k) = some y ∧ FromF wr (G k) v y
  left : ∀ k v, SM.look m2 k = some v → SM.has rm k = true → ∃ y, kidI b k = some y ∧ FromF wr (Q2 k) v y
  foot : ∀ k n, G k n → n < wr.heap.size ∧ (Q1 k n ∨ (SM.has rm k = false ∧ Q2 k n) ∨ r < n)
  apart : ∀ k k' n, G k n → G k' n → k = k'
  only : Only P1 w wr
variable {a b z : IV} {P1 P2 : Nat → Prop} {Q1 Q2 G : ByteArray → Nat → Prop} {b1 b2 r : Nat} {m1 m2 m rm : List (ByteArray × AV)} {w wr w2 w3 w6 w7 : World}
theorem MgK.start (h : MgK a b z P1 P2 Q1 Q2 b1 b2 m1 m2 w) (hr : r = w.heap.size) (ht : TRng w2 b2 r AV.enc m2 m2) (hg : w.grownBy w2 none) : MgL a b z P1 Q1 Q2 b1 b2 r m2 w w2 m1 m2 Q1 := by
  have hb : ∀ k, k < w.heap.size → w2.heap[k]? = w.heap[k]? := fun k hk => hg.block k hk (fun e => by cases e)
  have hm2 : ∀ k, SM.has m2 k = true ↔ k ∈ b.f3 := fun k => by rw [has_iff]; exact h.k2 k
  refine ⟨ht, SMap.move h.t1 (hb _ h.t1.lt), fun k => ?_, fun k v hv => ?_, fun k v hv _ => ?_, fun k n hn => ⟨Nat.lt_of_lt_of_le (h.l1 _ (h.q1 _ _ hn)) hg.size, .inl hn⟩, h.d1, ⟨hg.os, hg.tape, hg.output, hg.size, fun k hk _ => hb k hk⟩⟩
  · rw [h.k1]
    constructor
    · exact .inl
    · rintro (h1 | ⟨h1, h2⟩)
      · exact h1
      · rw [(hm2 k).2 h1] at h2; cases h2
  · obtain ⟨x, hx, hf⟩ := h.e1 k v hv
    refine ⟨x, ?_, hf.kept (fun n _ hn => hb n hn)⟩
    split
    · exact hx
    · rename_i hh
      rw [h.h1 k (fun hk => hh ((hm2 k).2 hk)), hx]
  · obtain ⟨x, hx, hf⟩ := h.e2 k v hv
    exact ⟨x, hx, hf.kept (fun n _ hn => hb n hn)⟩
theorem MgK.footG (h : MgK a b z P1 P2 Q1 Q2 b1 b2 m1 m2 w) (hr : r = w.heap.size) (l : MgL a b z P1 Q1 Q2 b1 b2 r m2 w wr m rm G) {k : ByteArray} {n : Nat} (hn : G k n) : n ≠ b1 ∧ n ≠ b2 ∧ n ≠ r ∧ n < wr.heap.size := by
  have h1 := h.l1 _ h.p1
  have h2 := h.l2 _ h.p2
  obtain ⟨h3, h4⟩ := l.foot k n hn
  refine ⟨fun e => ?_, fun e => ?_, fun e => ?_, h3⟩
  · subst e
    rcases h4 with h4 | ⟨_, h4⟩ | h4
    · exact h.n1 k h4
    · exact h.dis _ h.p1 (h.q2 _ _ h4)
    · omega
  · subst e
    rcases h4 with h4 | ⟨_, h4⟩ | h4
    · exact h.dis _ (h.q1 _ _ h4) h.p2
    · exact h.n2 k h4
    · omega
  · rcases h4 with h4 | ⟨_, h4⟩ | h4
    · have := h.l1 _ (h.q1 _ _ h4); omega
    · have := h.l2 _ (h.q2 _ _ h4); omega
    · omega
theorem MgK.done (h : MgK a b z P1 P2 Q1 Q2 b1 b2 m1 m2 w) (hr : r = w.heap.size) (l : MgL a b z P1 Q1 Q2 b1 b2 r m2 w wr m [] G) : FromF wr (fun n => P1 n ∨ P2 n ∨ (w.heap.size ≤ n ∧ n < wr.heap.size)) (.map b1) z := by
  refine FromF.mapK h.fz h.z5 G l.map (.inl h.p1) (fun k hn => (h.footG hr l hn).1 rfl) (fun k n hn => ?_) l.apart (fun k => ?_) (fun k v hv => ?_)
  · obtain ⟨h3, h4⟩ := l.foot k n hn
    rcases h4 with h4 | ⟨_, h4⟩ | h4
    · exact .inl (h.q1 _ _ h4)
    · exact .inr (.inl (h.q2 _ _ h4))
    · exact .inr (.inr ⟨by omega, h3⟩)
  · rw [l.keys, h.hk]
    simp [SM.has]
  · obtain ⟨y, hy, hf⟩ := l.kid k v hv
    refine ⟨y, ?_, hf⟩
    rw [if_neg (by simp [SM.has])] at hy
    exact hy
end Go.Proofs.YtiamiagjkfioiaaGreatDoor.A
/- The walks of override.mergeMappings, override.MergeYaml (two maps), override.Merge. -/
namespace Go.Proofs.YtiamiagjkfioiaaGreatDoor.A
set_option linter.unusedVariables false
set_option linter.unusedSimpArgs false
set_option linter.unusedSectionVars false
open Go.RowKit Go.Proofs.YtiamiagjkfioiaaGreatDoorW.PrintWords Go.Proofs.YtiamiagjkfioiaaGreatDoorW.PrintLast Go.Proofs.YtiamiagjkfioiaaGreatDoorW.PrintMore Go.Proofs.YtiamiagjkfioiaaGreatDoor.PT Go.Proofs.YtiamiagjkfioiaaGreatDoor.L Go.Proofs.YtiamiagjkfioiaaGreatDoor.SM

/-- what a merge answers -/
def MgAns (w : World) (P1 P2 : Nat → Prop) (z : IV) (e : Ending) (w' : World) : Prop := ∃ v : AV, e = .returned (.tuple #[v.enc, .nilIface]) ∧ FromF w' (fun n => P1 n ∨ P2 n ∨ (w.heap.size ≤ n ∧ n < w'.heap.size)) v z ∧ Only P1 w w'
/-- override.MergeYaml of a and b at a path makes z -/
def MYC (p : ByteArray) (a b z : IV) : Prop := ∀ (w : World) (u1 u2 : AV) (P1 P2 : Nat → Prop), FromF w P1 u1 a → FromF w P2 u2 b → (∀ n, P1 n → n < w.heap.size) → (∀ n, P2 n → n < w.heap.size) → (∀ n, P1 n → ¬ P2 n) →
  Calls Tryz.prog 41 #[u1.enc, u2.enc, .string p] w (MgAns w P1 P2 z)
theorem MYC.use {p : ByteArray} {a b z : IV} (h : MYC p a b z) {w : World} {u1 u2 : AV} {P1 P2 : Nat → Prop} (h1 : FromF w P1 u1 a) (h2 : FromF w P2 u2 b) (l1 : ∀ n, P1 n → n < w.heap.size) (l2 : ∀ n, P2 n → n < w.heap.size) (hd : ∀ n, P1 n → ¬ P2 n) :
  Calls Tryz.prog 41 #[u1.enc, u2.enc, .string p] w (MgAns w P1 P2 z) := h w u1 u2 P1 P2 h1 h2 l1 l2 hd
end Go.Proofs.YtiamiagjkfioiaaGreatDoor.A
