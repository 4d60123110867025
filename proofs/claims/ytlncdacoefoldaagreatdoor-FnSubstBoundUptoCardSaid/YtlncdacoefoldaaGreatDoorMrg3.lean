/- Texts of this claim, joined: WLast, SubM, L, SubE, SubC, Bytes, SpecM, SpecL, SpecC, SubWd, SpecT. -/
import Derived.OrdersHeld
import Derived.Deep.RegionHeld3
import Derived.Laws.BitsLemmas
import Derived.RowKit
import Derived.Lib.Index
import Derived.WalkKit
import Derived.BigQuiet
import Derived.Deep.QuietTactic
import Derived.ProofKit
import Derived.OpenShut
import Derived.ShutString
import Derived.Lib.Hide
import Derived.WalkSpells
import Derived.WalkLawsBesides
import Derived.Lib.IndexMore
import Derived.Lib.IndexLaws
import Derived.Lib.AppendStr
import Derived.Laws.BytesArg
-- Written by a program over the translation (xprint.py). Lean checks it.
/-
  PRINTED WORDS, second file: A REGION THAT DRAWS ITS ORDER, WALKED BY HAND, where its last store writes what its own loads read ('x.f = append(x.f, f(i))'). Plain theorems; no macro, no elab. A claim may hold it (turn the namespace's name).
  A load may be taken first in every world that meets S; behind the operations of ds nothing is shown; sound because each of ds waits for what is taken (Region.lastB). The kernel checks it.
  By an AI agent of Go's test side, Mon Nov 16 2026. No person has read it.
-/
namespace Go.Proofs.YtlncdacoefoldaaGreatDoorW.PrintLast

section
variable {P : Program} {ops : Array Oper} {Q : Exit → Act → World → Prop} {md : Region.Mode} {S : World → Prop} {ds : List Nat}

/-- Operation d waits for operation i, by a chain of at most 'fuel' edges. -/
def Region.reachB (md : Region.Mode) (ops : Array Oper) (i : Nat) : Nat → Nat → Bool
  | 0, _ => false
  | fuel + 1, d => match ops[d]? with
    | some o => o.after.any fun e => Region.binds md e && (e.on == i || Region.reachB md ops i fuel e.on)
    | none => false

/-- What is listed is closed under the edges. -/
def Region.closedB (md : Region.Mode) (ops : Array Oper) (listed : Array Bool) : Bool :=
  (List.range ops.size).all fun j => !listed.getD j false || match ops[j]? with
    | some o => o.after.all fun e => !Region.binds md e || listed.getD e.on false
    | none => true

/-- Each of ds that has not come up yet waits for number i. -/
def Region.lastB (md : Region.Mode) (ops : Array Oper) (listed : Array Bool) (ds : List Nat) (i : Nat) : Bool :=
  ds.all fun d => listed.getD d true || Region.reachB md ops i ops.size d

def ListedClosed (md : Region.Mode) (ops : Array Oper) (listed : Array Bool) : Prop :=
  ∀ j oj, ops[j]? = some oj → listed.getD j false = true → ∀ e ∈ oj.after, Region.binds md e = true → listed.getD e.on false = true

theorem Region.closedB_spec {listed : Array Bool} (h : Region.closedB md ops listed = true) : ListedClosed md ops listed := by
  intro j oj hj hl e he hb
  have hlt : j < ops.size := (Array.getElem?_eq_some_iff.1 hj).1
  have h1 := List.all_eq_true.1 h j (List.mem_range.2 hlt)
  simp only [hl, hj, Bool.not_true, Bool.false_or] at h1
  have h2 := Array.all_eq_true_iff_forall_mem.1 h1 e he
  simpa [hb] using h2

theorem ListedClosed.set {listed : Array Bool} {i : Nat} (h : ListedClosed md ops listed) (hi : i ∈ Region.ready md ops listed) : ListedClosed md ops (listed.setIfInBounds i true) := by
  obtain ⟨_, oi, hoi, hall⟩ := mem_ready.1 hi
  intro j oj hj hl e he hb
  by_cases hij : i = j
  · subst hij
    have : oj = oi := Option.some.inj (hj.symm.trans hoi)
    subst this
    exact getD_set_true (hall e he hb)
  · rw [getD_set_ne false hij] at hl
    exact getD_set_true (h j oj hj hl e he hb)

theorem Region.reach_listed {listed : Array Bool} {i : Nat} (hc : ListedClosed md ops listed) : ∀ (fuel d : Nat), Region.reachB md ops i fuel d = true → listed.getD d false = true → listed.getD i false = true
  | 0, _, h, _ => by simp [Region.reachB] at h
  | fuel + 1, d, h, hl => by
    unfold Region.reachB at h
    cases ho : ops[d]? with
    | none => rw [ho] at h; simp at h
    | some o =>
      rw [ho] at h
      obtain ⟨e, he, h1⟩ := Array.any_eq_true'.1 h
      simp only [Bool.and_eq_true, Bool.or_eq_true, beq_iff_eq] at h1
      have hle := hc d o ho hl e he h1.1
      rcases h1.2 with h2 | h2
      · rw [← h2]; exact hle
      · exact Region.reach_listed hc fuel e.on h2 hle

/-- What waits for i cannot come up before i is listed. -/
theorem Region.reach_not_ready {listed : Array Bool} {i d fuel : Nat} (hc : ListedClosed md ops listed) (hr : Region.reachB md ops i fuel d = true) (hun : listed.getD i true = false) : d ∉ Region.ready md ops listed := by
  intro hd
  obtain ⟨_, o, ho, hall⟩ := mem_ready.1 hd
  have hi : listed.getD i false = true := by
    cases fuel with
    | zero => simp [Region.reachB] at hr
    | succ n =>
      unfold Region.reachB at hr
      rw [ho] at hr
      obtain ⟨e, he, h1⟩ := Array.any_eq_true'.1 hr
      simp only [Bool.and_eq_true, Bool.or_eq_true, beq_iff_eq] at h1
      have hle := hall e he h1.1
      rcases h1.2 with h2 | h2
      · rw [← h2]; exact hle
      · exact Region.reach_listed hc n e.on h2 hle
  rcases Nat.lt_or_ge i listed.size with h' | h'
  · simp [h'] at hun hi
    rw [hun] at hi
    cases hi
  · simp [Array.getElem?_eq_none h'] at hun

/-- Whatever order is picked from here on, AND 'S' HOLDS BEHIND EVERY OPERATION THAT IS CARRIED OUT, those of ds apart. -/
def wpAnyLast (P : Program) (md : Region.Mode) (ops : Array Oper) (Q : Exit → Act → World → Prop) (S : World → Prop) (ds : List Nat) : Nat → Array Bool → Act → World → Prop
  | 0, listed, a, w => Region.ready md ops listed = [] ∧ Q .normal a w
  | fuel + 1, listed, a, w =>
    (Region.ready md ops listed = [] → Q .normal a w) ∧
    ∀ i ∈ Region.ready md ops listed, wpOp P ops Q i (fun a' w' => (i ∉ ds → S w → S w') ∧ wpAnyLast P md ops Q S ds fuel (listed.setIfInBounds i true) a' w') a w

theorem wpAny_of_last : ∀ (fuel : Nat) (listed : Array Bool) (a : Act) (w : World), wpAnyLast P md ops Q S ds fuel listed a w → wpAny P md ops Q fuel listed a w
  | 0, _, _, _, h => h
  | fuel + 1, _, _, _, h => ⟨h.1, fun i hi => wpOp_mono (fun a' w' h' => wpAny_of_last fuel _ a' w' h'.2) (h.2 i hi)⟩

theorem wpAnyLast_first {i : Nat} {oi : Oper} {v : Value} (hi : ops[i]? = some oi) (hsel : ∀ (j : Nat) (o : Oper) cs b, ops[j]? = some o → o.op ≠ .select cs b)
    (hQ : ∀ c a w, Q (.panic c) (a.put oi.dst v) w → Q (.panic c) a w) (n : Nat) :
    ∀ (fuel : Nat) (listed : Array Bool) (a : Act) (w : World),
      (∀ j oj, ops[j]? = some oj → j ≠ i → listed.getD j true = false → (∀ e ∈ oj.after, Region.binds md e = true → e.on ≠ i) → oi.apart ops oj = true) →
      ListedClosed md ops listed → (∀ d ∈ ds, listed.getD d true = false → Region.reachB md ops i n d = true) →
      i ∈ Region.ready md ops listed → YieldsIf P ops S oi v a → S w →
      wpAnyLast P md ops Q S ds fuel (listed.setIfInBounds i true) (a.put oi.dst v) w → wpAnyLast P md ops Q S ds (fuel + 1) listed a w := by
  intro fuel
  induction fuel with
  | zero =>
    intro listed a w _ _ _ hr hy hS H
    refine ⟨fun h => (by rw [h] at hr; cases hr), fun j hj => ?_⟩
    by_cases hji : j = i
    · subst hji; exact hy.wpOp hi hS ⟨fun _ h => h, H⟩
    · have := ready_mono hj hji
      rw [H.1] at this
      cases this
  | succ fuel ih =>
    intro listed a w hfree hc hd hr hy hS H
    refine ⟨fun h => (by rw [h] at hr; cases hr), fun j hj => ?_⟩
    by_cases hji : j = i
    · subst hji; exact hy.wpOp hi hS ⟨fun _ h => h, H⟩
    · have h1 := H.2 j (ready_mono hj hji)
      obtain ⟨hjun, oj, hoj, hall⟩ := mem_ready.1 hj
      have hiun := (mem_ready.1 hr).1
      have hnot : ∀ e ∈ oj.after, Region.binds md e = true → e.on ≠ i := fun e he hb heq => by
        have h1 := hall e he hb
        rw [heq] at h1
        rcases Nat.lt_or_ge i listed.size with h' | h'
        · simp [h'] at hiun h1; rw [hiun] at h1; cases h1
        · simp [Array.getElem?_eq_none h'] at h1
      have hjd : j ∉ ds := fun hm => Region.reach_not_ready hc (hd j hm hjun) hiun hj
      have h2 := wpOp_putIf hoj (hfree j oj hoj hji hjun hnot) (fun cs b => hsel i oi cs b hi) (fun cs b => hsel j oj cs b hoj) hQ hy h1
      have hfree' : ∀ k ok, ops[k]? = some ok → k ≠ i → (listed.setIfInBounds j true).getD k true = false →
          (∀ e ∈ ok.after, Region.binds md e = true → e.on ≠ i) → oi.apart ops ok = true := fun k ok hk hki hun hno => by
        refine hfree k ok hk hki ?_ hno
        by_cases hjk : j = k
        · subst hjk; exact hjun
        · rw [getD_set_ne true hjk] at hun; exact hun
      have hd' : ∀ d ∈ ds, (listed.setIfInBounds j true).getD d true = false → Region.reachB md ops i n d = true := fun d hm hun => by
        refine hd d hm ?_
        by_cases hjk : j = d
        · subst hjk; exact hjun
        · rw [getD_set_ne true hjk] at hun; exact hun
      refine wpOp_mono (fun a' w' h3 => ⟨h3.2.1, ih (listed.setIfInBounds j true) a' w' hfree' (hc.set hj) hd' (ready_mono hr (Ne.symm hji)) h3.1 (h3.2.1 hjd hS) ?_⟩) h2
      rw [Array.setIfInBounds_comm _ _ hji]
      exact h3.2.2

/-- Take number 'i' first, which yields whatever the world: no S is asked for, nor that anything waits for it. -/
theorem wpAnyLast_any {i : Nat} {oi : Oper} {v : Value} (hi : ops[i]? = some oi) (hsel : ∀ (j : Nat) (o : Oper) cs b, ops[j]? = some o → o.op ≠ .select cs b)
    (hQ : ∀ c a w, Q (.panic c) (a.put oi.dst v) w → Q (.panic c) a w) :
    ∀ (fuel : Nat) (listed : Array Bool) (a : Act) (w : World),
      (∀ j oj, ops[j]? = some oj → j ≠ i → listed.getD j true = false → (∀ e ∈ oj.after, Region.binds md e = true → e.on ≠ i) → oi.apart ops oj = true) →
      i ∈ Region.ready md ops listed → Yields P ops oi v a →
      wpAnyLast P md ops Q S ds fuel (listed.setIfInBounds i true) (a.put oi.dst v) w → wpAnyLast P md ops Q S ds (fuel + 1) listed a w := by
  intro fuel
  induction fuel with
  | zero =>
    intro listed a w _ hr hy H
    refine ⟨fun h => (by rw [h] at hr; cases hr), fun j hj => ?_⟩
    by_cases hji : j = i
    · subst hji; exact (hy.yieldsIf (S := fun _ => True)).wpOp hi trivial ⟨fun _ h => h, H⟩
    · have := ready_mono hj hji
      rw [H.1] at this
      cases this
  | succ fuel ih =>
    intro listed a w hfree hr hy H
    refine ⟨fun h => (by rw [h] at hr; cases hr), fun j hj => ?_⟩
    by_cases hji : j = i
    · subst hji; exact (hy.yieldsIf (S := fun _ => True)).wpOp hi trivial ⟨fun _ h => h, H⟩
    · have h1 := H.2 j (ready_mono hj hji)
      obtain ⟨hjun, oj, hoj, hall⟩ := mem_ready.1 hj
      have hiun := (mem_ready.1 hr).1
      have hnot : ∀ e ∈ oj.after, Region.binds md e = true → e.on ≠ i := fun e he hb heq => by
        have h1 := hall e he hb
        rw [heq] at h1
        rcases Nat.lt_or_ge i listed.size with h' | h'
        · simp [h'] at hiun h1; rw [hiun] at h1; cases h1
        · simp [Array.getElem?_eq_none h'] at h1
      have h2 := wpOp_put hoj (hfree j oj hoj hji hjun hnot) (fun cs b => hsel i oi cs b hi) (fun cs b => hsel j oj cs b hoj) hQ hy h1
      have hfree' : ∀ k ok, ops[k]? = some ok → k ≠ i → (listed.setIfInBounds j true).getD k true = false →
          (∀ e ∈ ok.after, Region.binds md e = true → e.on ≠ i) → oi.apart ops ok = true := fun k ok hk hki hun hno => by
        refine hfree k ok hk hki ?_ hno
        by_cases hjk : j = k
        · subst hjk; exact hjun
        · rw [getD_set_ne true hjk] at hun; exact hun
      refine wpOp_mono (fun a' w' h3 => ⟨h3.2.1, ih (listed.setIfInBounds j true) a' w' hfree' (ready_mono hr (Ne.symm hji)) h3.1 ?_⟩) h2
      rw [Array.setIfInBounds_comm _ _ hji]
      exact h3.2.2

/-- Take number 'i' first. -/
theorem wpAnyLast_take {i : Nat} {oi : Oper} {v : Value} {fuel : Nat} {listed : Array Bool} {a : Act} {w : World} (hi : ops[i]? = some oi)
    (hs : Region.noSelect ops = true) (hf : Region.free md ops listed i = true) (hr : (Region.ready md ops listed).contains i = true)
    (hc : Region.closedB md ops listed = true) (hl : Region.lastB md ops listed ds i = true)
    (hQ : ∀ c a w, Q (.panic c) (a.put oi.dst v) w → Q (.panic c) a w) (hy : YieldsIf P ops S oi v a) (hS : S w)
    (h : wpAnyLast P md ops Q S ds fuel (listed.setIfInBounds i true) (a.put oi.dst v) w) : wpAnyLast P md ops Q S ds (fuel + 1) listed a w :=
  wpAnyLast_first hi (Region.noSelect_spec hs) hQ ops.size fuel listed a w (Region.free_spec hi hf) (Region.closedB_spec hc)
    (fun d hm hun => by have := List.all_eq_true.1 hl d hm; rw [hun] at this; simpa using this) (by simpa using hr) hy hS h

theorem wpAnyLast_all {rs : List Nat} {fuel : Nat} {listed : Array Bool} {a : Act} {w : World} (hr : Region.ready md ops listed = rs) (hne : rs ≠ [])
    (h : ∀ i ∈ rs, wpOp P ops Q i (fun a' w' => (i ∉ ds → S w → S w') ∧ wpAnyLast P md ops Q S ds fuel (listed.setIfInBounds i true) a' w') a w) : wpAnyLast P md ops Q S ds (fuel + 1) listed a w :=
  ⟨fun h0 => absurd (hr ▸ h0) hne, hr ▸ h⟩

theorem wpAnyLast_done {listed : Array Bool} {a : Act} {w : World} (hr : Region.ready md ops listed = []) (h : Q .normal a w) :
    ∀ fuel, wpAnyLast P md ops Q S ds fuel listed a w
  | 0 => ⟨hr, h⟩
  | _ + 1 => ⟨fun _ => h, by rw [hr]; simp⟩

theorem wp_region_last {id : Nat} {a : Act} {w : World} (hm : P.follows .mixedOrders = true)
    (h : wpAnyLast P .any ops Q S ds ops.size (Array.replicate ops.size false) a { w with drawn := w.drawn + 1 }) : (Code.region id ops true).wp P Q a w :=
  wp_region_any hm (wpAny_of_last _ _ _ _ h)

end

section
variable {P : Program} {ops : Array Oper} {Q : Exit → Act → World → Prop} {md : Region.Mode} {S : World → Prop} {ds : List Nat}

def AllReadyL (P : Program) (md : Region.Mode) (ops : Array Oper) (Q : Exit → Act → World → Prop) (S : World → Prop) (ds : List Nat) (fuel : Nat) (listed : Array Bool) (a : Act) (w : World) (rs : List Nat) : Prop :=
  ∀ i ∈ rs, wpOp P ops Q i (fun a' w' => (i ∉ ds → S w → S w') ∧ wpAnyLast P md ops Q S ds fuel (listed.setIfInBounds i true) a' w') a w
theorem AllReadyL.nil {fuel : Nat} {listed : Array Bool} {a : Act} {w : World} : AllReadyL P md ops Q S ds fuel listed a w [] := fun _ h => by cases h
theorem AllReadyL.cons {fuel : Nat} {listed : Array Bool} {a : Act} {w : World} {i : Nat} {o : Oper} {rs : List Nat} (ho : ops[i]? = some o) (hd : i ∉ ds)
    (h : ∀ K' : Act → World → Prop, Shut (∀ a w, S w → (S w → wpAnyLast P md ops Q S ds fuel (listed.setIfInBounds i true) a w) → K' a w) → if Region.wanted o (yielded ops a.tmps) = true then Oper.wp P o a w K' Q else K' (a.put o.dst undef) w)
    (hs : AllReadyL P md ops Q S ds fuel listed a w rs) : AllReadyL P md ops Q S ds fuel listed a w (i :: rs) := fun j hj => by
  rcases List.mem_cons.1 hj with rfl | hj
  · exact wpOp_step ho (fun K' hK => h K' (fun a w hS hW => hK a w ⟨fun _ _ => hS, hW hS⟩))
  · exact hs j hj
/-- Behind an operation of ds nothing is shown. -/
theorem AllReadyL.cons_last {fuel : Nat} {listed : Array Bool} {a : Act} {w : World} {i : Nat} {o : Oper} {rs : List Nat} (ho : ops[i]? = some o) (hd : i ∈ ds)
    (h : ∀ K' : Act → World → Prop, Shut (∀ a w, wpAnyLast P md ops Q S ds fuel (listed.setIfInBounds i true) a w → K' a w) → if Region.wanted o (yielded ops a.tmps) = true then Oper.wp P o a w K' Q else K' (a.put o.dst undef) w)
    (hs : AllReadyL P md ops Q S ds fuel listed a w rs) : AllReadyL P md ops Q S ds fuel listed a w (i :: rs) := fun j hj => by
  rcases List.mem_cons.1 hj with rfl | hj
  · exact wpOp_step ho (fun K' hK => h K' (fun a w hW => hK a w ⟨fun hn => absurd hd hn, hW⟩))
  · exact hs j hj
theorem wpAnyLast_ready {rs : List Nat} {fuel : Nat} {listed : Array Bool} {a : Act} {w : World} (hr : Region.ready md ops listed = rs) (hne : rs ≠ [])
    (h : AllReadyL P md ops Q S ds fuel listed a w rs) : wpAnyLast P md ops Q S ds (fuel + 1) listed a w := wpAnyLast_all hr hne h
/-- THE SAME STEPS WITH WHAT HAS COME UP WRITTEN OUT (a literal array of Bools) and one check a step: quicker, and what is printed stays short. -/
theorem start_ {id n : Nat} {a : Act} {w : World} (l : Array Bool) (hm : P.follows .mixedOrders = true) (hn : ops.size = n) (hl : Array.replicate n false = l) (hS : S w.drew)
    (h : S w.drew → wpAnyLast P .any ops Q S ds n l a w.drew) : (Code.region id ops true).wp P Q a w := by
  subst hn
  subst hl
  exact wp_region_last hm (h hS)
def takeB (md : Region.Mode) (ops : Array Oper) (ds : List Nat) (l l' : Array Bool) (i : Nat) : Bool :=
  Region.noSelect ops && Region.free md ops l i && (Region.ready md ops l).contains i && Region.closedB md ops l && Region.lastB md ops l ds i && (l.setIfInBounds i true == l')
theorem take_ {i : Nat} {N : Option Tmp} {oi : Oper} {v : Value} {fuel : Nat} {l : Array Bool} {a : Act} {w : World} (l' : Array Bool) (hi : ops[i]? = some oi) (hN : oi.dst = N) (hc : takeB md ops ds l l' i = true)
    (hQ : ∀ c a w, Q (.panic c) (a.put oi.dst v) w → Q (.panic c) a w) (hy : YieldsIf P ops S oi v a) (hS : S w) {a' : Act} (ha : a.put N v = a')
    (h : wpAnyLast P md ops Q S ds fuel l' a' w) : wpAnyLast P md ops Q S ds (fuel + 1) l a w := by
  subst ha
  subst hN
  simp only [takeB, Bool.and_eq_true, beq_iff_eq] at hc
  obtain ⟨⟨⟨⟨⟨h1, h2⟩, h3⟩, h4⟩, h5⟩, h6⟩ := hc
  subst h6
  exact wpAnyLast_take hi h1 h2 h3 h4 h5 hQ hy hS h
def anyB (md : Region.Mode) (ops : Array Oper) (l l' : Array Bool) (i : Nat) : Bool :=
  Region.noSelect ops && Region.free md ops l i && (Region.ready md ops l).contains i && (l.setIfInBounds i true == l')
/-- An operation that yields in every world (a move, a number, an address): taken first wherever it may come up, behind a store too. -/
theorem pure_ {i : Nat} {N : Option Tmp} {oi : Oper} {v : Value} {fuel : Nat} {l : Array Bool} {a : Act} {w : World} (l' : Array Bool) (hi : ops[i]? = some oi) (hN : oi.dst = N) (hc : anyB md ops l l' i = true)
    (hQ : ∀ c a w, Q (.panic c) (a.put oi.dst v) w → Q (.panic c) a w) (hy : Yields P ops oi v a) {a' : Act} (ha : a.put N v = a')
    (h : wpAnyLast P md ops Q S ds fuel l' a' w) : wpAnyLast P md ops Q S ds (fuel + 1) l a w := by
  subst ha
  subst hN
  simp only [anyB, Bool.and_eq_true, beq_iff_eq] at hc
  obtain ⟨⟨⟨h1, h2⟩, h3⟩, h6⟩ := hc
  subst h6
  exact wpAnyLast_any hi (Region.noSelect_spec h1) hQ fuel l a w (Region.free_spec hi h2) (by simpa using h3) hy h
def readyB (md : Region.Mode) (ops : Array Oper) (l l' : Array Bool) (i : Nat) : Bool := (Region.ready md ops l == [i]) && (l.setIfInBounds i true == l')
/-- One operation alone may come up now (a call, a build, an append ..): it is run, S is shown behind it. -/
theorem one_ {i : Nat} {N : Option Tmp} {oi : Oper} {fuel : Nat} {l : Array Bool} {a : Act} {w : World} (l' : Array Bool) (hi : ops[i]? = some oi) (hN : oi.dst = N) (hc : readyB md ops l l' i = true) (hd : i ∉ ds)
    (h : ∀ K : Act → World → Prop, Shut (∀ a' w', S w' → (S w' → wpAnyLast P md ops Q S ds fuel l' a' w') → K a' w') → if Region.wanted oi (yielded ops a.tmps) = true then Oper.wp P oi a w K Q else K (a.put N undef) w) :
    wpAnyLast P md ops Q S ds (fuel + 1) l a w := by
  subst hN
  simp only [readyB, Bool.and_eq_true, beq_iff_eq] at hc
  obtain ⟨h1, h2⟩ := hc
  subst h2
  exact wpAnyLast_ready h1 (by simp) (AllReadyL.cons hi hd (fun K hK => h K hK) AllReadyL.nil)
/-- The same for one of ds: nothing is shown behind it. -/
theorem last_ {i : Nat} {N : Option Tmp} {oi : Oper} {fuel : Nat} {l : Array Bool} {a : Act} {w : World} (l' : Array Bool) (hi : ops[i]? = some oi) (hN : oi.dst = N) (hc : readyB md ops l l' i = true) (hd : i ∈ ds)
    (h : ∀ K : Act → World → Prop, Shut (∀ a' w', wpAnyLast P md ops Q S ds fuel l' a' w' → K a' w') → if Region.wanted oi (yielded ops a.tmps) = true then Oper.wp P oi a w K Q else K (a.put N undef) w) :
    wpAnyLast P md ops Q S ds (fuel + 1) l a w := by
  subst hN
  simp only [readyB, Bool.and_eq_true, beq_iff_eq] at hc
  obtain ⟨h1, h2⟩ := hc
  subst h2
  exact wpAnyLast_ready h1 (by simp) (AllReadyL.cons_last hi hd (fun K hK => h K hK) AllReadyL.nil)
theorem done_ {l : Array Bool} {a : Act} {w : World} {n : Nat} (hr : (Region.ready md ops l == []) = true) (h : Q .normal a w) : wpAnyLast P md ops Q S ds n l a w := wpAnyLast_done (by simpa using hr) h n
/-! ### Several operations that write or call may come up: each order is walked, what follows is shown once (join_) -/
/-- The act written out. -/
theorem norm_ {fuel : Nat} {l : Array Bool} {a a' : Act} {w : World} (ha : a = a') (h : wpAnyLast P md ops Q S ds fuel l a' w) : wpAnyLast P md ops Q S ds fuel l a w := by
  subst ha
  exact h
theorem enters_ {f : FuncId} {fn : Func} (hf : P.funcs[f]? = some fn) (hname : (fn.name == "runtime.NumGoroutine") = false) (hb : fn.body.isSome = true) (args : Array Value) (w : World) : (callFunc f args).run P w = .ok (.enter f args) w := by
  have h1 : fn.name ≠ "runtime.NumGoroutine" := by simpa using hname
  obtain ⟨c, hc⟩ := Option.isSome_iff_exists.1 hb
  simp [callFunc, hf, h1, hc]
/-- A call in a plain region, as an arm of go_wp2_with ('hd' first: it fails at once at another operation). -/
theorem goesL_ {rest : List Oper} {oi : Oper} {a : Act} {w : World} (N : Option Tmp) (hd : oi.dst = N) (hg : oi.guard = none) {f : FuncId} {fn : Func} {as : Array Operand} {ts : Array TypeId} (hf : P.funcs[f]? = some fn) (hname : (fn.name == "runtime.NumGoroutine") = false) (hb : fn.body.isSome = true) (args : Array Value)
    (hop : oi.op = .call { callee := .value (.func f), args := as, argTypes := ts }) (hargs : as.map a.eval = args)
    (h : Calls P f args w fun e w' => ∃ v, e = .returned v ∧ wpList P ops Q rest (a.put N v) w') : wpList P ops Q (oi :: rest) a w := by
  refine wpList_plain hg fun K hK => ?_
  have he := enters_ hf hname hb args w
  have hrun : (execOp a.eval oi).run P w = .ok (.enter f args) w := by
    unfold execOp
    simp [hop, resolve, Deferred.ofValue, invoke, Act.eval, hargs, he]
  unfold Oper.wp
  rw [hrun, Oper.upon_enter]
  refine h.mono fun e w'' hh => ?_
  obtain ⟨v, rfl, hk⟩ := hh
  subst hd
  exact hK _ _ hk
/-- An operation that yields a value (and may make memory). -/
theorem value_ {oi : Oper} {N : Option Tmp} {a : Act} {w w1 : World} {v : Value} {K : Act → World → Prop} (hw : Region.wanted oi (yielded ops a.tmps) = true) (hN : oi.dst = N) (hrun : (execOp a.eval oi).run P w = .ok (.value v) w1)
    (h : K (a.put N v) w1) : if Region.wanted oi (yielded ops a.tmps) = true then Oper.wp P oi a w K Q else K (a.put N undef) w := by
  rw [if_pos hw]
  subst hN
  unfold Oper.wp
  rw [hrun]
  exact h
theorem i64_w (n : Int) : IntKind.i64.wrap n = Go.RowKit.wrap64 n := by unfold Go.RowKit.wrap64; exact IntKind.wrap_i64 n
theorem i32_w (n : Int) : IntKind.i32.wrap n = Go.RowKit.wrap32 n := by unfold Go.RowKit.wrap32; exact IntKind.wrap_i32 n
end
end Go.Proofs.YtlncdacoefoldaaGreatDoorW.PrintLast

/- Plain: what the package's substitution makes of a text, as the package's own steps, over lists of bytes. No program in sight. -/
namespace Go.Proofs.YtlncdacoefoldaaGreatDoor.U
set_option linter.unusedVariables false
set_option linter.unusedSimpArgs false
set_option linter.unusedSectionVars false

abbrev Bs := List UInt8
inductive Cls where
  | invalid
  | missing
deriving DecidableEq
def isL (c : UInt8) : Bool := c == 95 || (decide (97 ≤ c) && decide (c ≤ 122)) || (decide (65 ≤ c) && decide (c ≤ 90))
def isD (c : UInt8) : Bool := decide (48 ≤ c) && decide (c ≤ 57)
def isS (c : UInt8) : Bool := c == 45 || c == 43 || c == 63
/-- how many bytes a letter has that stands at the head; 0: none -/
def letN : Bs → Nat
  | [] => 0
  | c :: r => if isL c then 1 else if c == 0xc5 && r.take 1 == [0xbf] then 2 else if c == 0xe2 && r.take 2 == [0x84, 0xaa] then 3 else 0
def charN (l : Bs) : Nat := match l with
  | [] => 0
  | c :: _ => if letN l = 0 ∧ isD c = true then 1 else letN l
/-- how many bytes of a name go on -/
def more : Bs → Nat → Nat
  | [], _ => 0
  | _ :: r, k + 1 => 1 + more r k
  | c :: r, 0 => if charN (c :: r) = 0 then 0 else 1 + more r (charN (c :: r) - 1)
def nameN (l : Bs) : Nat := if letN l = 0 then 0 else more l 0
/-- how many bytes an operator has at the head; 0: none -/
def opN : Bs → Nat
  | [] => 0
  | c :: r => if c = 58 then (if (r.head?.map isS).getD false then 2 else 0) else if isS c then 1 else 0
/-- the last closing brace ahead of a line feed -/
def lastB : Bs → Option Nat
  | [] => none
  | c :: r => if c = 10 then none else match lastB r with
    | some i => some (i + 1)
    | none => if c = 125 then some 0 else none
structure M where
  all : Bs
  esc : Bs
  named : Bs
  braced : Bs
  op : Bs
deriving DecidableEq
def bad : M := ⟨[36, 123], [], [], [], []⟩
def bracedM (r : Bs) : M :=
  if nameN r = 0 then bad
  else if (r.drop (nameN r)).head? = some 125 then ⟨36 :: 123 :: r.take (nameN r + 1), [], [], r.take (nameN r), []⟩
  else if opN (r.drop (nameN r)) = 0 then bad
  else match lastB (r.drop (nameN r + opN (r.drop (nameN r)))) with
    | none => bad
    | some j => ⟨36 :: 123 :: r.take (nameN r + opN (r.drop (nameN r)) + j + 1), [], [], r.take (nameN r + opN (r.drop (nameN r)) + j), (r.drop (nameN r + opN (r.drop (nameN r)))).take j⟩
/-- the match at the head -/
def atM : Bs → Option M
  | [] => none
  | [_] => none
  | c :: d :: r => if c ≠ 36 then none else if d = 36 then some ⟨[36, 36], [36], [], [], []⟩
    else if nameN (d :: r) ≠ 0 then some ⟨36 :: (d :: r).take (nameN (d :: r)), [], (d :: r).take (nameN (d :: r)), [], []⟩
    else if d ≠ 123 then none else some (bracedM r)
def find : Bs → Option M
  | [] => none
  | c :: r => match atM (c :: r) with
    | some m => some m
    | none => find r
/-- the brace that closes the first one -/
def fb : Bs → Int → Bool → Option Nat
  | [], _, _ => none
  | _ :: r, d, true => (fb r d false).map (· + 1)
  | c :: r, d, false => if c = 125 then (if d - 1 = 0 then some 0 else (fb r (d - 1) false).map (· + 1)) else if c = 123 then (fb r (d + 1) true).map (· + 1) else (fb r d false).map (· + 1)
def signOf : Bs → Option Bs
  | [] => none
  | c :: r => if opN (c :: r) = 0 then signOf r else some ((c :: r).take (opN (c :: r)))
/-- the place of a text in a text -/
def idx (s : Bs) : Bs → Option Nat
  | [] => if s = [] then some 0 else none
  | c :: r => if s.isPrefixOf (c :: r) then some 0 else (idx s r).map (· + 1)
abbrev Env := Bs → Option Bs
abbrev Ans := Option (Bs × Option Cls)
/-- an operator's work; none within: it does not apply -/
def wordA (f : Bs → Ans) (env : Env) (sg x : Bs) : Option (Option (Bs × Option Cls)) := match idx sg x with
  | none => some none
  | some i =>
    let v := env (x.take i)
    let set := match v with
      | none => false
      | some y => !(sg.length == 2 && y == [])
    let w := f (x.drop (i + sg.length))
    match sg.getLast? with
    | some 45 => if set then some (some (v.getD [], none)) else w.map some
    | some 43 => if set then w.map some else some (some ([], none))
    | _ => if set then some (some (v.getD [], none)) else w.map (fun p => some ([], some (p.2.getD .missing)))
/-- what stands in the place of a match -/
def repl (f : Bs → Ans) (env : Env) (t : Bs) : Ans :=
  let cut := match fb t 0 false with
    | some i => (t.take (i + 1), t.drop (i + 1))
    | none => (t, [])
  match find cut.1 with
  | none => none
  | some m => if m.esc ≠ [] then some (m.esc, none) else if m.named ≠ [] then some ((env m.named).getD [], none) else if m.braced = [] then some ([], some .invalid)
    else match signOf t with
      | none => some ((env m.braced).getD [], none)
      | some sg => match wordA f env sg m.braced with
        | none => none
        | some none => some ((env m.braced).getD [], none)
        | some (some (_, some c)) => some ([], some c)
        | some (some (v, none)) => match f cut.2 with
          | none => none
          | some (_, some c) => some ([], some c)
          | some (x, none) => some (v ++ x, none)
def scan (f : Bs → Ans) (env : Env) : Bs → Nat → Ans
  | [], _ => some ([], none)
  | _ :: r, k + 1 => scan f env r k
  | c :: r, 0 => match atM (c :: r) with
    | none => match scan f env r 0 with
      | none => none
      | some (t, e) => some (c :: t, e)
    | some m => match repl f env m.all with
      | none => none
      | some (v, e) => match scan f env r (m.all.length - 1) with
        | none => none
        | some (t, e') => some (v ++ t, e.or e')
def LIM : Nat := 17592186044416
def sub (env : Env) : Nat → Bs → Ans
  | 0, _ => none
  | n + 1, t => match scan (sub env n) env t 0 with
    | none => none
    | some p => if p.1.length ≤ LIM then some p else none
/-! ### the known answer -/
theorem lives : sub (fun n => if n = [65] then some [98] else none) 2 [97, 36, 123, 65, 125] = some ([97, 98], none) := by decide
end Go.Proofs.YtlncdacoefoldaaGreatDoor.U

/- Small words of my own: strings by bytes, rows of strings that are read, what is laid below. No statement. -/
namespace Go.Proofs.YtlncdacoefoldaaGreatDoor.L
set_option linter.unusedVariables false
set_option linter.unusedSimpArgs false
set_option linter.unusedSectionVars false
open Go.RowKit

/-! ### strings -/
/-- a string of a list of bytes -/
def mk (l : List UInt8) : ByteArray := ⟨l.toArray⟩
theorem mk_data (l : List UInt8) : (mk l).data.toList = l := by simp [mk]
theorem mk_toList (l : List UInt8) : (mk l).toList = l := by rw [Lib.toList_data, mk_data]
theorem mk_size (l : List UInt8) : (mk l).size = l.length := by rw [Lib.size_eq, mk_data]
theorem mk_of (s : ByteArray) : mk s.data.toList = s := Lib.mk_data s
theorem data_inj {s t : ByteArray} (h : s.data.toList = t.data.toList) : s = t := by rw [← mk_of s, ← mk_of t, h]
theorem extract_mk (s : ByteArray) (a b : Nat) : s.extract a b = mk ((s.data.toList.drop a).take (b - a)) := Lib.extract_eq s a b
theorem extract_end (s : ByteArray) (a : Nat) : s.extract a s.size = mk (s.data.toList.drop a) := by
  rw [extract_mk, List.take_of_length_le]
  rw [List.length_drop, ← Lib.size_eq]
  exact Nat.le_refl _
theorem extract_start (s : ByteArray) (b : Nat) : s.extract 0 b = mk (s.data.toList.take b) := by rw [extract_mk, List.drop_zero, Nat.sub_zero]
/-- the byte at a place, as a number; -1 behind the end -/
def at_ (s : ByteArray) (k : Nat) : Int := if h : k < s.size then (s[k].toNat : Int) else -1
/-! ### worlds -/
theorem below_drewN {B : Nat} {a w : World} (h : Below B a w) (n : Nat) : Below B a (w.drewN n) := ⟨h.os, h.tape, h.output, h.size, h.block⟩
theorem below_un {B : Nat} {w w1 : World} (h : Below B w.drew w1) : Below B w w1 := ⟨h.os, h.tape, h.output, h.size, h.block⟩
theorem below_unN {B n : Nat} {w w1 : World} (h : Below B (w.drewN n) w1) : Below B w w1 := ⟨h.os, h.tape, h.output, h.size, h.block⟩
theorem own_below {w w1 : World} {base n size : Nat} {e : TypeId} {v : Value} {xs : List Value} (h : w.ownsRow base e size v n xs) (hb : Below w.heap.size w w1) : w1.ownsRow base e size v n xs := by
  have hlt := fun k hk => (World.ownsRow.lt h k hk).2
  obtain ⟨h1, h2⟩ := h
  refine ⟨h1, ?_⟩
  rcases h2 with h2 | ⟨g, cap, cur, rfl, hg, hh, r⟩
  · exact .inl h2
  · exact .inr ⟨g, cap, cur, rfl, hg, by rw [hb.block g (hlt g rfl)]; exact hh, r⟩

/-! ### rows that are read: cells in line -/
/-- n cells in line, from the address on, hold these values; ok: which block they may lie in -/
def RowK (ok : Nat → Prop) (w : World) (A : Option Addr) (xs : List Value) : Prop :=
  0 < xs.length → ∃ b o, A = some ⟨b, o, none⟩ ∧ ok b ∧ b < w.heap.size ∧ ∀ i, i < xs.length → w.cell? ⟨b, o + i, none⟩ = some (xs.getD i undef)
theorem RowK.move {ok ok' : Nat → Prop} {w w' : World} {A : Option Addr} {xs : List Value} (h : RowK ok w A xs) (hm : ∀ b, ok b → b < w.heap.size → w'.heap[b]? = w.heap[b]? ∧ ok' b) (hs : w.heap.size ≤ w'.heap.size) : RowK ok' w' A xs := fun hl => by
  obtain ⟨b, o, e, hok, hlt, hc⟩ := h hl
  obtain ⟨m1, m2⟩ := hm b hok hlt
  exact ⟨b, o, e, m2, Nat.lt_of_lt_of_le hlt hs, fun i hi => by rw [World.cell?_of_block (w := w) m1]; exact hc i hi⟩
theorem RowK.below {ok : Nat → Prop} {w w' : World} {A : Option Addr} {xs : List Value} (h : RowK ok w A xs) (hb : Below w.heap.size w w') : RowK ok w' A xs :=
  h.move (fun b hok hlt => ⟨hb.block b hlt, hok⟩) hb.size
theorem RowK.none (ok : Nat → Prop) (w : World) (A : Option Addr) : RowK ok w A [] := fun h => absurd h (by simp)
theorem RowK.of_own {w : World} {base n size : Nat} {e : TypeId} {v : Value} {xs : List Value} (h : w.ownsRow base e size v n xs) : ∃ A c, v = .slice A n c ∧ n ≤ c ∧ RowK (fun b => base ≤ b) w A xs := by
  obtain ⟨h1, h2⟩ := h
  rcases h2 with ⟨rfl, rfl⟩ | ⟨g, cap, cur, rfl, hg, hh, hn, hc, hz, ht⟩
  · have : xs = [] := by simpa using h1
    subst this
    exact ⟨Option.none, 0, rfl, Nat.le_refl _, RowK.none _ _ _⟩
  · refine ⟨_, cap, rfl, hn, fun hl => ⟨g, 0, rfl, hg, ?_, fun i hi => ?_⟩⟩
    · rcases Nat.lt_or_ge g w.heap.size with h | h
      · exact h
      · rw [Array.getElem?_eq_none h] at hh; cases hh
    · have e1 : w.cell? ⟨g, 0 + i, Option.none⟩ = cur[i]? := by simp [World.cell?, hh]
      rw [e1]
      have e2 : cur[i]? = xs[i]? := by
        rw [← ht, List.getElem?_take, if_pos (by omega), Array.getElem?_toList]
      rw [e2, List.getElem?_eq_getElem hi, List.getD_eq_getElem?_getD, List.getElem?_eq_getElem hi]
      rfl
/-- a slice value that holds these cells, size of each element given -/
def RdK (ok : Nat → Prop) (w : World) (size : Nat) (v : Value) (n : Nat) (xs : List Value) : Prop := ∃ A c, v = .slice A n c ∧ n ≤ c ∧ c ≤ maxLen ∧ xs.length = n * size ∧ RowK ok w A xs
theorem RdK.move {ok ok' : Nat → Prop} {w w' : World} {size n : Nat} {v : Value} {xs : List Value} (h : RdK ok w size v n xs) (hm : ∀ b, ok b → b < w.heap.size → w'.heap[b]? = w.heap[b]? ∧ ok' b) (hs : w.heap.size ≤ w'.heap.size) : RdK ok' w' size v n xs := by
  obtain ⟨A, c, e, h1, h0, h2, h3⟩ := h
  exact ⟨A, c, e, h1, h0, h2, h3.move hm hs⟩
theorem RdK.below {ok : Nat → Prop} {w w' : World} {size n : Nat} {v : Value} {xs : List Value} (h : RdK ok w size v n xs) (hb : Below w.heap.size w w') : RdK ok w' size v n xs :=
  h.move (fun b hok hlt => ⟨hb.block b hlt, hok⟩) hb.size
theorem RdK.of_own {w : World} {base n size : Nat} {e : TypeId} {v : Value} {xs : List Value} (h : w.ownsRow base e size v n xs) : RdK (fun b => base ≤ b) w size v n xs := by
  have h' := h
  obtain ⟨A, c, rfl, h1, h2⟩ := RowK.of_own h
  refine ⟨A, c, rfl, h1, ?_, h'.1, h2⟩
  rcases h'.2 with ⟨e, _⟩ | ⟨g, cap, cur, e, _, _, _, hc, _⟩
  · injection e with _ _ e; rw [e]; exact Nat.zero_le _
  · injection e with _ _ e; rw [e]; exact hc
theorem RdK.nil (ok : Nat → Prop) (w : World) (size : Nat) : RdK ok w size (.slice none 0 0) 0 [] := ⟨none, 0, rfl, Nat.le_refl _, Nat.zero_le _, by simp, RowK.none _ _ _⟩
/-- one more, of fewer blocks -/
theorem RdK.imp {ok ok' : Nat → Prop} {w : World} {size n : Nat} {v : Value} {xs : List Value} (h : RdK ok w size v n xs) (hok : ∀ b, ok b → b < w.heap.size → ok' b) : RdK ok' w size v n xs :=
  h.move (fun b h1 h2 => ⟨rfl, hok b h1 h2⟩) (Nat.le_refl _)

/-- a slice of strings -/
def SSK (ok : Nat → Prop) (w : World) (v : Value) (l : List ByteArray) : Prop := RdK ok w 1 v l.length (l.map .string)
def SS (w : World) (v : Value) (l : List ByteArray) : Prop := SSK (fun _ => True) w v l
theorem SSK.any {ok : Nat → Prop} {w : World} {v : Value} {l : List ByteArray} (h : SSK ok w v l) : SS w v l := RdK.imp h (fun _ _ _ => trivial)
theorem SS.below {w w' : World} {v : Value} {l : List ByteArray} (h : SS w v l) (hb : Below w.heap.size w w') : SS w' v l := RdK.below h hb
theorem SS.nil (w : World) : SS w (.slice none 0 0) [] := RdK.nil _ w 1
theorem SSK.of_own {w : World} {base n : Nat} {e : TypeId} {v : Value} {l : List ByteArray} (h : w.ownsRow base e 1 v n (l.map .string)) : SSK (fun b => base ≤ b) w v l := by
  have hn : n = l.length := by have := h.1; simp at this; omega
  subst hn
  exact RdK.of_own h
theorem SS.of_own {w : World} {base n : Nat} {e : TypeId} {v : Value} {l : List ByteArray} (h : w.ownsRow base e 1 v n (l.map .string)) : SS w v l := (SSK.of_own h).any
/-- the parts of it, for a walk -/
theorem SS.get {w : World} {v : Value} {l : List ByteArray} (h : SS w v l) : ∃ A c, v = .slice A l.length c ∧ l.length ≤ c ∧ c ≤ maxLen ∧
    (0 < l.length → ∃ b o, A = some ⟨b, o, none⟩ ∧ b < w.heap.size ∧ ∀ i, i < l.length → w.cell? ⟨b, o + i, none⟩ = some (.string (l.getD i ByteArray.empty))) := by
  obtain ⟨A, c, rfl, h1, h0, h2, h3⟩ := h
  refine ⟨A, c, rfl, h1, h0, fun hl => ?_⟩
  obtain ⟨b, o, e, _, hb, hc⟩ := h3 (by simpa using hl)
  refine ⟨b, o, e, hb, fun i hi => ?_⟩
  rw [hc i (by simpa using hi)]
  congr 1
  rw [List.getD_eq_getElem?_getD, List.getD_eq_getElem?_getD, List.getElem?_map, List.getElem?_eq_getElem hi]
  rfl
theorem cell_one {w : World} {C : Array Value} {t : TypeId} {fr : Nat × Nat} {g : Nat} (h : w.heap[g]? = some (.cells C t fr)) (o : Nat) : w.cell? ⟨g, o, none⟩ = C[o]? := by simp [World.cell?, h]
end Go.Proofs.YtlncdacoefoldaaGreatDoor.L

/- Plain laws of the package's substitution: texts without dollars, doubled dollars, a variable without braces. No program in sight. -/
namespace Go.Proofs.YtlncdacoefoldaaGreatDoor.U
set_option linter.unusedVariables false
set_option linter.unusedSimpArgs false
set_option linter.unusedSectionVars false

theorem atM_no {c : UInt8} (r : Bs) (h : c ≠ 36) : atM (c :: r) = none := by
  cases r with
  | nil => rfl
  | cons d r => simp [atM, h]
theorem atM_two (r : Bs) : atM (36 :: 36 :: r) = some ⟨[36, 36], [36], [], [], []⟩ := by simp [atM]
def dbl : Bs → Bs
  | [] => []
  | c :: r => if c = 36 then 36 :: 36 :: dbl r else c :: dbl r
theorem repl_two (f : Bs → Ans) (env : Env) : repl f env [36, 36] = some ([36], none) := by
  have h1 : fb [36, 36] 0 false = none := by decide
  have h2 : find [36, 36] = some ⟨[36, 36], [36], [], [], []⟩ := by decide
  simp [repl, h1, h2]
/-! ### names -/
def isN (c : UInt8) : Bool := isL c || isD c
/-- a name: a letter ahead, letters and digits behind -/
def Name (l : Bs) : Prop := (∃ c r, l = c :: r ∧ isL c = true) ∧ ∀ c ∈ l, isN c = true
theorem letN_L {c : UInt8} (r : Bs) (h : isL c = true) : letN (c :: r) = 1 := by simp [letN, h]
theorem charN_N {c : UInt8} (r : Bs) (h : isN c = true) : charN (c :: r) = 1 := by
  unfold isN at h
  cases hl : isL c
  · have hd : isD c = true := by simpa [hl] using h
    have h0 : letN (c :: r) = 0 := by
      have hlt : c.toNat ≤ 57 := by
        simp [isD] at hd
        have := UInt8.le_iff_toNat_le.1 hd.2
        simpa using this
      have a : (c == 0xc5) = false := by
        rw [beq_eq_false_iff_ne]; rintro rfl; simp at hlt
      have b : (c == 0xe2) = false := by
        rw [beq_eq_false_iff_ne]; rintro rfl; simp at hlt
      simp [letN, hl, a, b]
    simp [charN, h0, hd]
  · simp [charN, letN_L r hl]
/-- what ends a name: no letter, no digit, no byte beyond ASCII -/
def stops (c : UInt8) : Prop := isN c = false ∧ c.toNat < 128
theorem charN_stop {c : UInt8} (r : Bs) (h : stops c) : charN (c :: r) = 0 := by
  obtain ⟨h1, h2⟩ := h
  unfold isN at h1
  have hl : isL c = false := by cases e : isL c <;> simp [e] at h1 ⊢
  have hd : isD c = false := by cases e : isD c <;> simp [e] at h1 ⊢
  have a : (c == 0xc5) = false := by
    rw [beq_eq_false_iff_ne]; rintro rfl; simp at h2
  have b : (c == 0xe2) = false := by
    rw [beq_eq_false_iff_ne]; rintro rfl; simp at h2
  simp [charN, letN, hl, hd, a, b]
theorem more_name : ∀ (l r : Bs), (∀ c ∈ l, isN c = true) → more (l ++ r) 0 = l.length + more r 0
  | [], r, _ => by simp
  | c :: l, r, h => by
    have ih := more_name l r (fun c hc => h c (List.mem_cons_of_mem _ hc))
    rw [List.cons_append, more, charN_N _ (h c (by simp))]
    simp [ih]
    omega
theorem more_stop {c : UInt8} (r : Bs) (h : stops c) : more (c :: r) 0 = 0 := by rw [more, charN_stop r h]; simp
theorem nameN_name {l r : Bs} (h : Name l) (hr : more r 0 = 0) : nameN (l ++ r) = l.length := by
  obtain ⟨⟨c, q, rfl, hc⟩, h2⟩ := h
  have h3 := more_name (c :: q) r h2
  unfold nameN
  rw [h3, hr, List.cons_append, letN_L _ hc]
  simp
theorem nameN_stop {c : UInt8} (r : Bs) (h : stops c) : nameN (c :: r) = 0 := by
  have := charN_stop r h
  unfold charN at this
  unfold nameN
  by_cases e : letN (c :: r) = 0
  · rw [if_pos e]
  · simp [e] at this
theorem name_pos {l : Bs} (h : Name l) : 0 < l.length := by obtain ⟨⟨c, q, rfl, _⟩, _⟩ := h; simp
theorem isN_ne {c d : UInt8} (h : isN c = true) (hd : isN d = false) : c ≠ d := fun e => by rw [e, hd] at h; cases h
/-- a text without braces -/
theorem fb_none : ∀ (l : Bs) (d : Int), (∀ c ∈ l, c ≠ 123 ∧ c ≠ 125) → fb l d false = none
  | [], _, _ => rfl
  | c :: r, d, h => by
    have ih := fb_none r d (fun c hc => h c (List.mem_cons_of_mem _ hc))
    obtain ⟨h1, h2⟩ := h c (by simp)
    rw [fb, if_neg h2, if_neg h1, ih]
    rfl
theorem atM_name {l r : Bs} (h : Name l) (hr : more r 0 = 0) : atM (36 :: (l ++ r)) = some ⟨36 :: l, [], l, [], []⟩ := by
  have hn := nameN_name h hr
  have hp := name_pos h
  obtain ⟨⟨c, q, rfl, hc⟩, h2⟩ := h
  rw [List.cons_append] at hn ⊢
  have h36 : c ≠ 36 := isN_ne (h2 c (by simp)) (by decide)
  rw [atM, if_neg (by simp), if_neg h36, if_pos (by rw [hn]; omega), hn]
  have e : (c :: (q ++ r)).take (c :: q).length = c :: q := by simp
  rw [e]
theorem repl_name (f : Bs → Ans) (env : Env) {l : Bs} (h : Name l) : repl f env (36 :: l) = some ((env l).getD [], none) := by
  have h1 : fb (36 :: l) 0 false = none := fb_none _ _ (fun c hc => by
    rcases List.mem_cons.1 hc with rfl | hc
    · decide
    · exact ⟨isN_ne (h.2 c hc) (by decide), isN_ne (h.2 c hc) (by decide)⟩)
  have h2 : find (36 :: l) = some ⟨36 :: l, [], l, [], []⟩ := by
    have := atM_name (r := []) h rfl
    rw [List.append_nil] at this
    rw [find, this]
  have h3 : l ≠ [] := fun e => by have := name_pos h; rw [e] at this; simp at this
  simp [repl, h1, h2, h3]
theorem scan_skip (f : Bs → Ans) (env : Env) : ∀ (l r : Bs), scan f env (l ++ r) l.length = scan f env r 0
  | [], r => rfl
  | c :: l, r => by rw [List.cons_append, List.length_cons, scan, scan_skip f env l r]
end Go.Proofs.YtlncdacoefoldaaGreatDoor.U

/- Plain law of the package's substitution: nested defaults. No program in sight. -/
namespace Go.Proofs.YtlncdacoefoldaaGreatDoor.U
set_option linter.unusedVariables false
set_option linter.unusedSimpArgs false
set_option linter.unusedSectionVars false

/-- a word: no dollars, braces, ends of lines -/
def Plain (l : Bs) : Prop := ∀ c ∈ l, c ≠ 36 ∧ c ≠ 123 ∧ c ≠ 125 ∧ c ≠ 10
theorem isN_plain {l : Bs} (h : ∀ c ∈ l, isN c = true) : Plain l := fun c hc => ⟨isN_ne (h c hc) (by decide), isN_ne (h c hc) (by decide), isN_ne (h c hc) (by decide), isN_ne (h c hc) (by decide)⟩
theorem lastB_end : ∀ (x : Bs), (∀ c ∈ x, c ≠ 10) → lastB (x ++ [125]) = some x.length
  | [], _ => by simp [lastB]
  | c :: r, h => by
    have ih := lastB_end r (fun c hc => h c (List.mem_cons_of_mem _ hc))
    rw [List.cons_append, lastB, if_neg (h c (by simp)), ih]
    rfl
theorem fb_plain : ∀ (x r : Bs) (d : Int), (∀ c ∈ x, c ≠ 123 ∧ c ≠ 125) → fb (x ++ r) d false = (fb r d false).map (· + x.length)
  | [], r, d, _ => by cases h : fb r d false <;> simp [h]
  | c :: x, r, d, h => by
    have ih := fb_plain x r d (fun c hc => h c (List.mem_cons_of_mem _ hc))
    obtain ⟨h1, h2⟩ := h c (by simp)
    rw [List.cons_append, fb, if_neg h2, if_neg h1, ih]
    cases h : fb r d false <;> simp [h]
    omega
theorem opN_N {c : UInt8} (r : Bs) (h : isN c = true) : opN (c :: r) = 0 := by
  have h1 : c ≠ 58 := isN_ne h (by decide)
  have h2 : isS c = false := by
    cases e : isS c
    · rfl
    · simp [isS] at e
      rcases e with (rfl | rfl) | rfl <;> exact absurd h (by decide)
  simp [opN, h1, h2]
theorem signOf_name : ∀ (n r : Bs), (∀ c ∈ n, isN c = true) → signOf (n ++ r) = signOf r
  | [], _, _ => rfl
  | c :: n, r, h => by
    rw [List.cons_append, signOf, opN_N _ (h c (by simp)), if_pos rfl]
    exact signOf_name n r (fun c hc => h c (List.mem_cons_of_mem _ hc))
theorem idx_name : ∀ (n r : Bs) (s : UInt8) (q : Bs), (∀ c ∈ n, c ≠ s) → idx (s :: q) (n ++ r) = (idx (s :: q) r).map (· + n.length)
  | [], r, s, q, _ => by cases h : idx (s :: q) r <;> simp [h]
  | c :: n, r, s, q, h => by
    have ih := idx_name n r s q (fun c hc => h c (List.mem_cons_of_mem _ hc))
    have hc : (s == c) = false := by rw [beq_eq_false_iff_ne]; exact fun e => h c (by simp) e.symm
    rw [List.cons_append, idx, ih]
    have : (s :: q).isPrefixOf (c :: (n ++ r)) = false := by simp [List.isPrefixOf, hc]
    rw [this]
    cases h : idx (s :: q) r <;> simp [h]
    omega
end Go.Proofs.YtlncdacoefoldaaGreatDoor.U

/- Rows of bytes: what is appended to them, and the string that they make. No statement. -/
namespace Go.Proofs.YtlncdacoefoldaaGreatDoor.L
set_option linter.unusedVariables false
set_option linter.unusedSimpArgs false
set_option linter.unusedSectionVars false
open Go.RowKit

/-- a byte in a cell -/
def bv (c : UInt8) : Value := .int .u8 (c.toNat : Int)
theorem strCells_bv (s : ByteArray) : Lib.strCells s = s.data.toList.map bv := rfl
theorem strOfNums_bv (l : List UInt8) : strOfNums (l.map fun c => (c.toNat : Int)) = mk l := by
  apply data_inj
  rw [strOfNums_data, mk_data, List.map_map]
  conv => rhs; rw [← List.map_id l]
  refine List.map_congr_left fun c _ => ?_
  simp

theorem run_string_rd {P : Program} {ok : Nat → Prop} {w : World} {v : Value} {n : Nat} {l : List UInt8} (src e dst : TypeId) (hs : P.underlying src = some (.slice e)) (he : P.underlying e = some (.int .u8)) (hd : P.underlying dst = some .string)
    (h : RdK ok w 1 v n (l.map bv)) : (convert src dst v).run P w = .ok (.string (mk l)) w := by
  obtain ⟨A, c, rfl, h1, h0, h2, h3⟩ := h
  have hn : l.length = n := by simpa using h2
  rcases Nat.eq_zero_or_pos n with hz | hz
  · have hl : l = [] := List.length_eq_zero_iff.1 (by omega)
    subst hl
    subst hz
    cases A with
    | none => exact run_convert_bytes_nil w src e hs he 0 c dst hd
    | some a =>
      rw [run_convert_bytes_string w src dst e _ 0 c hs he hd, run_bytesToString w a 0 c [] (by simp [loadCells, loadCellsFrom])]
      rfl
  · obtain ⟨b, o, rfl, _, hb, hc⟩ := h3 (by rw [List.length_map]; omega)
    rw [run_convert_bytes_arg w src e hs he b o n c (l.map fun c => (c.toNat : Int)) (by simpa using hn) (fun i hi => by
      rw [hc i (by rw [List.length_map]; omega), List.getD_eq_getElem?_getD, List.getD_eq_getElem?_getD, List.getElem?_map, List.getElem?_map, List.getElem?_eq_getElem (by omega)]
      rfl) dst hd, strOfNums_bv]

theorem wpList_string_own {P : Program} {ops : Array Oper} {rest : List Oper} {o : Oper} {a : Act} {w : World} {Q : Exit → Act → World → Prop} {ok : Nat → Prop} (hgd : o.guard = none) (x : Operand) (t e s : TypeId)
    (ho : o.op = .convert t s x) (ht : P.underlying t = some (.slice e)) (he : P.underlying e = some (.int .u8)) (hs : P.underlying s = some .string)
    (v : Value) (hv : a.eval x = v) (n : Nat) (l : List UInt8) (hr : RdK ok w 1 v n (l.map bv)) (h : wpList P ops Q rest (a.put o.dst (.string (mk l))) w) : wpList P ops Q (o :: rest) a w := by
  refine wpList_plain hgd fun K hK => ?_
  have hrun := run_string_rd t e s ht he hs hr
  unfold Oper.wp
  simp [execOp, ho, hv, hrun, Result.andThen]
  exact hK _ _ h
end Go.Proofs.YtlncdacoefoldaaGreatDoor.L

/- Plain: what the specification says of a text's substitution, as its own steps, over lists of bytes. No program in sight. -/
namespace Go.Proofs.YtlncdacoefoldaaGreatDoor.U
set_option linter.unusedVariables false
set_option linter.unusedSimpArgs false
set_option linter.unusedSectionVars false

/-- how many bytes a name has at the head -/
def subE (l : Bs) : Nat := match l with
  | [] => 0
  | c :: r => if isL c = true then ((c :: r).takeWhile isN).length else 0
def far (l : Bs) : Bool := match l with
  | [] => false
  | c :: _ => decide (128 ≤ c.toNat)
/-- the brace that closes a word; none: nothing is said; some none: there is none -/
def closeS : Bs → Nat → Bool → Option (Option Nat)
  | [], _, any => if any then none else some none
  | [c], deep, any => if c = 10 ∨ c = 123 then none else if c = 125 then (if deep = 0 then some (some 0) else none) else if any then none else some none
  | c :: d :: r, deep, any =>
    if c = 10 ∨ c = 123 then none
    else if c = 36 ∧ d = 36 then (closeS r deep any).map (·.map (· + 2))
    else if c = 36 ∧ d = 123 then (if r.head? = some 125 then none else (closeS r (deep + 1) any).map (·.map (· + 2)))
    else if c = 125 then (if deep = 0 then some (some 0) else (closeS (d :: r) (deep - 1) true).map (·.map (· + 1)))
    else (closeS (d :: r) deep any).map (·.map (· + 1))
def setS (full : Bool) : Option Bs → Bool
  | none => false
  | some y => !full || y != []
/-- a word's item: the value, how many bytes behind the operator's sign, its class -/
def wordS (f : Bs → Ans) (v : Option Bs) (full : Bool) (sg : UInt8) (w : Bs) : Option (Bs × Nat × Option Cls) := match closeS w 0 false with
  | none => none
  | some none => some ([], 0, some .invalid)
  | some (some j) => match f (w.take j) with
    | none => none
    | some (x, c) =>
      if c ≠ none ∧ ¬ ((sg = 45 ∧ setS full v = false) ∨ (sg = 43 ∧ setS full v = true)) then none
      else if (sg = 45 ∧ setS full v = false) ∨ (sg = 43 ∧ setS full v = true) then some (x, j + 1, c)
      else if sg = 63 ∧ setS full v = false then some ([], j + 1, some .missing)
      else if sg = 43 then some ([], j + 1, none)
      else some (v.getD [], j + 1, none)
/-- what stands behind '${': the value, how many bytes of it, its class -/
def bracedS (f : Bs → Ans) (env : Env) (r : Bs) : Option (Bs × Nat × Option Cls) :=
  if far (r.drop (subE r)) = true then none
  else if subE r = 0 ∨ r.length = subE r then some ([], 0, some .invalid)
  else match r.drop (subE r) with
    | [] => none
    | q :: qs =>
      if q = 125 then some ((env (r.take (subE r))).getD [], subE r + 1, none)
      else if q = 58 then (match qs with
        | [] => some ([], 0, some .invalid)
        | g :: w => if isS g = true then (wordS f (env (r.take (subE r))) true g w).map (fun p => (p.1, (if p.2.1 = 0 then 0 else subE r + 2 + p.2.1), p.2.2)) else some ([], 0, some .invalid))
      else if isS q = true then (wordS f (env (r.take (subE r))) false q qs).map (fun p => (p.1, (if p.2.1 = 0 then 0 else subE r + 1 + p.2.1), p.2.2))
      else some ([], 0, some .invalid)
/-- what begins with a dollar (r: behind it): the value, how many bytes behind the dollar, its class -/
def oneS (f : Bs → Ans) (env : Env) : Bs → Option (Bs × Nat × Option Cls)
  | [] => none
  | d :: r =>
    if d = 36 then some ([36], 1, none)
    else if far ((d :: r).drop (subE (d :: r))) = true ∨ (d = 123 ∧ far r = true) then none
    else if subE (d :: r) ≠ 0 then some ((env ((d :: r).take (subE (d :: r)))).getD [], subE (d :: r), none)
    else if d ≠ 123 then none
    else (bracedS f env r).map (fun p => (p.1, (if p.2.1 = 0 then 0 else p.2.1 + 1), p.2.2))
def scanS (f : Bs → Ans) (env : Env) : Bs → Nat → Option Cls → Ans
  | [], _, cl => some ([], cl)
  | _ :: r, k + 1, cl => scanS f env r k cl
  | c :: r, 0, cl => if c ≠ 36 then (scanS f env r 0 cl).map (fun p => (c :: p.1, p.2))
    else match oneS f env r with
      | none => none
      | some (v, n, e) => if e ≠ none ∧ cl ≠ none ∧ e ≠ cl then none else (scanS f env r n (e.or cl)).map (fun p => (v ++ p.1, p.2))
def subS (env : Env) : Nat → Bs → Ans
  | 0, _ => none
  | n + 1, t => (scanS (subS env n) env t 0 none).map (fun p => if p.2 = none then p else ([], p.2))
end Go.Proofs.YtlncdacoefoldaaGreatDoor.U

/- Plain: the specification's names, words and braces beside the package's. No program in sight. -/
namespace Go.Proofs.YtlncdacoefoldaaGreatDoor.U
set_option linter.unusedVariables false
set_option linter.unusedSimpArgs false
set_option linter.unusedSectionVars false

theorem take_while (p : UInt8 → Bool) (l : Bs) : l.take (l.takeWhile p).length = l.takeWhile p := by
  induction l with
  | nil => rfl
  | cons c r ih =>
    rw [List.takeWhile_cons]
    split
    · simp [ih]
    · rfl
theorem drop_while (p : UInt8 → Bool) (l : Bs) : l.drop (l.takeWhile p).length = l.dropWhile p := by
  induction l with
  | nil => rfl
  | cons c r ih =>
    rw [List.takeWhile_cons, List.dropWhile_cons]
    split
    · simp [ih]
    · rfl
theorem drop_head (p : UInt8 → Bool) : ∀ (l : Bs) (h : UInt8) (t : Bs), l.dropWhile p = h :: t → p h = false
  | [], _, _, h => by cases h
  | c :: r, h, t, e => by
    rw [List.dropWhile_cons] at e
    split at e
    · exact drop_head p r h t e
    · rename_i hc
      injection e with e1 _
      subst e1
      simpa using hc
theorem mem_tw (p : UInt8 → Bool) : ∀ (l : Bs) (d : UInt8), d ∈ l.takeWhile p → p d = true
  | [], _, h => by cases h
  | c :: r, d, h => by
    rw [List.takeWhile_cons] at h
    split at h
    · rename_i hc
      rcases List.mem_cons.1 h with rfl | h
      · exact hc
      · exact mem_tw p r d h
    · cases h
/-- a name of the specification is one of the package -/
theorem name_same (l : Bs) (hf : far (l.drop (subE l)) = false) : nameN l = subE l ∧ (subE l ≠ 0 → Name (l.take (subE l)) ∧ more (l.drop (subE l)) 0 = 0) := by
  cases l with
  | nil => exact ⟨rfl, fun h => absurd rfl h⟩
  | cons c r =>
    by_cases hc : isL c = true
    · have e : subE (c :: r) = ((c :: r).takeWhile isN).length := by simp [subE, hc]
      have hN : isN c = true := by simp [isN, hc]
      rw [e] at hf ⊢
      have hname : Name ((c :: r).takeWhile isN) := by
        refine ⟨⟨c, r.takeWhile isN, by rw [List.takeWhile_cons, hN]; rfl, hc⟩, fun d hd => ?_⟩
        exact mem_tw isN _ d hd
      have hm : more ((c :: r).drop ((c :: r).takeWhile isN).length) 0 = 0 := by
        rw [drop_while] at hf ⊢
        cases hd : (c :: r).dropWhile isN with
        | nil => rfl
        | cons h t =>
          rw [hd] at hf
          refine more_stop t ⟨drop_head isN _ h t hd, ?_⟩
          simp [far] at hf
          exact hf
      have hh := nameN_name hname hm
      have es : (c :: r).takeWhile isN ++ (c :: r).drop ((c :: r).takeWhile isN).length = c :: r := by rw [drop_while, List.takeWhile_append_dropWhile]
      rw [es] at hh
      exact ⟨hh, fun _ => ⟨by rw [take_while]; exact hname, hm⟩⟩
    · have e : subE (c :: r) = 0 := by simp [subE, hc]
      rw [e] at hf ⊢
      rw [List.drop_zero] at hf
      have h128 : c.toNat < 128 := by simpa [far] using hf
      have a : (c == 0xc5) = false := by rw [beq_eq_false_iff_ne]; rintro rfl; simp at h128
      have b : (c == 0xe2) = false := by rw [beq_eq_false_iff_ne]; rintro rfl; simp at h128
      refine ⟨?_, fun h => absurd rfl h⟩
      simp [nameN, letN, hc, a, b]
theorem map_map_some {o : Option (Option Nat)} {k j : Nat} (h : o.map (·.map (· + k)) = some (some j)) : ∃ i, o = some (some i) ∧ j = i + k := by
  match o, h with
  | some (some i), h =>
    simp at h
    exact ⟨i, rfl, h.symm⟩
/-- what is known of a word's closing brace -/
theorem close_spec : ∀ (w : Bs) (deep : Nat) (any : Bool) (j : Nat), closeS w deep any = some (some j) → (∀ c ∈ w.take j, c ≠ 10) ∧ w[j]? = some 125 ∧ fb w ((deep : Int) + 1) false = some j
  | [], deep, any, j, h => by cases any <;> simp [closeS] at h
  | [c], deep, any, j, h => by
    rw [closeS] at h
    split at h
    · cases h
    · split at h
      · rename_i hc
        split at h
        · rename_i hd
          injection h with h; injection h with h
          subst h; subst hc; subst hd
          exact ⟨fun c hc => by simp at hc, rfl, by simp [fb]⟩
        · cases h
      · cases any <;> simp at h
  | c :: d :: r, deep, any, j, h => by
    rw [closeS] at h
    by_cases h1 : c = 10 ∨ c = 123
    · rw [if_pos h1] at h; cases h
    · rw [if_neg h1] at h
      have h10 : c ≠ 10 := fun e => h1 (.inl e)
      have h123 : c ≠ 123 := fun e => h1 (.inr e)
      by_cases h2 : c = 36 ∧ d = 36
      · rw [if_pos h2] at h
        obtain ⟨i, hi, rfl⟩ := map_map_some h
        obtain ⟨a1, a2, a3⟩ := close_spec r deep any i hi
        obtain ⟨rfl, rfl⟩ := h2
        refine ⟨fun x hx => ?_, a2, ?_⟩
        · simp only [List.take_succ_cons, List.mem_cons] at hx
          rcases hx with rfl | rfl | hx
          · decide
          · decide
          · exact a1 x hx
        · simp [fb, a3]
      · rw [if_neg h2] at h
        by_cases h3 : c = 36 ∧ d = 123
        · rw [if_pos h3] at h
          split at h
          · cases h
          · rename_i hr
            obtain ⟨i, hi, rfl⟩ := map_map_some h
            obtain ⟨a1, a2, a3⟩ := close_spec r (deep + 1) any i hi
            obtain ⟨rfl, rfl⟩ := h3
            refine ⟨fun x hx => ?_, a2, ?_⟩
            · simp only [List.take_succ_cons, List.mem_cons] at hx
              rcases hx with rfl | rfl | hx
              · decide
              · decide
              · exact a1 x hx
            · have hs : fb r ((deep : Int) + 1 + 1) true = some i := by
                cases r with
                | nil => simp [closeS] at hi
                | cons x r =>
                  have hx : x ≠ 125 := fun e => hr (by rw [e]; rfl)
                  have hx2 : x ≠ 123 := by
                    intro e
                    subst e
                    cases r with
                    | nil => simp [closeS] at hi
                    | cons y r => simp [closeS] at hi
                  have e : ((deep + 1 : Nat) : Int) + 1 = (deep : Int) + 1 + 1 := by omega
                  rw [e, fb, if_neg hx, if_neg hx2] at a3
                  rw [fb]
                  exact a3
              simp [fb, hs]
        · rw [if_neg h3] at h
          by_cases h4 : c = 125
          · rw [if_pos h4] at h
            subst h4
            split at h
            · rename_i hd
              injection h with h; injection h with h
              subst h; subst hd
              exact ⟨fun c hc => by simp at hc, rfl, by simp [fb]⟩
            · rename_i hd
              obtain ⟨i, hi, rfl⟩ := map_map_some h
              obtain ⟨a1, a2, a3⟩ := close_spec (d :: r) (deep - 1) true i hi
              refine ⟨fun x hx => ?_, a2, ?_⟩
              · simp only [List.take_succ_cons, List.mem_cons] at hx
                rcases hx with rfl | hx
                · decide
                · exact a1 x hx
              · have e : ((deep - 1 : Nat) : Int) + 1 = (deep : Int) + 1 - 1 := by omega
                rw [e] at a3
                rw [fb, if_pos rfl, if_neg (by omega), a3]
                rfl
          · rw [if_neg h4] at h
            obtain ⟨i, hi, rfl⟩ := map_map_some h
            obtain ⟨a1, a2, a3⟩ := close_spec (d :: r) deep any i hi
            refine ⟨fun x hx => ?_, a2, ?_⟩
            · simp only [List.take_succ_cons, List.mem_cons] at hx
              rcases hx with rfl | hx
              · exact h10
              · exact a1 x hx
            · rw [fb, if_neg h4, if_neg h123, a3]
              rfl
theorem lastB_spec : ∀ (w : Bs) (J : Nat), lastB w = some J → w[J]? = some 125 ∧ (∀ c ∈ w.take (J + 1), c ≠ 10) ∧ lastB (w.drop (J + 1)) = none
  | [], J, h => by simp [lastB] at h
  | c :: r, J, h => by
    rw [lastB] at h
    split at h
    · cases h
    · rename_i h10
      cases e : lastB r with
      | some i =>
        rw [e] at h
        simp at h
        subst h
        obtain ⟨a1, a2, a3⟩ := lastB_spec r i e
        refine ⟨a1, fun x hx => ?_, a3⟩
        simp only [List.take_succ_cons, List.mem_cons] at hx
        rcases hx with rfl | hx
        · exact h10
        · exact a2 x (by simpa using hx)
      | none =>
        rw [e] at h
        simp only [] at h
        split at h
        · rename_i hc
          injection h with h
          subst h; subst hc
          exact ⟨rfl, fun x hx => by simp at hx; subst hx; decide, e⟩
        · cases h
theorem lastB_ex : ∀ (w : Bs) (j : Nat), (∀ c ∈ w.take j, c ≠ 10) → w[j]? = some 125 → ∃ J, lastB w = some J ∧ j ≤ J
  | [], j, _, h => by simp at h
  | c :: r, 0, _, h => by
    have hc : c = 125 := by simpa using h
    subst hc
    rw [lastB, if_neg (by decide)]
    cases lastB r with
    | some i => exact ⟨i + 1, rfl, Nat.zero_le _⟩
    | none => exact ⟨0, rfl, Nat.le_refl _⟩
  | c :: r, j + 1, hn, h => by
    obtain ⟨J, h1, h2⟩ := lastB_ex r j (fun x hx => hn x (by simp [hx])) (by simpa using h)
    rw [lastB, if_neg (hn c (by simp)), h1]
    exact ⟨J + 1, rfl, by omega⟩
end Go.Proofs.YtlncdacoefoldaaGreatDoor.U

/- Plain: what the specification says of a text is put together of what it says of its parts. No program in sight. -/
namespace Go.Proofs.YtlncdacoefoldaaGreatDoor.U
set_option linter.unusedVariables false
set_option linter.unusedSimpArgs false
set_option linter.unusedSectionVars false

theorem scanS_none {f : Bs → Ans} {env : Env} : ∀ (l : Bs) (k : Nat) (cl : Option Cls) (r : Bs), scanS f env l k cl = some (r, none) → cl = none
  | [], k, cl, r, h => by cases k <;> (rw [scanS] at h; injection h with h; injection h)
  | c :: l, k + 1, cl, r, h => by rw [scanS] at h; exact scanS_none l k cl r h
  | c :: l, 0, cl, r, h => by
    rw [scanS] at h
    split at h
    · cases hs : scanS f env l 0 cl with
      | none => rw [hs] at h; cases h
      | some p =>
        obtain ⟨p1, p2⟩ := p
        rw [hs] at h
        simp at h
        obtain ⟨_, rfl⟩ := h
        exact scanS_none l 0 cl p1 hs
    · split at h
      · cases h
      · rename_i v n e ho
        split at h
        · cases h
        · cases hs : scanS f env l n (e.or cl) with
          | none => rw [hs] at h; cases h
          | some p =>
            obtain ⟨p1, p2⟩ := p
            rw [hs] at h
            simp at h
            obtain ⟨_, rfl⟩ := h
            have := scanS_none l n (e.or cl) p1 hs
            cases e <;> simp at this
            exact this
theorem scanS_skip (f : Bs → Ans) (env : Env) : ∀ (k : Nat) (l : Bs) (cl : Option Cls), k ≤ l.length → scanS f env l k cl = scanS f env (l.drop k) 0 cl
  | 0, l, cl, _ => by simp
  | k + 1, [], cl, h => by simp at h
  | k + 1, c :: l, cl, h => by rw [scanS, scanS_skip f env k l cl (by simpa using h)]; rfl
/-- one step, where there is no fault -/
theorem scanS_step {f : Bs → Ans} {env : Env} {c : UInt8} {q r : Bs} (h : scanS f env (c :: q) 0 none = some (r, none)) :
    (c ≠ 36 ∧ ∃ r', scanS f env q 0 none = some (r', none) ∧ r = c :: r') ∨
    (c = 36 ∧ ∃ v n r', oneS f env q = some (v, n, none) ∧ scanS f env q n none = some (r', none) ∧ r = v ++ r') := by
  rw [scanS] at h
  split at h
  · rename_i hc
    cases hs : scanS f env q 0 none with
    | none => rw [hs] at h; cases h
    | some p =>
      obtain ⟨p1, p2⟩ := p
      rw [hs] at h
      simp at h
      obtain ⟨h1, rfl⟩ := h
      exact .inl ⟨hc, p1, rfl, h1.symm⟩
  · rename_i hc
    have hc : c = 36 := by simpa using hc
    split at h
    · cases h
    · rename_i v n e ho
      split at h
      · cases h
      · cases hs : scanS f env q n (e.or none) with
        | none => rw [hs] at h; cases h
        | some p =>
          obtain ⟨p1, p2⟩ := p
          rw [hs] at h
          simp at h
          obtain ⟨h1, rfl⟩ := h
          have he := scanS_none q n _ p1 hs
          have he : e = none := by cases e <;> simp at he ⊢
          subst he
          exact .inr ⟨hc, v, n, p1, ho, hs, h1.symm⟩
theorem close_prefix : ∀ (w t : Bs) (deep : Nat) (any : Bool) (j : Nat), closeS (w ++ t) deep any = some (some j) → j < w.length → closeS w deep any = some (some j)
  | [], t, deep, any, j, _, hj => by simp at hj
  | [c], t, deep, any, j, h, hj => by
    have hj0 : j = 0 := by simp at hj; exact hj
    subst hj0
    have a2 := (close_spec _ _ _ _ h).2.1
    have hc : c = 125 := by simpa using a2
    subst hc
    by_cases hd : deep = 0
    · subst hd; simp [closeS]
    · exfalso
      cases t with
      | nil => simp [closeS, hd] at h
      | cons d t =>
        rw [List.cons_append, List.nil_append, closeS] at h
        simp [hd] at h
        try (obtain ⟨a, _, h⟩ := h; cases a <;> simp at h)
  | c :: d :: r, t, deep, any, j, h, hj => by
    rw [List.cons_append, List.cons_append, closeS] at h
    rw [closeS]
    simp only [List.length_cons] at hj
    by_cases h1 : c = 10 ∨ c = 123
    · rw [if_pos h1] at h; cases h
    · rw [if_neg h1] at h ⊢
      by_cases h2 : c = 36 ∧ d = 36
      · rw [if_pos h2] at h ⊢
        obtain ⟨i, hi, rfl⟩ := map_map_some h
        rw [close_prefix r t deep any i hi (by omega)]; rfl
      · rw [if_neg h2] at h ⊢
        by_cases h3 : c = 36 ∧ d = 123
        · rw [if_pos h3] at h ⊢
          split at h
          · cases h
          · rename_i hr
            obtain ⟨i, hi, rfl⟩ := map_map_some h
            have hne : r ≠ [] := fun e => by rw [e] at hj; simp at hj; omega
            obtain ⟨x, r', rfl⟩ := List.exists_cons_of_ne_nil hne
            have hr' : ¬ ((x :: r').head? = some 125) := fun e => hr (by simpa using e)
            rw [if_neg hr', close_prefix (x :: r') t (deep + 1) any i hi (by omega)]; rfl
        · rw [if_neg h3] at h ⊢
          by_cases h4 : c = 125
          · rw [if_pos h4] at h ⊢
            split at h
            · rename_i hd; rw [if_pos hd]; exact h
            · rename_i hd
              rw [if_neg hd]
              obtain ⟨i, hi, rfl⟩ := map_map_some h
              rw [close_prefix (d :: r) t (deep - 1) true i hi (by simp; omega)]; rfl
          · rw [if_neg h4] at h ⊢
            obtain ⟨i, hi, rfl⟩ := map_map_some h
            rw [close_prefix (d :: r) t deep any i hi (by simp; omega)]; rfl
/-- a part of a line that ends with a brace; behind it there is none in that line -/
def Ends (l : Bs) : Prop := l.getLast? = some 125 ∧ ∀ c ∈ l, c ≠ 10
theorem Ends.tail {c : UInt8} {l : Bs} (h : Ends (c :: l)) (hl : l ≠ []) : Ends l := by
  obtain ⟨h1, h2⟩ := h
  obtain ⟨d, r, rfl⟩ := List.exists_cons_of_ne_nil hl
  exact ⟨by rw [List.getLast?_cons_cons] at h1; exact h1, fun x hx => h2 x (List.mem_cons_of_mem _ hx)⟩
theorem Ends.ne {c : UInt8} {l : Bs} (h : Ends (c :: l)) (hc : c ≠ 125) : l ≠ [] := fun e => by
  subst e
  have := h.1
  simp at this
  exact hc this
theorem Ends.drop {l : Bs} (h : Ends l) (n : Nat) (hn : n < l.length) : Ends (l.drop n) := by
  induction n generalizing l with
  | zero => simpa using h
  | succ n ih =>
    cases l with
    | nil => simp at hn
    | cons c l =>
      simp at hn
      exact ih (h.tail (fun e => by subst e; simp at hn)) hn
theorem ends_close {w t : Bs} {j : Nat} {deep : Nat} {any : Bool} (h : Ends w) (ht : lastB t = none) (hc : closeS (w ++ t) deep any = some (some j)) : j < w.length ∧ closeS w deep any = some (some j) := by
  have hj : j < w.length := by
    rcases Nat.lt_or_ge j w.length with q | q
    · exact q
    · obtain ⟨a1, a2, _⟩ := close_spec _ _ _ _ hc
      exfalso
      obtain ⟨J, hJ, _⟩ := lastB_ex t (j - w.length) (fun c hcm => a1 c (by rw [List.take_append]; exact List.mem_append_right _ hcm)) (by rw [List.getElem?_append_right q] at a2; exact a2)
      rw [ht] at hJ; cases hJ
  exact ⟨hj, close_prefix w t deep any j hc hj⟩
theorem tw_append {l t : Bs} (h : Ends l) : (l ++ t).takeWhile isN = l.takeWhile isN ∧ (l.takeWhile isN).length < l.length := by
  induction l with
  | nil => have := h.1; simp at this
  | cons c l ih =>
    by_cases hc : isN c = true
    · have hne := h.ne (isN_ne hc (by decide))
      obtain ⟨i1, i2⟩ := ih (h.tail hne)
      rw [List.cons_append, List.takeWhile_cons, List.takeWhile_cons, hc]
      simp only [if_true]
      exact ⟨by rw [i1], by simp; omega⟩
    · rw [List.cons_append, List.takeWhile_cons, List.takeWhile_cons, if_neg hc, if_neg hc]
      exact ⟨rfl, by simp⟩
theorem subE_append {l t : Bs} (h : Ends l) : subE (l ++ t) = subE l ∧ subE l < l.length ∧ (l ++ t).drop (subE l) = l.drop (subE l) ++ t ∧ (l ++ t).take (subE l) = l.take (subE l) := by
  have hlt : subE l < l.length := by
    cases l with
    | nil => have := h.1; simp at this
    | cons c l =>
      have := (tw_append (t := t) h).2
      rw [show subE (c :: l) = if isL c = true then ((c :: l).takeWhile isN).length else 0 from rfl]
      split
      · exact this
      · simp
  refine ⟨?_, hlt, ?_, ?_⟩
  · cases l with
    | nil => have := h.1; simp at this
    | cons c l =>
      unfold subE
      rw [List.cons_append]
      simp only []
      rw [← List.cons_append, (tw_append (t := t) h).1]
  · rw [List.drop_append_of_le_length (by omega)]
  · rw [List.take_append_of_le_length (by omega)]
theorem far_append {l t : Bs} (hl : l ≠ []) : far (l ++ t) = far l := by
  obtain ⟨c, r, rfl⟩ := List.exists_cons_of_ne_nil hl
  rfl
theorem drop_ne {l : Bs} {n : Nat} (h : n < l.length) : l.drop n ≠ [] := fun e => by
  have := congrArg List.length e
  rw [List.length_drop] at this
  simp at this
  omega
/-- an item's word, where there is no fault, ends within -/
theorem wordS_append {f : Bs → Ans} {v : Option Bs} {full : Bool} {g : UInt8} {w t x : Bs} {n : Nat} (hw : Ends w) (ht : lastB t = none) (h : wordS f v full g (w ++ t) = some (x, n, none)) : wordS f v full g w = some (x, n, none) ∧ n ≤ w.length ∧ 0 < n := by
  unfold wordS at h ⊢
  cases hc : closeS (w ++ t) 0 false with
  | none => rw [hc] at h; cases h
  | some o =>
    rw [hc] at h
    cases o with
    | none => cases h
    | some j =>
      obtain ⟨hj, hcw⟩ := ends_close hw ht hc
      rw [hcw]
      simp only [] at h ⊢
      rw [List.take_append_of_le_length (by omega)] at h
      refine ⟨h, ?_⟩
      cases hf : f (w.take j) with
      | none => rw [hf] at h; cases h
      | some p =>
        obtain ⟨p1, p2⟩ := p
        rw [hf] at h
        simp only [] at h
        have hn : n = j + 1 := by
          split at h
          · cases h
          · split at h
            · injection h with h; injection h with _ h; injection h with h _; exact h.symm
            · split at h
              · injection h with h; injection h with _ h; injection h with _ h; cases h
              · split at h
                · injection h with h; injection h with _ h; injection h with h _; exact h.symm
                · injection h with h; injection h with _ h; injection h with h _; exact h.symm
        omega
theorem isS_ne {g : UInt8} (h : isS g = true) : g ≠ 125 := fun e => by subst e; cases h
theorem bracedS_append {f : Bs → Ans} {env : Env} {r t x : Bs} {n : Nat} (hr : Ends r) (ht : lastB t = none) (h : bracedS f env (r ++ t) = some (x, n, none)) : bracedS f env r = some (x, n, none) ∧ n ≤ r.length ∧ 0 < n := by
  obtain ⟨e1, e2, e3, e4⟩ := subE_append (t := t) hr
  have hne := drop_ne e2
  have hd := hr.drop (subE r) e2
  unfold bracedS at h ⊢
  rw [e1, e3, far_append hne, e4] at h
  split at h
  · cases h
  · rename_i hf
    rw [if_neg hf]
    split at h
    · cases h
    · rename_i h0
      have h0' : ¬ (subE r = 0 ∨ r.length = subE r) := fun q => h0 (by
        rcases q with q | q
        · exact .inl q
        · omega)
      rw [if_neg h0']
      have hlen : (r.drop (subE r)).length = r.length - subE r := List.length_drop ..
      obtain ⟨y, ys, hy⟩ := List.exists_cons_of_ne_nil hne
      rw [hy] at h hd hlen ⊢
      rw [List.cons_append] at h
      simp only [List.length_cons] at hlen
      simp only [] at h ⊢
      by_cases h125 : y = 125
      · rw [if_pos h125] at h ⊢
        refine ⟨h, ?_⟩
        injection h with h; injection h with _ h; injection h with h _
        omega
      · rw [if_neg h125] at h ⊢
        have hys := hd.ne h125
        have hde := hd.tail hys
        by_cases h58 : y = 58
        · rw [if_pos h58] at h ⊢
          obtain ⟨g, w, rfl⟩ := List.exists_cons_of_ne_nil hys
          rw [List.cons_append] at h
          simp only [] at h ⊢
          split at h
          · rename_i hg
            rw [if_pos hg]
            have hw := hde.ne (isS_ne hg)
            have hwe := hde.tail hw
            cases hk : wordS f (env (r.take (subE r))) true g (w ++ t) with
            | none => rw [hk] at h; cases h
            | some p =>
              obtain ⟨p1, p2, p3⟩ := p
              rw [hk] at h
              simp at h
              obtain ⟨rfl, h2, rfl⟩ := h
              obtain ⟨k1, k2, k3⟩ := wordS_append hwe ht hk
              rw [k1]
              simp only [Option.map_some]
              rw [if_neg (by omega)] at h2 ⊢
              simp only [List.length_cons] at hlen
              exact ⟨by rw [h2], by omega, by omega⟩
          · cases h
        · rw [if_neg h58] at h ⊢
          split at h
          · rename_i hg
            rw [if_pos hg]
            cases hk : wordS f (env (r.take (subE r))) false y (ys ++ t) with
            | none => rw [hk] at h; cases h
            | some p =>
              obtain ⟨p1, p2, p3⟩ := p
              rw [hk] at h
              simp at h
              obtain ⟨rfl, h2, rfl⟩ := h
              obtain ⟨k1, k2, k3⟩ := wordS_append hde ht hk
              rw [k1]
              simp only [Option.map_some]
              rw [if_neg (by omega)] at h2 ⊢
              exact ⟨by rw [h2], by omega, by omega⟩
          · cases h
theorem oneS_append {f : Bs → Ans} {env : Env} {q t x : Bs} {n : Nat} (hq : Ends q) (ht : lastB t = none) (h : oneS f env (q ++ t) = some (x, n, none)) : oneS f env q = some (x, n, none) ∧ n ≤ q.length ∧ 0 < n := by
  cases q with
  | nil => have := hq.1; simp at this
  | cons d r =>
    obtain ⟨e1, e2, e3, e4⟩ := subE_append (t := t) hq
    have hne := drop_ne e2
    rw [List.cons_append, oneS] at h
    rw [oneS]
    by_cases h36 : d = 36
    · rw [if_pos h36] at h ⊢
      refine ⟨h, ?_⟩
      injection h with h; injection h with _ h; injection h with h _
      simp; omega
    · rw [if_neg h36] at h ⊢
      rw [← List.cons_append, e1, e3, far_append hne, e4] at h
      have hfr : (d = 123 ∧ far (r ++ t) = true) ↔ (d = 123 ∧ far r = true) := by
        constructor
        · rintro ⟨a, b⟩
          exact ⟨a, by rw [far_append (hq.ne (by rw [a]; decide))] at b; exact b⟩
        · rintro ⟨a, b⟩
          exact ⟨a, by rw [far_append (hq.ne (by rw [a]; decide))]; exact b⟩
      simp only [hfr] at h
      split at h
      · cases h
      · rename_i hf
        rw [if_neg hf]
        split at h
        · rename_i h0
          rw [if_pos h0]
          refine ⟨h, ?_⟩
          injection h with h; injection h with _ h; injection h with h _
          omega
        · rename_i h0
          rw [if_neg h0]
          split at h
          · cases h
          · rename_i h123
            rw [if_neg h123]
            have h123 : d = 123 := by simpa using h123
            have hrn := hq.ne (by rw [h123]; decide)
            have hre := hq.tail hrn
            cases hk : bracedS f env (r ++ t) with
            | none => rw [hk] at h; cases h
            | some p =>
              obtain ⟨p1, p2, p3⟩ := p
              rw [hk] at h
              simp at h
              obtain ⟨rfl, h2, rfl⟩ := h
              obtain ⟨k1, k2, k3⟩ := bracedS_append hre ht hk
              rw [k1]
              simp only [Option.map_some]
              rw [if_neg (by omega)] at h2 ⊢
              exact ⟨by rw [h2], by simp; omega, by omega⟩
/-- the parts of a text that is cut behind the last brace of a line -/
theorem scanS_append {f : Bs → Ans} {env : Env} {t : Bs} (ht : lastB t = none) : ∀ (n : Nat) (q : Bs), q.length ≤ n → (q = [] ∨ Ends q) → ∀ r, scanS f env (q ++ t) 0 none = some (r, none) →
    ∃ r1 r2, scanS f env q 0 none = some (r1, none) ∧ scanS f env t 0 none = some (r2, none) ∧ r = r1 ++ r2
  | n, [], _, _, r, h => ⟨[], r, by simp [scanS], by simpa using h, by simp⟩
  | 0, c :: q, hn, _, r, h => by simp at hn
  | n + 1, c :: q, hn, hq, r, h => by
    have hq : Ends (c :: q) := by
      rcases hq with e | e
      · cases e
      · exact e
    simp only [List.length_cons] at hn
    rw [List.cons_append] at h
    rcases scanS_step h with ⟨hc, r', h1, rfl⟩ | ⟨hc, v, k, r', h1, h2, rfl⟩
    · have hq' : q = [] ∨ Ends q := by
        by_cases e : q = []
        · exact .inl e
        · exact .inr (hq.tail e)
      obtain ⟨r1, r2, a1, a2, rfl⟩ := scanS_append ht n q (by omega) hq' r' h1
      exact ⟨c :: r1, r2, by rw [scanS, if_pos hc, a1]; rfl, a2, rfl⟩
    · subst hc
      have hne := hq.ne (by decide)
      have hqe := hq.tail hne
      obtain ⟨k1, k2, k3⟩ := oneS_append hqe ht h1
      rw [scanS_skip f env k (q ++ t) none (by simp; omega), List.drop_append_of_le_length k2] at h2
      have hd : q.drop k = [] ∨ Ends (q.drop k) := by
        rcases Nat.lt_or_ge k q.length with e | e
        · exact .inr (hqe.drop k e)
        · exact .inl (List.drop_of_length_le e)
      obtain ⟨r1, r2, a1, a2, rfl⟩ := scanS_append ht n (q.drop k) (by rw [List.length_drop]; omega) hd r' h2
      refine ⟨v ++ r1, r2, ?_, a2, by simp⟩
      rw [scanS, if_neg (by decide), k1]
      simp only []
      rw [if_neg (by simp), scanS_skip f env k q _ k2]
      simp [a1]
end Go.Proofs.YtlncdacoefoldaaGreatDoor.U

/- Plain: an operator's work, cut in two. No program in sight. -/
namespace Go.Proofs.YtlncdacoefoldaaGreatDoor.U
set_option linter.unusedVariables false
set_option linter.unusedSimpArgs false
set_option linter.unusedSectionVars false

def isSet (sg : Bs) : Option Bs → Bool
  | none => false
  | some y => !(sg.length == 2 && y == [])
def wordB (w : Ans) (sg : Bs) (v : Option Bs) (set : Bool) : Option (Option (Bs × Option Cls)) := match sg.getLast? with
  | some 45 => if set then some (some (v.getD [], none)) else w.map some
  | some 43 => if set then w.map some else some (some ([], none))
  | _ => if set then some (some (v.getD [], none)) else w.map (fun p => some ([], some (p.2.getD .missing)))
theorem wordA_at (f : Bs → Ans) (env : Env) (sg x : Bs) (i : Nat) (h : idx sg x = some i) : wordA f env sg x = wordB (f (x.drop (i + sg.length))) sg (env (x.take i)) (isSet sg (env (x.take i))) := by
  unfold wordA wordB
  rw [h]
  simp only []
  generalize sg.getLast? = L
  cases env (x.take i) with
  | none =>
    rcases L with _ | c
    · rfl
    · by_cases h1 : c = 45
      · subst h1; rfl
      · by_cases h2 : c = 43
        · subst h2; rfl
        · simp [h1, h2, isSet]
  | some y =>
    rcases L with _ | c
    · rfl
    · by_cases h1 : c = 45
      · subst h1; rfl
      · by_cases h2 : c = 43
        · subst h2; rfl
        · simp [h1, h2, isSet]
end Go.Proofs.YtlncdacoefoldaaGreatDoor.U

/- Plain: a text of which the specification says that it has no fault is substituted by the package as the specification says. No program in sight. -/
namespace Go.Proofs.YtlncdacoefoldaaGreatDoor.U
set_option linter.unusedVariables false
set_option linter.unusedSimpArgs false
set_option linter.unusedSectionVars false

/-- an operator's sign: with a colon, or without -/
def sgn (full : Bool) (g : UInt8) : Bs := if full then [58, g] else [g]
theorem sgn_len (full : Bool) (g : UInt8) : (sgn full g).length = if full then 2 else 1 := by cases full <;> rfl
theorem sgn_ne (full : Bool) (g : UInt8) : sgn full g ≠ [] := by cases full <;> simp [sgn]
theorem opN_sgn (full : Bool) {g : UInt8} (hg : isS g = true) (w : Bs) : opN (sgn full g ++ w) = (sgn full g).length := by
  cases full with
  | true => simp [sgn, opN, hg]
  | false =>
    have h58 : g ≠ 58 := fun e => by subst e; cases hg
    simp [sgn, opN, hg, h58]
theorem isS_not {g : UInt8} (h : isS g = true) : isN g = false ∧ g ≠ 123 ∧ g ≠ 125 ∧ g ≠ 36 ∧ g ≠ 10 := by
  simp [isS] at h
  rcases h with (rfl | rfl) | rfl <;> decide
theorem sgn_stop (full : Bool) {g : UInt8} (hg : isS g = true) (w : Bs) : more (sgn full g ++ w) 0 = 0 := by
  cases full with
  | true => exact more_stop _ (by unfold stops; decide)
  | false =>
    refine more_stop _ ⟨(isS_not hg).1, ?_⟩
    simp [isS] at hg
    rcases hg with (rfl | rfl) | rfl <;> decide
theorem sgn_plain (full : Bool) {g : UInt8} (hg : isS g = true) : ∀ c ∈ sgn full g, c ≠ 123 ∧ c ≠ 125 := by
  intro c hc
  obtain ⟨_, h1, h2, _⟩ := isS_not hg
  cases full with
  | true =>
    simp [sgn] at hc
    rcases hc with rfl | rfl
    · decide
    · exact ⟨h1, h2⟩
  | false => simp [sgn] at hc; subst hc; exact ⟨h1, h2⟩
theorem sgn_head (full : Bool) {g : UInt8} (hg : isS g = true) (w : Bs) : (sgn full g ++ w).head? ≠ some 125 := by
  cases full with
  | true => simp [sgn]
  | false => simp [sgn]; exact (isS_not hg).2.2.1
theorem atM_op {name : Bs} (hN : Name name) (full : Bool) {g : UInt8} (hg : isS g = true) (w : Bs) (J : Nat) (hJ : lastB w = some J) :
    atM (36 :: 123 :: (name ++ (sgn full g ++ w))) = some ⟨36 :: 123 :: (name ++ (sgn full g ++ w.take (J + 1))), [], [], name ++ (sgn full g ++ w.take J), w.take J⟩ := by
  have h1 : nameN (name ++ (sgn full g ++ w)) = name.length := nameN_name hN (sgn_stop full hg w)
  have hp := name_pos hN
  have h2 : (name ++ (sgn full g ++ w)).drop name.length = sgn full g ++ w := by simp
  have h3 := opN_sgn full hg w
  have h4 : (name ++ (sgn full g ++ w)).drop (name.length + (sgn full g).length) = w := by rw [← List.drop_drop, h2]; simp
  have h5 : nameN (123 :: (name ++ (sgn full g ++ w))) = 0 := nameN_stop _ (by unfold stops; decide)
  have h6 : (sgn full g).length ≠ 0 := by rw [sgn_len]; split <;> decide
  rw [atM, if_neg (by simp), if_neg (by decide), if_neg (by simp [h5]), if_neg (by simp)]
  unfold bracedM
  rw [h1, if_neg (by omega), h2, if_neg (sgn_head full hg w), h3, if_neg h6, h4, hJ]
  have e : ∀ k, (name ++ (sgn full g ++ w)).take (name.length + (sgn full g).length + k) = name ++ (sgn full g ++ w.take k) := fun k => by
    rw [List.take_append, List.take_of_length_le (by omega), List.take_append, List.take_of_length_le (by omega)]
    congr 3
    omega
  have e1 := e (J + 1)
  have e2 := e J
  rw [← Nat.add_assoc] at e1
  simp only [e1, e2]
theorem fb_pre {name : Bs} (hN : Name name) (full : Bool) {g : UInt8} (hg : isS g = true) (w : Bs) : fb (36 :: 123 :: (name ++ (sgn full g ++ w))) 0 false = (fb w 1 false).map (· + (name.length + (sgn full g).length + 2)) := by
  obtain ⟨⟨c, q, rfl, _⟩, h2⟩ := hN
  have hq : ∀ x ∈ q ++ sgn full g, x ≠ 123 ∧ x ≠ 125 := fun x hx => by
    rcases List.mem_append.1 hx with hx | hx
    · have := isN_plain h2 x (List.mem_cons_of_mem _ hx)
      exact ⟨this.2.1, this.2.2.1⟩
    · exact sgn_plain full hg x hx
  rw [fb, if_neg (by decide), if_neg (by decide), fb, if_neg (by decide), if_pos rfl, List.cons_append, fb, ← List.append_assoc, fb_plain _ _ _ hq]
  rw [show (0 : Int) + 1 = 1 from rfl]
  cases fb w 1 false <;> simp
  omega
theorem signOf_op {name : Bs} (hN : Name name) (full : Bool) {g : UInt8} (hg : isS g = true) (w : Bs) : signOf (36 :: 123 :: (name ++ (sgn full g ++ w))) = some (sgn full g) := by
  have h3 := opN_sgn full hg w
  have h6 : (sgn full g).length ≠ 0 := by rw [sgn_len]; split <;> decide
  rw [signOf, show opN (36 :: 123 :: (name ++ (sgn full g ++ w))) = 0 by simp [opN, isS], if_pos rfl, signOf, show opN (123 :: (name ++ (sgn full g ++ w))) = 0 by simp [opN, isS], if_pos rfl, signOf_name _ _ hN.2]
  obtain ⟨c, r, hc⟩ := List.exists_cons_of_ne_nil (show sgn full g ++ w ≠ [] by simp [sgn_ne])
  rw [hc] at h3 ⊢
  rw [signOf, h3, if_neg h6, ← hc]
  simp
theorem idx_op {name : Bs} (hN : Name name) (full : Bool) {g : UInt8} (hg : isS g = true) (w : Bs) : idx (sgn full g) (name ++ (sgn full g ++ w)) = some name.length := by
  obtain ⟨s, q, hs⟩ := List.exists_cons_of_ne_nil (sgn_ne full g)
  have hsN : isN s = false := by
    cases full with
    | true => simp [sgn] at hs; rw [← hs.1]; decide
    | false => simp [sgn] at hs; rw [← hs.1]; exact (isS_not hg).1
  rw [hs, idx_name name _ s q (fun c hc => isN_ne (hN.2 c hc) hsN), List.cons_append, idx, if_pos (by simp [List.isPrefixOf_iff_prefix])]
  simp
theorem set_same (full : Bool) (g : UInt8) (v : Option Bs) : isSet (sgn full g) v = setS full v := by
  cases v with
  | none => rfl
  | some y => cases full <;> simp [isSet, setS, sgn, bne]
theorem last_sgn (full : Bool) (g : UInt8) : (sgn full g).getLast? = some g := by cases full <;> rfl
/-- what stands in the place of an item with a word -/
theorem repl_op (f : Bs → Ans) (env : Env) {name : Bs} (hN : Name name) (full : Bool) {g : UInt8} (hg : isS g = true) (w : Bs) (j J : Nat) (hj : closeS w 0 false = some (some j)) (hJ : lastB w = some J) (hjJ : j ≤ J) (x : Bs)
    (hx : wordB (f (w.take j)) (sgn full g) (env name) (setS full (env name)) = some (some (x, none))) (y : Bs) (hy : f ((w.take (J + 1)).drop (j + 1)) = some (y, none)) :
    repl f env (36 :: 123 :: (name ++ (sgn full g ++ w.take (J + 1)))) = some (x ++ y, none) := by
  obtain ⟨a1, a2, a3⟩ := close_spec w 0 false j hj
  have hjl : j < w.length := (List.getElem?_eq_some_iff.1 a2).1
  have hfw : fb (w.take (J + 1)) 1 false = some j := by
    have hcl : closeS (w.take (J + 1)) 0 false = some (some j) := by
      refine close_prefix (w.take (J + 1)) (w.drop (J + 1)) 0 false j (by rw [List.take_append_drop]; exact hj) ?_
      rw [List.length_take]; omega
    exact (close_spec _ 0 false j hcl).2.2
  have h1 : fb (36 :: 123 :: (name ++ (sgn full g ++ w.take (J + 1)))) 0 false = some (j + (name.length + (sgn full g).length + 2)) := by
    rw [fb_pre hN full hg, hfw]; rfl
  have e1 : (36 :: 123 :: (name ++ (sgn full g ++ w.take (J + 1)))).take (j + (name.length + (sgn full g).length + 2) + 1) = 36 :: 123 :: (name ++ (sgn full g ++ (w.take j ++ [125]))) := by
    have : j + (name.length + (sgn full g).length + 2) + 1 = (name.length + (sgn full g).length + (j + 1)) + 1 + 1 := by omega
    rw [this, List.take_succ_cons, List.take_succ_cons, List.take_append, List.take_of_length_le (by omega), List.take_append, List.take_of_length_le (by omega), List.take_take]
    have e2 : min (name.length + (sgn full g).length + (j + 1) - name.length - (sgn full g).length) (J + 1) = j + 1 := by omega
    rw [e2, List.take_succ_eq_append_getElem hjl]
    have e3 : w[j] = 125 := by
      rw [List.getElem?_eq_getElem hjl] at a2
      injection a2
    rw [e3]
  have e2 : (36 :: 123 :: (name ++ (sgn full g ++ w.take (J + 1)))).drop (j + (name.length + (sgn full g).length + 2) + 1) = (w.take (J + 1)).drop (j + 1) := by
    have : j + (name.length + (sgn full g).length + 2) + 1 = (name.length + ((sgn full g).length + (j + 1))) + 1 + 1 := by omega
    rw [this, List.drop_succ_cons, List.drop_succ_cons, ← List.drop_drop, List.drop_left, ← List.drop_drop, List.drop_left]
  have h2 : find (36 :: 123 :: (name ++ (sgn full g ++ (w.take j ++ [125])))) = some ⟨36 :: 123 :: (name ++ (sgn full g ++ (w.take j ++ [125]))), [], [], name ++ (sgn full g ++ w.take j), w.take j⟩ := by
    have hl : (w.take j).length = j := by rw [List.length_take]; omega
    have hb := lastB_end (w.take j) a1
    have := atM_op hN full hg (w.take j ++ [125]) (w.take j).length hb
    have t1 : (w.take j ++ [125]).take ((w.take j).length + 1) = w.take j ++ [125] := List.take_of_length_le (by simp)
    have t2 : (w.take j ++ [125]).take (w.take j).length = w.take j := by simp
    rw [t1, t2] at this
    rw [find, this]
  have h3 := signOf_op hN full hg (w.take (J + 1))
  have h4 := idx_op hN full hg (w.take j)
  have h5 : name ++ (sgn full g ++ w.take j) ≠ [] := fun e => by
    have hp := name_pos hN
    rw [(List.append_eq_nil_iff.1 e).1] at hp
    simp at hp
  have h6 : (name ++ (sgn full g ++ w.take j)).take name.length = name := by simp
  have h7 : (name ++ (sgn full g ++ w.take j)).drop (name.length + (sgn full g).length) = w.take j := by rw [← List.drop_drop]; simp
  unfold repl
  rw [h1]
  simp only [e1, e2, h2, ne_eq, not_true_eq_false, if_false, h5, h3]
  rw [wordA_at f env _ _ _ h4, h6, h7, set_same, hx]
  simp only [hy]
end Go.Proofs.YtlncdacoefoldaaGreatDoor.U
