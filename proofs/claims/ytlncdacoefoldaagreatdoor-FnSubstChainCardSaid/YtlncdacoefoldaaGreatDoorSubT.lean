/- Walks: the operator that a text's match goes by. -/
import Derived.Test.YtlncdacoefoldaaGreatDoorSubS
import Derived.BigQuiet
namespace Go.Proofs.YtlncdacoefoldaaGreatDoor.U
set_option linter.unusedVariables false
set_option linter.unusedSimpArgs false
set_option linter.unusedSectionVars false
open Go.RowKit Go.Proofs.YtlncdacoefoldaaGreatDoorW.PrintWords Go.Proofs.YtlncdacoefoldaaGreatDoorW.PrintLast Go.Proofs.YtlncdacoefoldaaGreatDoor.PX Go.Proofs.YtlncdacoefoldaaGreatDoor.L

theorem sx_mem (i : Fin 6) : (sx i).1.data.toList ∈ six := by
  match i with
  | 0 => decide
  | 1 => decide
  | 2 => decide
  | 3 => decide
  | 4 => decide
  | 5 => decide
theorem sx_of (s : Bs) (h : s ∈ six) : ∃ i : Fin 6, (sx i).1.data.toList = s := by
  simp only [six, List.mem_cons, List.not_mem_nil, or_false] at h
  rcases h with rfl | rfl | rfl | rfl | rfl | rfl
  · exact ⟨0, rfl⟩
  · exact ⟨1, rfl⟩
  · exact ⟨2, rfl⟩
  · exact ⟨3, rfl⟩
  · exact ⟨4, rfl⟩
  · exact ⟨5, rfl⟩
theorem first_is (t : ByteArray) (i0 : Fin 6) (h : ∀ k, ltF t k i0 = false) (s : Bs) (hs : signOf t.data.toList = some s) : (sx i0).1.data.toList = s := by
  obtain ⟨h1, i, h2, h3⟩ := sign_some _ _ hs
  obtain ⟨k, hk⟩ := sx_of s h1
  have hlt := h k
  unfold ltF ltS pl at hlt
  rw [hk, h2] at hlt
  by_cases e : (sx i0).1.data.toList = s
  · exact e
  · cases hj : idx (sx i0).1.data.toList t.data.toList with
    | none => rw [hj] at hlt; simp at hlt
    | some j =>
      rw [hj] at hlt
      have := h3 _ (sx_mem i0) e j hj
      simp at hlt
      omega
def cells6 : Array Value := #[.string ⟨#[58, 63]⟩, .func (.func 123) #[] #[], .string ⟨#[63]⟩, .func (.func 124) #[] #[], .string ⟨#[58, 45]⟩, .func (.func 125) #[] #[], .string ⟨#[45]⟩, .func (.func 126) #[] #[], .string ⟨#[58, 43]⟩, .func (.func 127) #[] #[], .string ⟨#[43]⟩, .func (.func 128) #[] #[]]
theorem own6 {w : World} {base g : Nat} (h : w.heap[g]? = some (.cells cells6 199 (0, 0))) (hg : base ≤ g) : w.ownsRow base 199 2 (.slice (some ⟨g, 0, none⟩) 6 6) 6 ((List.finRange 6).flatMap encF) :=
  ⟨rfl, .inr ⟨g, 6, cells6, rfl, hg, h, by omega, by unfold maxLen; decide, rfl, rfl⟩⟩
theorem read6 {w : World} {base g : Nat} {l : List (Fin 6)} (hp : l.Perm (List.finRange 6)) (h : w.ownsRow base 199 2 (.slice (some ⟨g, 0, none⟩) 6 6) l.length (l.flatMap encF)) :
    ∃ i0 r, l = i0 :: r ∧ w.cell? ⟨g, 0, none⟩ = some (.string (sx i0).1) ∧ w.cell? ⟨g, 1, none⟩ = some (.func (.func (sx i0).2) #[] #[]) := by
  have hl : l.length = 6 := hp.length_eq.trans (by decide)
  match l, hl with
  | i0 :: r, hl =>
    refine ⟨i0, r, rfl, ?_⟩
    obtain ⟨A, c, e, _, hr⟩ := RowK.of_own h
    injection e with e1 e2 e3
    subst e1
    obtain ⟨b, o, e, _, _, hc⟩ := hr (by simp [encF, encS])
    injection e with e
    injection e with e1 e2
    subst e1
    subst e2
    have h0 := hc 0 (by simp [encF, encS])
    have h1 := hc 1 (by simp [encF, encS])
    exact ⟨h0, h1⟩
theorem heap_old {w : World} {o x : Obj} {b : Nat} (h : w.heap[b]? = some x) : (w.alloc o).heap[b]? = some x := by
  have hb : b < w.heap.size := by
    rcases Nat.lt_or_ge b w.heap.size with q | q
    · exact q
    · rw [Array.getElem?_eq_none q] at h; cases h
  exact (((Below.refl w.heap.size w).alloc (Nat.le_refl _) o).block b hb).trans h
theorem heap_new1 (w : World) (o1 o : Obj) : ((w.alloc o1).alloc o).heap[w.heap.size + 1]? = some o := by
  have h := (MapKept.heap_alloc (w.alloc o1) o).1
  rw [show (w.alloc o1).heap.size = w.heap.size + 1 by simp] at h
  exact h
theorem heap_new2 (w : World) (o1 o2 o : Obj) : (((w.alloc o1).alloc o2).alloc o).heap[w.heap.size + 2]? = some o := by
  have h := (MapKept.heap_alloc ((w.alloc o1).alloc o2) o).1
  rw [show ((w.alloc o1).alloc o2).heap.size = w.heap.size + 2 by simp] at h
  exact h
theorem cell0 {w : World} {b : Nat} {v : Value} {T : TypeId} {fr : Nat × Nat} (h : w.heap[b]? = some (.cells #[v] T fr)) : w.cell? ⟨b, 0, none⟩ = some v := by simp [World.cell?, h]
theorem all_of {l : List (Fin 6)} {lt : Fin 6 → Fin 6 → Bool} {i0 : Fin 6} {r : List (Fin 6)} (hirr : lt i0 i0 = false) (hp : (i0 :: r).Perm (List.finRange 6)) (hs : (i0 :: r).Pairwise (fun a b => lt b a = false)) : ∀ k, lt k i0 = false := by
  intro k
  have hk : k ∈ i0 :: r := hp.mem_iff.2 (List.mem_finRange k)
  rcases List.mem_cons.1 hk with rfl | hk
  · exact hirr
  · exact (List.pairwise_cons.1 hs).1 k hk
set_option maxHeartbeats 2000000 in
set_option maxRecDepth 100000 in
theorem get_sub (tb : ByteArray) (hts : tb.size < 2305843009213693952) (w : World) :
    Calls Tryz.prog 118 #[.string tb] w fun e w' => ∃ i0 : Fin 6, e = .returned (.tuple #[.string (sx i0).1, .func (.func (sx i0).2) #[] #[]]) ∧ (∀ s, signOf tb.data.toList = some s → (sx i0).1.data.toList = s) ∧ Below w.heap.size w w' := by
  go_enter Tryz.func118, Tryz.ntmps118
  go_wp2_with (go_at_call 45; refine (sub_sort tb hts (w.heap.size + 2) w.heap.size _ (w.heap.size + 1) _ (own6 ?h1 (Nat.le_refl _)) ?h2 ?h3 ?h4 ?h5).mono ?_; (case h1 => exact heap_old (heap_new1 _ _ _)); (case h2 => exact cell0 (heap_new2 _ _ _ _)); (case h3 => simp [Value.ownBlock]); (case h4 => exact cell0 (heap_old (heap_old (MapKept.heap_alloc _ _).1))); (case h5 => simp [Value.ownBlock]); rintro e w1 ⟨rfl, l', hp, hs, ho, hg⟩; have hbx : w1.cell? ⟨w.heap.size + 2, 0, none⟩ = some (.slice (some ⟨w.heap.size + 1, 0, none⟩) 6 6) := cell0 ((hg.block (w.heap.size + 2) (by simp) (by simp [Value.ownBlock])).trans (heap_new2 _ _ _ _)); have HB := Aside0.mk (((((Below.refl w.heap.size w).alloc (Nat.le_refl _) _).alloc (by simp) _).alloc (by simp; omega) _).grown hg (by simp; omega) (fun k hk => by simp [Value.ownBlock] at hk; omega)); obtain ⟨i0, r, rfl, hc0, hc1⟩ := read6 hp ho; have HM := Lib.hid (first_is tb i0 (all_of (l := i0 :: r) ((swoF tb).1 i0) hp hs)); clear hp hs ho hg)
  obtain ⟨y, hy⟩ : ∃ y, sx i0 = y := ⟨_, rfl⟩
  rw [hy] at hc0 hc1
  have HY := Lib.hid hy
  clear hy
  obtain ⟨ys, yf⟩ := y
  simp only [] at hc0 hc1
  go_quiet (fail)
  go_wp2
  go_ret2
  exact ⟨i0, by rw [HY.out]; rfl, HM.out, (below_drewN HB.out _)⟩
end Go.Proofs.YtlncdacoefoldaaGreatDoor.U
