/- Walks: package tree's Matcher. -/
import Derived.Test.YtageocibgakhmaaTreeD
import Derived.Deep.AppendLies
import Derived.Deep.RegionLaw
import Derived.Deep.RegionHeld3
namespace Go.Proofs.Ytageocibgakhmaa.L
open Go.RowKit

/-- values in line, each a slice of strings -/
def Each (ok : Nat → Prop) (w : World) (vs : List Value) (ll : List (List ByteArray)) : Prop := vs.length = ll.length ∧ ∀ i, i < ll.length → SSK ok w (vs.getD i undef) (ll.getD i [])
theorem Each.move {ok ok' : Nat → Prop} {w w' : World} {vs : List Value} {ll : List (List ByteArray)} (h : Each ok w vs ll) (hm : ∀ b, ok b → b < w.heap.size → w'.heap[b]? = w.heap[b]? ∧ ok' b) (hs : w.heap.size ≤ w'.heap.size) : Each ok' w' vs ll := ⟨h.1, fun i hi => RdK.move (h.2 i hi) hm hs⟩
theorem Each.nil (ok : Nat → Prop) (w : World) : Each ok w [] [] := ⟨rfl, fun i hi => by simp at hi⟩
theorem Each.snoc {ok : Nat → Prop} {w : World} {vs : List Value} {ll : List (List ByteArray)} (h : Each ok w vs ll) {v : Value} {l : List ByteArray} (hv : SSK ok w v l) : Each ok w (vs ++ [v]) (ll ++ [l]) := by
  refine ⟨by simp [h.1], fun i hi => ?_⟩
  rcases Nat.lt_or_ge i ll.length with h1 | h1
  · have e1 : (vs ++ [v]).getD i undef = vs.getD i undef := by
      rw [List.getD_eq_getElem?_getD, List.getD_eq_getElem?_getD, List.getElem?_append_left (by rw [h.1]; exact h1)]
    have e2 : (ll ++ [l]).getD i [] = ll.getD i [] := by
      rw [List.getD_eq_getElem?_getD, List.getD_eq_getElem?_getD, List.getElem?_append_left h1]
    rw [e1, e2]
    exact h.2 i h1
  · have : i = ll.length := by simp at hi; omega
    subst this
    have e1 : (vs ++ [v]).getD ll.length undef = v := by rw [← h.1]; simp
    have e2 : (ll ++ [l]).getD ll.length [] = l := by simp
    rw [e1, e2]
    exact hv
/-- a slice of slices of strings -/
def SSS (w : World) (v : Value) (ll : List (List ByteArray)) : Prop := ∃ vs, RdK (fun _ => True) w 1 v ll.length vs ∧ Each (fun _ => True) w vs ll
/-- a matcher: a pointer to one cell, the patterns' parts -/
def IsM (w : World) (v : Value) (ll : List (List ByteArray)) : Prop := ∃ B sv, v = .pointer (some ⟨B, 0, none⟩) ∧ B < w.heap.size ∧ w.cell? ⟨B, 0, none⟩ = some sv ∧ SSS w sv ll

theorem far_cell {w1 w2 : World} {o : Obj} {row : Option Nat} {B j : Nat} {sv : Value} (hg : (w1.alloc o).grownBy w2 row) (hB : B < w1.heap.size) (hne : row ≠ some B) (hc : w1.cell? ⟨B, j, none⟩ = some sv) : w2.cell? ⟨B, j, none⟩ = some sv := by
  rw [hg.cell_far ⟨B, j, none⟩ (by simp; omega) (Ne.symm hne), World.cell?_alloc_past _ _ _ hB]
  exact hc
theorem far_frozen {w1 w2 : World} {o : Obj} {row : Option Nat} {B j : Nat} {f : Bool} (hg : (w1.alloc o).grownBy w2 row) (hB : B < w1.heap.size) (hne : row ≠ some B) (hc : w1.frozen? ⟨B, j, none⟩ = f) : w2.frozen? ⟨B, j, none⟩ = f := by
  rw [hg.frozen_far ⟨B, j, none⟩ (by simp; omega) (Ne.symm hne)]
  have : (w1.alloc o).frozen? ⟨B, j, none⟩ = w1.frozen? ⟨B, j, none⟩ := World.frozen?_of_block (w := w1) (Below.heap_alloc w1 o B hB)
  rw [this]
  exact hc

theorem sliceInfo : (Try.prog.info? 28).map (fun i => (i.zero, i.size, i.bytes)) = some (some (.slice none 0 0), 1, 24) := by kernel_rfl
theorem pathInfo : (Try.prog.info? 58).map (fun i => (i.zero, i.size, i.bytes)) = some (some (.string ByteArray.empty), 1, 16) := by kernel_rfl

def MadeM (w : World) (ll : List (List ByteArray)) (e : Ending) (w' : World) : Prop := ∃ v, e = .returned v ∧ IsM w' v ll ∧ Below w.heap.size w w'

set_option maxHeartbeats 4000000 in
set_option maxRecDepth 100000 in
theorem tree_NewMatcher (l : List ByteArray) (v : Value) (w : World) (hv : SS w v l) (hl : l.length ≤ 4294967296) (hs : ∀ i, i < l.length → (l.getD i ByteArray.empty).size ≤ 2147483647) :
    Calls Try.prog 71 #[v] w fun e w' => MadeM w (l.map parts) e w' := by
  obtain ⟨i0, hi, hz0, hz1, hz2⟩ := info_parts sliceInfo
  obtain ⟨A, c, rfl, h1, h2, h3⟩ := hv.get
  have HV := Lib.hid h3
  have HS := Lib.hid hs
  clear h3 hs hv
  unfold maxLen at h2
  go_enter Try.func71, Try.ntmps71
  go_wp2_with (first | (at_make; refine wpList_make_own _ rfl _ _ 83 rfl w.heap.size 28 i0 (.slice none 0 0) 1 Try.underlying83 hi hz0 hz1 .i64 .i64 _ l.length rfl rfl (by omega) (by rw [hz2]; omega) (by unfold maxLen; omega) (Nat.le_refl _) ?_; intro w0 hown0 hgrow0))
  have hwB : w.heap.size < w0.heap.size := (World.ownsRow.lt hown0 _ rfl).2
  have hb0 : Below w.heap.size w w0 := (Below.refl _ _).grown hgrow0 (Nat.le_refl _) (fun k hk => by cases hk)
  go_loopw [13] (fun i wr => ∃ (k : Nat) (sv : Value) (vs : List Value), i = .int .i64 k ∧ k ≤ l.length ∧ wr.cell? ⟨w0.heap.size, 0, none⟩ = some sv ∧ wr.frozen? ⟨w0.heap.size, 0, none⟩ = false ∧ w0.heap.size < wr.heap.size ∧
      Hid (wr.ownsRow w.heap.size 28 1 sv k vs ∧ sv.ownBlock ≠ some w0.heap.size ∧ Each (fun b => some b ≠ sv.ownBlock ∧ b ≠ w0.heap.size) wr vs ((l.take k).map parts)) ∧ Below w.heap.size w wr) (fun i _ => l.length - (intOf i).toNat)
  case atStart =>
    refine ⟨0, _, [], rfl, Nat.zero_le _, by rw [World.cell?_alloc_at _ _ _ _ rfl]; rfl, World.frozen?_alloc_at _ _ _ _ rfl, by simp, ⟨hown0.alloc _, ?_, Each.nil _ _⟩, hb0.alloc hb0.size _⟩
    simp [Value.ownBlock]
    omega
  case round =>
    obtain ⟨k, sv, vs, rfl, hk, hc, hf, hBs, hR, hb⟩ := hrel
    have hws : w.heap.size ≤ wr.heap.size := hb.size
    by_cases hlt : k < l.length
    · obtain ⟨pb, po, rfl, hpb, hpc⟩ := HV.out (by omega)
      have hp := hpc k hlt
      have hp' : wr.cell? ⟨pb, po + k, none⟩ = some (.string (l.getD k ByteArray.empty)) := by rw [hb.cell (p := ⟨pb, po + k, none⟩) hpb]; exact hp
      have hsz := HS.out k hlt
      clear hpc hp
      have hx : Hid ((l.take (k + 1)).map parts = (l.take k).map parts ++ [parts (l.getD k ByteArray.empty)]) := by
        refine Lib.hid ?_
        rw [List.take_succ_eq_append_getElem hlt, List.map_append, List.getD_eq_getElem?_getD, List.getElem?_eq_getElem hlt]
        rfl
      generalize l.getD k ByteArray.empty = x at *
      obtain ⟨hown, hne, hea⟩ := hR.out
      clear hR
      go_wp2
      go_region_law (first | (refine step_append_lies _ (by rfl) _ _ 83 (by rfl) w.heap.size 28 i0 (.slice none 0 0) 1 24 Try.underlying83 hi hz0 hz1 hz2 rfl (by decide) sv k vs (by rfl) ((own_below hown hb1').alloc _) ⟨w1.heap.size, 0, none⟩ 1 1 [.slice PA _ pcap] (by rfl) rfl (cell_one_new _ _ _) (by simp [Value.oneCell']) (by decide) (by unfold maxLen; omega) (by omega) (by have := hb1'.size; simp; omega) _ rfl ?_; intro g cap w2 hown2 hgrow2 hat2 hlt2; have hc2 := far_cell hgrow2 hB1 hne hc1; have hf2 := far_frozen hgrow2 hB1 hne hf1) | (go_simp; go_at_call 59; refine (tree_Parts x _ hsz).mono ?_; rintro e w1 ⟨pv, rfl, hss, hb1⟩; obtain ⟨PA, pcap, rfl, hq1, hq2, hq3⟩ := hss.any.get; have hQ := Lib.hid hq3; clear hq3; have hb1' := below_un hb1; have hB1 := Nat.lt_of_lt_of_le hBs hb1'.size; have hc1 := (hb1.cell (p := ⟨w0.heap.size, 0, none⟩) hBs).trans hc; have hf1 := (hb1.frozen (p := ⟨w0.heap.size, 0, none⟩) hBs).trans hf))
      all_goals
        have hg : some g ≠ some w0.heap.size := by
          rcases hat2 with h | h
          · rw [← h]; exact hne
          · intro e; injection e with e; simp at h; omega
        go_wp2
        go_roundw
        case rel =>
          have hea1 := hea.move (w' := w1) (ok' := fun b => some b ≠ sv.ownBlock ∧ b ≠ w0.heap.size) (fun b hok hlt' => ⟨hb1'.block b hlt', hok⟩) hb1'.size
          have hea2 := hea1.snoc (RdK.imp hss (fun b h1' h2' => ⟨fun e => by have := (World.ownsRow.lt hown b e.symm).2; exact absurd h1' (Nat.not_le.2 this), by have : wr.heap.size ≤ b := h1'; omega⟩))
          rw [List.length_map] at hea2
          have hsz2 : w1.heap.size + 1 ≤ w2.heap.size := by have := hgrow2.size; simpa using this
          refine ⟨k + 1, .slice (some ⟨g, 0, none⟩) (k + 1) cap, vs ++ [.slice PA (sp 46 x.data.toList).length pcap], by go_num, hlt, World.cell?_setCell_same _ _ _ hc2, ?_, ?_, Lib.hid ⟨own_set hown2 (a := ⟨w0.heap.size, 0, none⟩) (by simpa [Value.ownBlock] using hg) _, hg, ?_⟩, ?_⟩
          · rw [World.frozen?_setCell]; exact hf2
          · simp [World.setCell]; omega
          · rw [hx.out]
            refine Each.move (ok := fun b => some b ≠ sv.ownBlock ∧ b ≠ w0.heap.size) (ok' := fun b => some b ≠ some g ∧ b ≠ w0.heap.size) (w := w1) (w' := w2.setCell ⟨w0.heap.size, 0, none⟩ (.slice (some ⟨g, 0, none⟩) (k + 1) cap)) hea2 (fun b hok hlt' => ⟨?_, ?_, hok.2⟩) (by rw [setCell_size]; omega)
            · rw [Below.heap_setCell _ _ _ _ hok.2, hgrow2.block b (by simp; omega) hok.1, Below.heap_alloc _ _ _ hlt']
            · rcases hat2 with h | h
              · rw [h] at hok; exact hok.1
              · intro e; injection e with e; simp at h; omega
          · refine Below.setCell ?_ (by show w.heap.size ≤ w0.heap.size; omega) _
            exact ((hb.trans (hb1'.mono hws)).alloc (Nat.le_trans hws hb1'.size) _).grown hgrow2 (by have := hb1'.size; simp; omega) (fun k' hk' => (World.ownsRow.lt hown k' hk').1)
        case measure => simp [intOf]; omega
    · have hkl : k = l.length := by omega
      have HK := Lib.hid hkl
      clear hkl
      go_wp2
      go_ret
      obtain ⟨hown, hne, hea⟩ := hR.out
      refine ⟨_, rfl, ⟨w0.heap.size, sv, rfl, hBs, hc, vs, ?_, ?_⟩, hb⟩
      · rw [List.length_map, ← HK.out]
        exact RdK.imp (RdK.of_own hown) (fun _ _ _ => trivial)
      · rw [HK.out, List.take_length] at hea
        exact hea.move (fun b _ _ => ⟨rfl, trivial⟩) (Nat.le_refl _)
end Go.Proofs.Ytageocibgakhmaa.L
