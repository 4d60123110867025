/- The walks of impl.equals and types.MappingWithEquals.OverrideBy. -/
import Derived.Test.YtcocmdbleicmcaaGreatDoorOpts
namespace Go.Proofs.YtcocmdbleicmcaaGreatDoor.M
set_option linter.unusedVariables false
set_option linter.unusedSimpArgs false
set_option linter.unusedSectionVars false
open Go.RowKit Go.Proofs.YtcocmdbleicmcaaGreatDoorW.PrintWords Go.Proofs.YtcocmdbleicmcaaGreatDoorW.PrintLast Go.Proofs.YtcocmdbleicmcaaGreatDoor.PX Go.Proofs.YtcocmdbleicmcaaGreatDoor.SM

theorem cell_grownM {β : Type} {enc : β → Value} {W w1 : World} {b : Nat} {m : List (ByteArray × β)} (hT : TMap W b enc m) (hg : W.grownBy w1 (some b)) {a : Addr} {u : Value} (h : W.cell? a = some u) : w1.cell? a = some u := by
  have hlt := World.block_lt_of_cell? W _ h
  have hne : a.block ≠ b := fun e => by
    obtain ⟨es, clock, hm, _⟩ := hT
    unfold World.cell? at h
    rw [e, hm] at h
    simp at h
  exact (World.cell?_of_block (hg.block a.block hlt (fun e => hne (by injection e)))).trans h
theorem Held.below {w w1 : World} {m : List (ByteArray × PO)} (h : Held w m) (hb : Below w.heap.size w w1) : Held w1 m := fun k a s hm => by
  have := h k a s hm
  exact (hb.cell (World.block_lt_of_cell? w _ this)).trans this
theorem held_nil (W : World) : Held W [] := fun k a s hm => by simp at hm
theorem Held.put_ {W w1 : World} {b : Nat} {m m' : List (ByteArray × PO)} {k : ByteArray} {v : PO} (h : Held W m) (hT : TMap W b encO m') (hg : W.grownBy w1 (some b)) (hv : ∀ a s, v = some (a, s) → W.cell? a = some (.string s)) : Held w1 (put m k v) := fun k' a s hm => by
  rcases (mem_put (k', some (a, s))).1 hm with e | ⟨_, hm⟩
  · injection e with _ e
    exact cell_grownM hT hg (hv a s e.symm)
  · exact cell_grownM hT hg (h k' a s hm)
/-- What a map holds, without the addresses. -/
def img (m : List (ByteArray × PO)) : List (ByteArray × Option ByteArray) := m.map (fun p => (p.1, p.2.map (·.2)))
def valO (x : S76) : Option ByteArray := if x.f2 = true then some x.f1 else none
def putsE (l : List S76) : List (ByteArray × Option ByteArray) := l.foldl (fun m x => put m x.f0 (valO x)) []
theorem has_img (m : List (ByteArray × PO)) (k : ByteArray) : has (img m) k = has m k := by simp [has, img, Function.comp_def]
theorem img_put (m : List (ByteArray × PO)) (k : ByteArray) (v : PO) : img (put m k v) = put (img m) k (v.map (·.2)) := by
  unfold put
  rw [has_img]
  split
  · simp only [img, List.map_map]
    apply List.map_congr_left
    intro p _
    simp only [Function.comp]
    split <;> rfl
  · simp [img]
theorem putsE_snoc (l : List S76) (x : S76) : putsE (l ++ [x]) = put (putsE l) x.f0 (valO x) := by simp [putsE]
end Go.Proofs.YtcocmdbleicmcaaGreatDoor.M
