-- Written by a program over the translation (xprint.py). Lean checks it.
import Derived.Test.YtklbghadhneejaaDoorPXx0
import Derived.Test.YtklbghadhneejaaDoorPXx1
import Derived.Test.YtklbghadhneejaaDoorPXx2
import Derived.Test.YtklbghadhneejaaDoorPXx3
namespace Go.Proofs.YtklbghadhneejaaDoor.PX
open Go.RowKit Go.Proofs.YtklbghadhneejaaDoorW.PrintWords Go.Proofs.YtklbghadhneejaaDoorW.PrintLast Go.Proofs.YtklbghadhneejaaDoorW.PrintMore
attribute [local go_sem] max2_int min2_int max_two min_two max_three min_three max_four min_four   -- for this text's walks alone
set_option linter.unusedVariables false
set_option linter.unusedSimpArgs false

/-! ### spec_ShortVolume: function 6 -/
mutual
def spec_ShortVolume.j0 : Nat → List ByteArray → ByteArray → ByteArray → ByteArray → ByteArray → ByteArray → Bool → Bool → Bool → Option (ByteArray × ByteArray × ByteArray × ByteArray × ByteArray × Bool × Bool × Bool × Bool)
  | 0, _, _, _, _, _, _, _, _, _ => none
  | k + 1, x4, x126000, x126001, x126002, x126003, x126004, x126005, x126006, x126007 => if 0 < (x4.length : Int) then (if ((rdOf ByteArray.empty x4 0).size : Int) < 3 then (spec_ShortVolume.j1 k x4 true x126000 x126001 (rdOf ByteArray.empty x4 0) x126003 x126004 x126005 x126006 x126007) else (if 0 < ((rdOf ByteArray.empty x4 0).size : Int) then (if (bt (rdOf ByteArray.empty x4 0) 0) = 47 then ((spec_shortWord.f k (rdOf ByteArray.empty x4 0) true).bind fun t137 => (spec_ShortVolume.j1 k x4 (!t137) x126000 x126001 (rdOf ByteArray.empty x4 0) x126003 x126004 x126005 x126006 x126007)) else (spec_ShortVolume.j1 k x4 true x126000 x126001 (rdOf ByteArray.empty x4 0) x126003 x126004 x126005 x126006 x126007)) else (none))) else (none)
def spec_ShortVolume.j1 : Nat → List ByteArray → Bool → ByteArray → ByteArray → ByteArray → ByteArray → ByteArray → Bool → Bool → Bool → Option (ByteArray × ByteArray × ByteArray × ByteArray × ByteArray × Bool × Bool × Bool × Bool)
  | 0, _, _, _, _, _, _, _, _, _, _ => none
  | k + 1, x4, x61, x126000, x126001, x126002, x126003, x126004, x126005, x126006, x126007 => if x61 = true then (some ((⟨#[]⟩ : ByteArray), (⟨#[]⟩ : ByteArray), (⟨#[]⟩ : ByteArray), (⟨#[]⟩ : ByteArray), (⟨#[]⟩ : ByteArray), false, false, false, false)) else (if (x4.length : Int) = 1 then (some (x126000, x126001, x126002, x126003, x126004, x126005, x126006, x126007, true)) else (if 1 < (x4.length : Int) then ((spec_shortParts.f k (rdOf ByteArray.empty x4 1) 44).bind fun t139 => (spec_ShortVolume.l0 k ([] : List ByteArray) t139 0 x126000 x126001 x126002 x126003 x126004 x126005 x126006 x126007)) else (none)))
def spec_ShortVolume.l0 : Nat → List ByteArray → List ByteArray → Int → ByteArray → ByteArray → ByteArray → ByteArray → ByteArray → Bool → Bool → Bool → Option (ByteArray × ByteArray × ByteArray × ByteArray × ByteArray × Bool × Bool × Bool × Bool)
  | 0, _, _, _, _, _, _, _, _, _, _, _ => none
  | k + 1, x8, x9, x10, x126000, x126001, x126002, x126003, x126004, x126005, x126006, x126007 => if x10 < (x9.length : Int) then (if 0 ≤ x10 then ((spec_shortMode.f k x126000 x126001 x126002 x126003 x126004 x126005 x126006 x126007 (rdOf ByteArray.empty x9 x10) x8).bind fun bt143 => (if bt143.2.2.2.2.2.2.2.2.2 = true then (if x8.length < 8796093022208 then (spec_ShortVolume.l0 k (x8 ++ [bt143.2.2.2.2.2.2.2.2.1]) x9 (wrap64 (x10 + 1)) bt143.1 bt143.2.1 bt143.2.2.1 bt143.2.2.2.1 bt143.2.2.2.2.1 bt143.2.2.2.2.2.1 bt143.2.2.2.2.2.2.1 bt143.2.2.2.2.2.2.2.1) else (none)) else (some ((⟨#[]⟩ : ByteArray), (⟨#[]⟩ : ByteArray), (⟨#[]⟩ : ByteArray), (⟨#[]⟩ : ByteArray), (⟨#[]⟩ : ByteArray), false, false, false, false)))) else (none)) else (some (x126000, x126001, x126002, x126003, x126004, x126005, x126006, x126007, true))
end
def spec_ShortVolume.f (k : Nat) (a0 : ByteArray) : Option (ByteArray × ByteArray × ByteArray × ByteArray × ByteArray × Bool × Bool × Bool × Bool) := (spec_shortParts.f k a0 58).bind fun t122 => (if (t122.length : Int) > 3 then (some ((⟨#[]⟩ : ByteArray), (⟨#[]⟩ : ByteArray), (⟨#[]⟩ : ByteArray), (⟨#[]⟩ : ByteArray), (⟨#[]⟩ : ByteArray), false, false, false, false)) else (if (t122.length : Int) > 1 then (if 0 < (t122.length : Int) then ((spec_shortPath.f k (rdOf ByteArray.empty t122 0)).bind fun bt127 => (if bt127.2 = true then (if bt127.1 = true then (if 1 ≤ (t122.length : Int) then (spec_ShortVolume.j0 k (t122.drop (1 : Int).toNat) (⟨#[98, 105, 110, 100]⟩ : ByteArray) (rdOf ByteArray.empty t122 0) (⟨#[]⟩ : ByteArray) (⟨#[]⟩ : ByteArray) (⟨#[]⟩ : ByteArray) false true false) else (none)) else (if 1 ≤ (t122.length : Int) then (spec_ShortVolume.j0 k (t122.drop (1 : Int).toNat) (⟨#[118, 111, 108, 117, 109, 101]⟩ : ByteArray) (rdOf ByteArray.empty t122 0) (⟨#[]⟩ : ByteArray) (⟨#[]⟩ : ByteArray) (⟨#[]⟩ : ByteArray) false false false) else (none))) else (some ((⟨#[]⟩ : ByteArray), (⟨#[]⟩ : ByteArray), (⟨#[]⟩ : ByteArray), (⟨#[]⟩ : ByteArray), (⟨#[]⟩ : ByteArray), false, false, false, false)))) else (none)) else (spec_ShortVolume.j0 k t122 (⟨#[118, 111, 108, 117, 109, 101]⟩ : ByteArray) (⟨#[]⟩ : ByteArray) (⟨#[]⟩ : ByteArray) (⟨#[]⟩ : ByteArray) (⟨#[]⟩ : ByteArray) false false false)))
theorem spec_ShortVolume.mono_l : ∀ k, (∀ y0 y1 y2 y3 y4 y5 y6 y7 y8, LeO (spec_ShortVolume.j0 k y0 y1 y2 y3 y4 y5 y6 y7 y8) (spec_ShortVolume.j0 (k + 1) y0 y1 y2 y3 y4 y5 y6 y7 y8)) ∧ (∀ y0 y1 y2 y3 y4 y5 y6 y7 y8 y9, LeO (spec_ShortVolume.j1 k y0 y1 y2 y3 y4 y5 y6 y7 y8 y9) (spec_ShortVolume.j1 (k + 1) y0 y1 y2 y3 y4 y5 y6 y7 y8 y9)) ∧ (∀ y0 y1 y2 y3 y4 y5 y6 y7 y8 y9 y10, LeO (spec_ShortVolume.l0 k y0 y1 y2 y3 y4 y5 y6 y7 y8 y9 y10) (spec_ShortVolume.l0 (k + 1) y0 y1 y2 y3 y4 y5 y6 y7 y8 y9 y10))
  | 0 => ⟨fun _ _ _ _ _ _ _ _ _ r h => by simp [spec_ShortVolume.j0] at h, fun _ _ _ _ _ _ _ _ _ _ r h => by simp [spec_ShortVolume.j1] at h, fun _ _ _ _ _ _ _ _ _ _ _ r h => by simp [spec_ShortVolume.l0] at h⟩
  | k + 1 => by
    obtain ⟨ih0, ih1, ih2⟩ := spec_ShortVolume.mono_l k
    refine ⟨?_, ?_, ?_⟩
    · intro y0 y1 y2 y3 y4 y5 y6 y7 y8
      unfold spec_ShortVolume.j0
      repeat' first
      | (with_reducible exact ih0 _ _ _ _ _ _ _ _ _)
      | (with_reducible exact ih1 _ _ _ _ _ _ _ _ _ _)
      | (with_reducible exact ih2 _ _ _ _ _ _ _ _ _ _ _)
      | (with_reducible exact spec_shortMode.mono _ _ _ _ _ _ _ _ _ _ _)
      | (with_reducible exact spec_shortParts.mono _ _ _)
      | (with_reducible exact spec_shortPath.mono _ _)
      | (with_reducible exact spec_shortWord.mono _ _ _)
      | (with_reducible exact LeO.refl _)
      | (with_reducible exact LeO.none _)
      | (with_reducible refine LeO.ite ?_ ?_)
      | (with_reducible refine LeO.bind ?_ (fun _ => ?_))
      | exact ih0 _ _ _ _ _ _ _ _ _
      | exact ih1 _ _ _ _ _ _ _ _ _ _
      | exact ih2 _ _ _ _ _ _ _ _ _ _ _
      | exact spec_shortMode.mono _ _ _ _ _ _ _ _ _ _ _
      | exact spec_shortParts.mono _ _ _
      | exact spec_shortPath.mono _ _
      | exact spec_shortWord.mono _ _ _
      | exact LeO.none _
      | refine LeO.ite ?_ ?_
      | refine LeO.bind ?_ (fun _ => ?_)
    · intro y0 y1 y2 y3 y4 y5 y6 y7 y8 y9
      unfold spec_ShortVolume.j1
      repeat' first
      | (with_reducible exact ih0 _ _ _ _ _ _ _ _ _)
      | (with_reducible exact ih1 _ _ _ _ _ _ _ _ _ _)
      | (with_reducible exact ih2 _ _ _ _ _ _ _ _ _ _ _)
      | (with_reducible exact spec_shortMode.mono _ _ _ _ _ _ _ _ _ _ _)
      | (with_reducible exact spec_shortParts.mono _ _ _)
      | (with_reducible exact spec_shortPath.mono _ _)
      | (with_reducible exact spec_shortWord.mono _ _ _)
      | (with_reducible exact LeO.refl _)
      | (with_reducible exact LeO.none _)
      | (with_reducible refine LeO.ite ?_ ?_)
      | (with_reducible refine LeO.bind ?_ (fun _ => ?_))
      | exact ih0 _ _ _ _ _ _ _ _ _
      | exact ih1 _ _ _ _ _ _ _ _ _ _
      | exact ih2 _ _ _ _ _ _ _ _ _ _ _
      | exact spec_shortMode.mono _ _ _ _ _ _ _ _ _ _ _
      | exact spec_shortParts.mono _ _ _
      | exact spec_shortPath.mono _ _
      | exact spec_shortWord.mono _ _ _
      | exact LeO.none _
      | refine LeO.ite ?_ ?_
      | refine LeO.bind ?_ (fun _ => ?_)
    · intro y0 y1 y2 y3 y4 y5 y6 y7 y8 y9 y10
      unfold spec_ShortVolume.l0
      repeat' first
      | (with_reducible exact ih0 _ _ _ _ _ _ _ _ _)
      | (with_reducible exact ih1 _ _ _ _ _ _ _ _ _ _)
      | (with_reducible exact ih2 _ _ _ _ _ _ _ _ _ _ _)
      | (with_reducible exact spec_shortMode.mono _ _ _ _ _ _ _ _ _ _ _)
      | (with_reducible exact spec_shortParts.mono _ _ _)
      | (with_reducible exact spec_shortPath.mono _ _)
      | (with_reducible exact spec_shortWord.mono _ _ _)
      | (with_reducible exact LeO.refl _)
      | (with_reducible exact LeO.none _)
      | (with_reducible refine LeO.ite ?_ ?_)
      | (with_reducible refine LeO.bind ?_ (fun _ => ?_))
      | exact ih0 _ _ _ _ _ _ _ _ _
      | exact ih1 _ _ _ _ _ _ _ _ _ _
      | exact ih2 _ _ _ _ _ _ _ _ _ _ _
      | exact spec_shortMode.mono _ _ _ _ _ _ _ _ _ _ _
      | exact spec_shortParts.mono _ _ _
      | exact spec_shortPath.mono _ _
      | exact spec_shortWord.mono _ _ _
      | exact LeO.none _
      | refine LeO.ite ?_ ?_
      | refine LeO.bind ?_ (fun _ => ?_)
theorem spec_ShortVolume.mono : ∀ a0 k, LeO (spec_ShortVolume.f k a0) (spec_ShortVolume.f (k + 1) a0) := by
  intro a0 k
  obtain ⟨ih0, ih1, ih2⟩ := spec_ShortVolume.mono_l k
  unfold spec_ShortVolume.f
  repeat' first
      | (with_reducible exact ih0 _ _ _ _ _ _ _ _ _)
      | (with_reducible exact ih1 _ _ _ _ _ _ _ _ _ _)
      | (with_reducible exact ih2 _ _ _ _ _ _ _ _ _ _ _)
      | (with_reducible exact spec_shortMode.mono _ _ _ _ _ _ _ _ _ _ _)
      | (with_reducible exact spec_shortParts.mono _ _ _)
      | (with_reducible exact spec_shortPath.mono _ _)
      | (with_reducible exact spec_shortWord.mono _ _ _)
      | (with_reducible exact LeO.refl _)
      | (with_reducible exact LeO.none _)
      | (with_reducible refine LeO.ite ?_ ?_)
      | (with_reducible refine LeO.bind ?_ (fun _ => ?_))
      | exact ih0 _ _ _ _ _ _ _ _ _
      | exact ih1 _ _ _ _ _ _ _ _ _ _
      | exact ih2 _ _ _ _ _ _ _ _ _ _ _
      | exact spec_shortMode.mono _ _ _ _ _ _ _ _ _ _ _
      | exact spec_shortParts.mono _ _ _
      | exact spec_shortPath.mono _ _
      | exact spec_shortWord.mono _ _ _
      | exact LeO.none _
      | refine LeO.ite ?_ ?_
      | refine LeO.bind ?_ (fun _ => ?_)
end Go.Proofs.YtklbghadhneejaaDoor.PX
