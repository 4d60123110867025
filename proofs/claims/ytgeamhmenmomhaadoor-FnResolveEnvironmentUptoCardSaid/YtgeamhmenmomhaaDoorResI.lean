/- The walks of loader.resolve, loader.Resolve on what something is said of. -/
import Derived.Test.YtgeamhmenmomhaaDoorResQ
import Derived.Test.YtgeamhmenmomhaaDoorTo
namespace Go.Proofs.YtgeamhmenmomhaaDoor.A
set_option linter.unusedVariables false
set_option linter.unusedSimpArgs false
set_option linter.unusedSectionVars false
open Go.RowKit Go.Proofs.YtgeamhmenmomhaaDoorW.PrintWords Go.Proofs.YtgeamhmenmomhaaDoorW.PrintLast Go.Proofs.YtgeamhmenmomhaaDoorW.PrintMore Go.Proofs.YtgeamhmenmomhaaDoor.PT Go.Proofs.YtgeamhmenmomhaaDoor.L Go.Proofs.YtgeamhmenmomhaaDoor.SM
open Go.Proofs.YtgeamhmenmomhaaDoor.U (EnvAt look1)

/-! ### values, as the package takes them -/
theorem any_text {lo : Nat} {w : World} {s : ByteArray} {v : AV} (h : AnyIs lo w (tI s) v) : v = .text s := by
  cases h with
  | text h => rfl
  | nil h => simp [tI] at h
  | bool h => simp [tI] at h
  | int h => simp [tI] at h
  | list h _ _ _ _ _ => simp [tI] at h
  | map h _ _ _ _ _ => simp [tI] at h
theorem any_list {lo : Nat} {w : World} {ss : List ByteArray} {v : AV} (h : AnyIs lo w (RD.I (.list ss)) v) : ∃ A c, v = .sl A ss.length c ∧ kA.C w A ss.length (ss.map AV.text) := by
  cases h with
  | nil h => simp [RD.I] at h
  | text h => simp [RD.I] at h
  | bool h => simp [RD.I] at h
  | int h => simp [RD.I] at h
  | map h _ _ _ _ _ => simp [RD.I] at h
  | @list _ A c vs h hl hc hr hA he =>
    have hl' : vs.length = ss.length := by rw [hl]; simp [RD.I]
    have e : vs = ss.map AV.text := by
      apply List.ext_getElem (by simp [hl'])
      intro i h1 h2
      have h3 : i < (RD.I (.list ss)).f4.length := by rw [← hl]; exact h1
      have := he i h3 h1
      have e2 : (RD.I (.list ss)).f4[i]'h3 = tI (ss[i]'(by omega)) := by simp [RD.I]
      rw [e2] at this
      rw [any_text this, List.getElem_map]
    rw [hl'] at hr ⊢
    rw [e] at hr
    exact ⟨A, c, rfl, hr⟩
/-! ### a map's entries -/
/-! ### the walks -/
abbrev envM (Em : List (ByteArray × ByteArray)) : Env := fun k => SM.look Em k
abbrev lk (p : Nat) : Value := .func (.func 45) #[] #[.pointer (some ⟨p, 0, none⟩)]
end Go.Proofs.YtgeamhmenmomhaaDoor.A
