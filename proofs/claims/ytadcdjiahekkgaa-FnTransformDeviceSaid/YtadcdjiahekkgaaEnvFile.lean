/- Walks: the index of an env_file, and the law on it. -/
import Derived.Test.YtadcdjiahekkgaaTo
import Derived.Test.YtadcdjiahekkgaaWord
import Derived.Test.YtadcdjiahekkgaaLaw
namespace Go.Proofs.Ytadcdjiahekkgaa.A
set_option linter.unusedVariables false
set_option linter.unusedSimpArgs false
set_option linter.unusedSectionVars false
open Go.RowKit Go.Proofs.YtadcdjiahekkgaaW.PrintWords Go.Proofs.YtadcdjiahekkgaaW.PrintLast Go.Proofs.YtadcdjiahekkgaaW.PrintMore Go.Proofs.Ytadcdjiahekkgaa.PT Go.Proofs.Ytadcdjiahekkgaa.L Go.Proofs.Ytadcdjiahekkgaa.SM

theorem any_text {lo : Nat} {w : World} {s : ByteArray} {v : AV} (h : AnyIs lo w (tI s) v) : v = .text s := by
  cases h with
  | text h => rfl
  | nil h => simp [tI] at h
  | bool h => simp [tI] at h
  | int h => simp [tI] at h
  | list h _ _ _ _ _ => simp [tI] at h
  | map h _ _ _ _ _ => simp [tI] at h
theorem any_map {lo : Nat} {w : World} {ks ss : List ByteArray} {v : AV} (h : AnyIs lo w (mI ks ss) v) : ∃ b, v = .map b ∧ lo ≤ b ∧ TMap w b AV.enc (ks.zip (ss.map AV.text)) := by
  cases h with
  | @map _ b m h hm hb hk hl he =>
    refine ⟨b, rfl, hb, ?_⟩
    have e : m = ks.zip (ss.map AV.text) := by
      have hk' : m.map (·.1) = ks := hk
      have hl' : m.length = ss.length := by simpa [mI] using hl
      have hkl : ks.length = m.length := by rw [← hk']; simp
      refine List.ext_getElem (by simp; omega) (fun i h1 h2 => ?_)
      have h3 : i < ss.length := by omega
      have h4 : i < (mI ks ss).f4.length := by simpa [mI] using h3
      have q := he i h4 h1
      have e2 : (mI ks ss).f4[i]'h4 = tI (ss[i]'h3) := by simp [mI]
      rw [e2] at q
      have e3 := any_text q
      have e4 : (m[i]'h1).1 = ks[i]'(by omega) := by
        have : (m.map (·.1))[i]'(by simpa using h1) = ks[i]'(by omega) := by simp only [hk']
        simpa using this
      rw [List.getElem_zip]
      refine Prod.ext e4 ?_
      rw [e3]
      simp
    rw [← e]
    exact hm
  | nil h => simp [mI] at h
  | bool h => simp [mI] at h
  | int h => simp [mI] at h
  | text h => simp [mI] at h
  | list h _ _ _ _ _ => simp [mI] at h
theorem canon_text (s : ByteArray) : Canon (tI s) := .mk (fun h => by simp [tI] at h) (by simp [tI]) (fun y hy => by simp [tI] at hy)
theorem canon_map (ks ss : List ByteArray) (hn : ks.Nodup) (hl : ks.length = ss.length) (hb : ss.length ≤ 1099511627776) : Canon (mI ks ss) := .mk (fun _ => ⟨hn, by simpa [mI] using hl⟩) (by simpa [mI] using hb) (fun y hy => by
  simp only [mI, List.mem_map] at hy
  obtain ⟨s, _, rfl⟩ := hy
  exact canon_text s)
end Go.Proofs.Ytadcdjiahekkgaa.A
