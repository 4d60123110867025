/- The walks of format.zzSplit at ',' and of format.populateFieldFromBuffer where options are read. -/
import Derived.Test.YtklbghadhneejaaDoorVolF
namespace Go.Proofs.YtklbghadhneejaaDoor.V
set_option linter.unusedVariables false
set_option linter.unusedSimpArgs false
set_option linter.unusedSectionVars false
open Go.RowKit Go.Proofs.YtklbghadhneejaaDoorW.PrintWords Go.Proofs.YtklbghadhneejaaDoorW.PrintLast Go.Proofs.YtklbghadhneejaaDoor.PX

def fnd (c : Int) (s : ByteArray) : Nat → Nat → Option Nat
  | 0, _ => none
  | n + 1, i => if bt s (i : Int) = c then some i else fnd c s n (i + 1)
theorem fnd_lt (c : Int) (s : ByteArray) : ∀ n i j, n = s.size - i → i ≤ s.size → fnd c s n i = some j → j < s.size
  | 0, i, j, h, hi, hf => by simp [fnd] at hf
  | n + 1, i, j, h, hi, hf => by
    rw [fnd] at hf
    split at hf
    · injection hf with hf; omega
    · exact fnd_lt c s n (i + 1) j (by omega) (by omega) hf
theorem one_byte (s : ByteArray) (i : Nat) (h : i < s.size) : (s.extract i (i + 1)).toList = (⟨#[44]⟩ : ByteArray).toList ↔ bt s (i : Int) = 44 := by
  have hl : i < s.data.toList.length := by rw [len_data]; exact h
  have e1 : (s.extract i (i + 1)).toList = [s.data.toList[i]] := by
    rw [ByteArray.toList_eq, extract_list, show i + 1 - i = 1 by omega, List.drop_eq_getElem_cons hl]
    simp
  have e2 : (⟨#[44]⟩ : ByteArray).toList = [44] := by rw [ByteArray.toList_eq]
  rw [e1, e2, bt_eq s i hl]
  constructor
  · intro h; injection h with h; rw [h]; rfl
  · intro h
    have : s.data.toList[i] = 44 := UInt8.toNat_inj.1 (by have : (44 : UInt8).toNat = 44 := rfl; omega)
    rw [this]
theorem zidx_l0 (s : ByteArray) (hs : s.size < 4611686018427387903) : ∀ n i, n = s.size - i → i ≤ s.size → format_zzIndex.l0 (n + 1) s ⟨#[44]⟩ (i : Int) = some (match fnd 44 s n i with
  | none => -1
  | some j => (j : Int))
  | 0, i, h, hi => by
    rw [format_zzIndex.l0, show ((⟨#[44]⟩ : ByteArray).size : Int) = 1 from rfl, wrapS i (by omega), if_neg (by omega)]; rfl
  | n + 1, i, h, hi => by
    rw [format_zzIndex.l0, show ((⟨#[44]⟩ : ByteArray).size : Int) = 1 from rfl, wrapS i (by omega), if_pos (by omega), if_pos (by omega), if_pos (by omega), fnd]
    have ho := one_byte s i (by omega)
    simp only [Int.toNat_natCast]
    by_cases hb : bt s (i : Int) = 44
    · rw [if_pos (ho.2 hb), if_pos hb]
    · rw [if_neg (fun h => hb (ho.1 h)), if_neg hb]
      exact zidx_l0 s hs n (i + 1) (by omega) (by omega)
/-- A text's parts between ','. -/
def splitC : Nat → ByteArray → List ByteArray
  | 0, s => [s]
  | k + 1, s => match fnd 44 s s.size 0 with
    | none => [s]
    | some j => s.extract 0 j :: splitC k (s.extract (j + 1) s.size)
theorem size_from (s : ByteArray) (j : Nat) (h : j ≤ s.size) : (s.extract j s.size).size = s.size - j := by
  rw [← len_data, extract_list, List.length_take, List.length_drop, len_data]; omega
theorem splitC_more : ∀ k s, s.size ≤ k → splitC (k + 1) s = splitC k s
  | 0, s, h => by
    have h0 : s.size = 0 := by omega
    rw [splitC, splitC, h0]
    rfl
  | k + 1, s, h => by
    rw [splitC, splitC]
    cases e : fnd 44 s s.size 0 with
    | none => rfl
    | some j =>
      have hj := fnd_lt 44 s s.size 0 j (by omega) (by omega) e
      simp only
      rw [splitC_more k _ (by rw [size_from s (j + 1) (by omega)]; omega)]
theorem splitC_ge (s : ByteArray) : ∀ d, splitC (s.size + d) s = splitC s.size s
  | 0 => rfl
  | d + 1 => (splitC_more (s.size + d) s (by omega)).trans (splitC_ge s d)
def vstr : Value → ByteArray
  | .string s => s
  | _ => ⟨#[]⟩
theorem splitC_len : ∀ k s, (splitC k s).length ≤ k + 1
  | 0, s => by simp [splitC]
  | k + 1, s => by
    rw [splitC]
    split
    · simp
    · rw [List.length_cons]; have := splitC_len k; exact Nat.succ_le_succ (this _)
theorem infoS : (Tryd.prog.info? 9).map (fun i => (i.zero, i.size, i.bytes)) = some (some (.string ⟨#[]⟩), 1, 16) := by kernel_rfl
set_option maxHeartbeats 4000000 in
set_option maxRecDepth 100000 in
theorem format_zzSplit (s0 : ByteArray) (w : World) (hs : s0.size ≤ 4294967296) :
    Calls Tryd.prog 26 #[.string s0, .string ⟨#[44]⟩] w fun e w' => ∃ v, e = .returned v ∧ Kd.R Kd.string 9 w' w.heap.size (fun _ => True) v (splitC s0.size s0) ∧ Below w.heap.size w w' := by
  go_enter Tryd.func26, Tryd.ntmps26
  go_wp2
  go_loopw [0, 5] (fun v0 v5 wr => ∃ (s : ByteArray) (D : List ByteArray), v0 = .string s ∧ s.size + D.length ≤ s0.size ∧ Aside0 (D ++ splitC s.size s = splitC s0.size s0) ∧ Aside0 (Kd.R Kd.string 9 wr w.heap.size (fun _ => True) v5 D) ∧ Aside0 (Below w.heap.size w wr)) (fun v0 _ _ => (vstr v0).size)
  case atStart => exact ⟨s0, [], rfl, by simp, ⟨rfl⟩, ⟨Kd.R_nil _ _ _ _ _⟩, ⟨Below.refl _ _⟩⟩
  case round =>
    obtain ⟨s, D, rfl, hsz, HD, HO, HB⟩ := hrel
    obtain ⟨A5, c5, rfl⟩ := Kd.R_slice HO.out
    have hi : format_zzIndex.f (s.size + 1) s ⟨#[44]⟩ = some (match fnd 44 s s.size 0 with
      | none => -1
      | some j => (j : Int)) := zidx_l0 s (by omega) s.size 0 (by omega) (by omega)
    cases e : fnd 44 s s.size 0 with
    | none =>
      rw [e] at hi
      have HI := Aside0.mk hi
      have HE := Lib.hid (show splitC s.size s = [s] by cases h : s.size; (· rfl); (· rw [splitC, e]))
      clear hi e
      go_wp2_with (first
        | (go_at_call 32; refine (format_zzIndex.calls _ s ⟨#[44]⟩ (-1) _ HI.out).mono ?_; rintro e w1 ⟨rfl, hd⟩; have HO1 := Aside0.mk (Kd.R_below HO.out hd.below); have HB1 := Aside0.mk (below_then HB.out HB.out.size hd.below); clear hd)
        | (at_builtin; refine Kd.R_append Kd.string (w0 := w) w.heap.size rfl _ _ 22 9 (.string ⟨#[]⟩) 16 rfl Tryd.underlying22 infoS rfl (by decide) (by decide) _ D s [.string s] (fun _ => True) (fun _ => False) rfl rfl ?hp (fun _ h => h.elim) (fun _ _ => trivial) ?hO ?hB ?hS ?hL ?_; (case hp => rfl); (case hO => exact HO1.out); (case hB => exact HB1.out); (case hS => exact HB1.out.size); (case hL => omega); intro v3 w3 ho3 hb3 hg3 hat3; have HO3 := Aside0.mk ho3; have HB3 := Aside0.mk hb3; clear ho3 hb3 hg3 hat3))
      go_ret
      exact ⟨_, rfl, by rw [← HD.out, HE.out]; exact HO3.out, HB3.out⟩
    | some j =>
      have hj := fnd_lt 44 s s.size 0 j (by omega) (by omega) e
      rw [e] at hi
      have HI := Aside0.mk hi
      have hsf := size_from s (j + 1) (by omega)
      have HE := Lib.hid (show splitC s.size s = s.extract 0 j :: splitC (s.extract (j + 1) s.size).size (s.extract (j + 1) s.size) by
        obtain ⟨k, hk⟩ : ∃ k, s.size = k + 1 := ⟨s.size - 1, by omega⟩
        have : splitC s.size s = s.extract 0 j :: splitC k (s.extract (j + 1) s.size) := by
          rw [hk, splitC, ← hk, e]
        rw [this]
        congr 1
        have hle : (s.extract (j + 1) s.size).size ≤ k := by rw [hsf]; omega
        obtain ⟨d, hd⟩ := Nat.exists_eq_add_of_le hle
        rw [hd]; exact splitC_ge _ d)
      clear hi e
      have hw1 : wrap64 ((j : Int) + 1) = ((j + 1 : Nat) : Int) := wrapS j (by omega)
      go_wp2_with (first
        | (go_at_call 32; refine (format_zzIndex.calls _ s ⟨#[44]⟩ (j : Int) _ HI.out).mono ?_; rintro e w1 ⟨rfl, hd⟩; have HO1 := Aside0.mk (Kd.R_below HO.out hd.below); have HB1 := Aside0.mk (below_then HB.out HB.out.size hd.below); clear hd)
        | (at_builtin; refine Kd.R_append Kd.string (w0 := w) w.heap.size rfl _ _ 22 9 (.string ⟨#[]⟩) 16 rfl Tryd.underlying22 infoS rfl (by decide) (by decide) _ D (s.extract 0 j) [.string (s.extract 0 j)] (fun _ => True) (fun _ => False) rfl rfl ?hp (fun _ h => h.elim) (fun _ _ => trivial) ?hO ?hB ?hS ?hL ?_; (case hp => rfl); (case hO => exact HO1.out); (case hB => exact HB1.out); (case hS => exact HB1.out.size); (case hL => omega); intro v3 w3 ho3 hb3 hg3 hat3; have HO3 := Aside0.mk ho3; have HB3 := Aside0.mk hb3; clear ho3 hb3 hg3 hat3))
      go_roundw
      case rel =>
        refine ⟨s.extract (j + 1) s.size, D ++ [s.extract 0 j], rfl, ?_, ⟨?_⟩, HO3, HB3⟩
        · rw [hsf, List.length_append, List.length_singleton]; omega
        · rw [← HD.out, HE.out, List.append_assoc]; rfl
      case measure => simp only [vstr]; rw [hsf]; omega
end Go.Proofs.YtklbghadhneejaaDoor.V
