/- Walks: the six operators, each as one law over what it says. -/
import Derived.Test.YtlncdacoefoldaaGreatDoorSubW
namespace Go.Proofs.YtlncdacoefoldaaGreatDoor.U
set_option linter.unusedVariables false
set_option linter.unusedSimpArgs false
set_option linter.unusedSectionVars false
open Go.RowKit Go.Proofs.YtlncdacoefoldaaGreatDoorW.PrintWords Go.Proofs.YtlncdacoefoldaaGreatDoorW.PrintLast Go.Proofs.YtlncdacoefoldaaGreatDoor.PX Go.Proofs.YtlncdacoefoldaaGreatDoor.SM Go.Proofs.YtlncdacoefoldaaGreatDoor.L

theorem data_nil {y : ByteArray} (h : y.data.toList = []) : y = ⟨#[]⟩ := data_inj h
theorem envOf_none {E : List (ByteArray × ByteArray)} {n : Bs} (h : SM.look E (mk n) = none) : envOf E n = none := by unfold envOf; rw [h]; rfl
theorem envOf_some {E : List (ByteArray × ByteArray)} {n : Bs} {y : ByteArray} (h : SM.look E (mk n) = some y) : envOf E n = some y.data.toList := by unfold envOf; rw [h]; rfl
theorem map_some {α β : Type} {o : Option α} {g : α → β} {b : β} (h : o.map g = some b) : ∃ a, o = some a ∧ g a = b := by
  cases o with
  | none => cases h
  | some a => exact ⟨a, rfl, by injection h⟩
theorem core_absc (p : Nat) (E : List (ByteArray × ByteArray)) (f : Bs → Ans) (IH : Subs f p E) (x : Bs) (w : World) (hx : x.length < 1152921504606846976) (hE : EnvAt w p E) (a : Option (Bs × Option Cls)) (h : wordA f (envOf E) [58, 45] x = some a) :
    Calls Tryz.prog 134 #[.string (mk x), lk p, .bool true] w (OpTells w a) := by
  unfold wordA at h
  cases hi : idx [58, 45] x with
  | none =>
    rw [hi] at h
    injection h with h
    subst h
    exact absc_miss p x w hx hi
  | some i =>
    rw [hi] at h
    cases hl : SM.look E (mk (x.take i)) with
    | none =>
      simp [envOf_none hl] at h
      obtain ⟨t, e, hr, ha⟩ := h
      subst ha
      cases e with
      | none => exact absc_none_ok p E f x i w hx hE hi hl IH t hr
      | some c => exact absc_none_err p E f x i w hx hE hi hl IH t c hr
    | some y =>
      by_cases hy : y.data.toList = []
      · obtain rfl := data_nil hy
        clear hy
        simp [envOf_some hl] at h
        obtain ⟨t, e, hr, ha⟩ := h
        subst ha
        cases e with
        | none => exact absc_empty_ok p E f x i w hx hE hi hl IH t hr
        | some c => exact absc_empty_err p E f x i w hx hE hi hl IH t c hr
      · have hy2 : ¬ y.data = #[] := fun e => hy (by rw [e])
        simp [envOf_some hl, hy, hy2] at h
        subst h
        exact absc_full p E f x i w hx hE hi y hl hy
theorem op_absc (p : Nat) (E : List (ByteArray × ByteArray)) (f : Bs → Ans) (IH : Subs f p E) (x : Bs) (w : World) (hx : x.length < 1152921504606846976) (hE : EnvAt w p E) (a : Option (Bs × Option Cls)) (h : wordA f (envOf E) [58, 45] x = some a) :
    Calls Tryz.prog 125 #[.string (mk x), lk p] w (OpTells w a) := by
  have HC := Lib.hid (fun W hW => core_absc p E f IH x W hx hW a h)
  have HE := Aside0.mk hE
  clear h hE IH hx
  match a, HC with
  | none, HC =>
    go_enter Tryz.func125, Tryz.ntmps125
    go_wp2_with (go_at_call 134; refine (HC.out _ HE.out).mono ?_; rintro e w1 ⟨⟨s, rfl⟩, hb⟩; have HB := Aside0.mk hb; clear hb)
    go_ret3
    exact ⟨⟨_, rfl⟩, HB.out⟩
  | some (t, none), HC =>
    go_enter Tryz.func125, Tryz.ntmps125
    go_wp2_with (go_at_call 134; refine (HC.out _ HE.out).mono ?_; rintro e w1 ⟨rfl, hb⟩; have HB := Aside0.mk hb; clear hb)
    go_ret3
    exact ⟨rfl, HB.out⟩
  | some (t, some c), HC =>
    go_enter Tryz.func125, Tryz.ntmps125
    go_wp2_with (go_at_call 134; refine (HC.out _ HE.out).mono ?_; rintro e w1 ⟨⟨s, b, v, rfl, he⟩, hb⟩; have HR := Aside0.mk he; have HB := Aside0.mk hb; clear he hb)
    go_ret3
    exact ⟨⟨_, _, _, rfl, HR.out⟩, HB.out⟩
theorem core_abs (p : Nat) (E : List (ByteArray × ByteArray)) (f : Bs → Ans) (IH : Subs f p E) (x : Bs) (w : World) (hx : x.length < 1152921504606846976) (hE : EnvAt w p E) (a : Option (Bs × Option Cls)) (h : wordA f (envOf E) [45] x = some a) :
    Calls Tryz.prog 134 #[.string (mk x), lk p, .bool false] w (OpTells w a) := by
  unfold wordA at h
  cases hi : idx [45] x with
  | none =>
    rw [hi] at h
    injection h with h
    subst h
    exact abs_miss p x w hx hi
  | some i =>
    rw [hi] at h
    cases hl : SM.look E (mk (x.take i)) with
    | none =>
      simp [envOf_none hl] at h
      obtain ⟨t, e, hr, ha⟩ := h
      subst ha
      cases e with
      | none => exact abs_none_ok p E f x i w hx hE hi hl IH t hr
      | some c => exact abs_none_err p E f x i w hx hE hi hl IH t c hr
    | some y =>
      simp [envOf_some hl] at h
      subst h
      exact abs_full p E f x i w hx hE hi y hl
theorem op_abs (p : Nat) (E : List (ByteArray × ByteArray)) (f : Bs → Ans) (IH : Subs f p E) (x : Bs) (w : World) (hx : x.length < 1152921504606846976) (hE : EnvAt w p E) (a : Option (Bs × Option Cls)) (h : wordA f (envOf E) [45] x = some a) :
    Calls Tryz.prog 126 #[.string (mk x), lk p] w (OpTells w a) := by
  have HC := Lib.hid (fun W hW => core_abs p E f IH x W hx hW a h)
  have HE := Aside0.mk hE
  clear h hE IH hx
  match a, HC with
  | none, HC =>
    go_enter Tryz.func126, Tryz.ntmps126
    go_wp2_with (go_at_call 134; refine (HC.out _ HE.out).mono ?_; rintro e w1 ⟨⟨s, rfl⟩, hb⟩; have HB := Aside0.mk hb; clear hb)
    go_ret3
    exact ⟨⟨_, rfl⟩, HB.out⟩
  | some (t, none), HC =>
    go_enter Tryz.func126, Tryz.ntmps126
    go_wp2_with (go_at_call 134; refine (HC.out _ HE.out).mono ?_; rintro e w1 ⟨rfl, hb⟩; have HB := Aside0.mk hb; clear hb)
    go_ret3
    exact ⟨rfl, HB.out⟩
  | some (t, some c), HC =>
    go_enter Tryz.func126, Tryz.ntmps126
    go_wp2_with (go_at_call 134; refine (HC.out _ HE.out).mono ?_; rintro e w1 ⟨⟨s, b, v, rfl, he⟩, hb⟩; have HR := Aside0.mk he; have HB := Aside0.mk hb; clear he hb)
    go_ret3
    exact ⟨⟨_, _, _, rfl, HR.out⟩, HB.out⟩
theorem core_prec (p : Nat) (E : List (ByteArray × ByteArray)) (f : Bs → Ans) (IH : Subs f p E) (x : Bs) (w : World) (hx : x.length < 1152921504606846976) (hE : EnvAt w p E) (a : Option (Bs × Option Cls)) (h : wordA f (envOf E) [58, 43] x = some a) :
    Calls Tryz.prog 135 #[.string (mk x), lk p, .bool true] w (OpTells w a) := by
  unfold wordA at h
  cases hi : idx [58, 43] x with
  | none =>
    rw [hi] at h
    injection h with h
    subst h
    exact prec_miss p x w hx hi
  | some i =>
    rw [hi] at h
    cases hl : SM.look E (mk (x.take i)) with
    | none =>
      simp [envOf_none hl] at h
      subst h
      exact prec_none p E f x i w hx hE hi hl
    | some y =>
      by_cases hy : y.data.toList = []
      · obtain rfl := data_nil hy
        clear hy
        simp [envOf_some hl] at h
        subst h
        exact prec_empty p E f x i w hx hE hi hl
      · have hy2 : ¬ y.data = #[] := fun e => hy (by rw [e])
        simp [envOf_some hl, hy, hy2] at h
        obtain ⟨t, e, hr, ha⟩ := h
        subst ha
        cases e with
        | none => exact prec_full_ok p E f x i w hx hE hi y hl hy IH t hr
        | some c => exact prec_full_err p E f x i w hx hE hi y hl hy IH t c hr
theorem op_prec (p : Nat) (E : List (ByteArray × ByteArray)) (f : Bs → Ans) (IH : Subs f p E) (x : Bs) (w : World) (hx : x.length < 1152921504606846976) (hE : EnvAt w p E) (a : Option (Bs × Option Cls)) (h : wordA f (envOf E) [58, 43] x = some a) :
    Calls Tryz.prog 127 #[.string (mk x), lk p] w (OpTells w a) := by
  have HC := Lib.hid (fun W hW => core_prec p E f IH x W hx hW a h)
  have HE := Aside0.mk hE
  clear h hE IH hx
  match a, HC with
  | none, HC =>
    go_enter Tryz.func127, Tryz.ntmps127
    go_wp2_with (go_at_call 135; refine (HC.out _ HE.out).mono ?_; rintro e w1 ⟨⟨s, rfl⟩, hb⟩; have HB := Aside0.mk hb; clear hb)
    go_ret3
    exact ⟨⟨_, rfl⟩, HB.out⟩
  | some (t, none), HC =>
    go_enter Tryz.func127, Tryz.ntmps127
    go_wp2_with (go_at_call 135; refine (HC.out _ HE.out).mono ?_; rintro e w1 ⟨rfl, hb⟩; have HB := Aside0.mk hb; clear hb)
    go_ret3
    exact ⟨rfl, HB.out⟩
  | some (t, some c), HC =>
    go_enter Tryz.func127, Tryz.ntmps127
    go_wp2_with (go_at_call 135; refine (HC.out _ HE.out).mono ?_; rintro e w1 ⟨⟨s, b, v, rfl, he⟩, hb⟩; have HR := Aside0.mk he; have HB := Aside0.mk hb; clear he hb)
    go_ret3
    exact ⟨⟨_, _, _, rfl, HR.out⟩, HB.out⟩
theorem core_pre (p : Nat) (E : List (ByteArray × ByteArray)) (f : Bs → Ans) (IH : Subs f p E) (x : Bs) (w : World) (hx : x.length < 1152921504606846976) (hE : EnvAt w p E) (a : Option (Bs × Option Cls)) (h : wordA f (envOf E) [43] x = some a) :
    Calls Tryz.prog 135 #[.string (mk x), lk p, .bool false] w (OpTells w a) := by
  unfold wordA at h
  cases hi : idx [43] x with
  | none =>
    rw [hi] at h
    injection h with h
    subst h
    exact pre_miss p x w hx hi
  | some i =>
    rw [hi] at h
    cases hl : SM.look E (mk (x.take i)) with
    | none =>
      simp [envOf_none hl] at h
      subst h
      exact pre_none p E f x i w hx hE hi hl
    | some y =>
      simp [envOf_some hl] at h
      obtain ⟨t, e, hr, ha⟩ := h
      subst ha
      cases e with
      | none => exact pre_full_ok p E f x i w hx hE hi y hl IH t hr
      | some c => exact pre_full_err p E f x i w hx hE hi y hl IH t c hr
theorem op_pre (p : Nat) (E : List (ByteArray × ByteArray)) (f : Bs → Ans) (IH : Subs f p E) (x : Bs) (w : World) (hx : x.length < 1152921504606846976) (hE : EnvAt w p E) (a : Option (Bs × Option Cls)) (h : wordA f (envOf E) [43] x = some a) :
    Calls Tryz.prog 128 #[.string (mk x), lk p] w (OpTells w a) := by
  have HC := Lib.hid (fun W hW => core_pre p E f IH x W hx hW a h)
  have HE := Aside0.mk hE
  clear h hE IH hx
  match a, HC with
  | none, HC =>
    go_enter Tryz.func128, Tryz.ntmps128
    go_wp2_with (go_at_call 135; refine (HC.out _ HE.out).mono ?_; rintro e w1 ⟨⟨s, rfl⟩, hb⟩; have HB := Aside0.mk hb; clear hb)
    go_ret3
    exact ⟨⟨_, rfl⟩, HB.out⟩
  | some (t, none), HC =>
    go_enter Tryz.func128, Tryz.ntmps128
    go_wp2_with (go_at_call 135; refine (HC.out _ HE.out).mono ?_; rintro e w1 ⟨rfl, hb⟩; have HB := Aside0.mk hb; clear hb)
    go_ret3
    exact ⟨rfl, HB.out⟩
  | some (t, some c), HC =>
    go_enter Tryz.func128, Tryz.ntmps128
    go_wp2_with (go_at_call 135; refine (HC.out _ HE.out).mono ?_; rintro e w1 ⟨⟨s, b, v, rfl, he⟩, hb⟩; have HR := Aside0.mk he; have HB := Aside0.mk hb; clear he hb)
    go_ret3
    exact ⟨⟨_, _, _, rfl, HR.out⟩, HB.out⟩
theorem core_reqc (p : Nat) (E : List (ByteArray × ByteArray)) (f : Bs → Ans) (IH : Subs f p E) (x : Bs) (w : World) (hx : x.length < 1152921504606846976) (hE : EnvAt w p E) (a : Option (Bs × Option Cls)) (h : wordA f (envOf E) [58, 63] x = some a) :
    Calls Tryz.prog 131 #[.string (mk x), lk p, .string ⟨#[58, 63]⟩, .func (.func 132) #[] #[]] w (OpTells w a) := by
  unfold wordA at h
  cases hi : idx [58, 63] x with
  | none =>
    rw [hi] at h
    injection h with h
    subst h
    exact reqc_miss p x w hx hi
  | some i =>
    rw [hi] at h
    cases hl : SM.look E (mk (x.take i)) with
    | none =>
      simp [envOf_none hl] at h
      obtain ⟨t, e, hr, ha⟩ := h
      subst ha
      cases e with
      | none => exact reqc_none_ok p E f x i w hx hE hi hl IH t hr
      | some c => exact reqc_none_err p E f x i w hx hE hi hl IH t c hr
    | some y =>
      by_cases hy : y.data.toList = []
      · obtain rfl := data_nil hy
        clear hy
        simp [envOf_some hl] at h
        obtain ⟨t, e, hr, ha⟩ := h
        subst ha
        cases e with
        | none => exact reqc_empty_ok p E f x i w hx hE hi hl IH t hr
        | some c => exact reqc_empty_err p E f x i w hx hE hi hl IH t c hr
      · have hy2 : ¬ y.data = #[] := fun e => hy (by rw [e])
        simp [envOf_some hl, hy, hy2] at h
        subst h
        exact reqc_full p E f x i w hx hE hi y hl hy
theorem op_reqc (p : Nat) (E : List (ByteArray × ByteArray)) (f : Bs → Ans) (IH : Subs f p E) (x : Bs) (w : World) (hx : x.length < 1152921504606846976) (hE : EnvAt w p E) (a : Option (Bs × Option Cls)) (h : wordA f (envOf E) [58, 63] x = some a) :
    Calls Tryz.prog 123 #[.string (mk x), lk p] w (OpTells w a) := by
  have HC := Lib.hid (fun W hW => core_reqc p E f IH x W hx hW a h)
  have HE := Aside0.mk hE
  clear h hE IH hx
  match a, HC with
  | none, HC =>
    go_enter Tryz.func123, Tryz.ntmps123
    go_wp2_with (go_at_call 131; refine (HC.out _ HE.out).mono ?_; rintro e w1 ⟨⟨s, rfl⟩, hb⟩; have HB := Aside0.mk hb; clear hb)
    go_ret3
    exact ⟨⟨_, rfl⟩, HB.out⟩
  | some (t, none), HC =>
    go_enter Tryz.func123, Tryz.ntmps123
    go_wp2_with (go_at_call 131; refine (HC.out _ HE.out).mono ?_; rintro e w1 ⟨rfl, hb⟩; have HB := Aside0.mk hb; clear hb)
    go_ret3
    exact ⟨rfl, HB.out⟩
  | some (t, some c), HC =>
    go_enter Tryz.func123, Tryz.ntmps123
    go_wp2_with (go_at_call 131; refine (HC.out _ HE.out).mono ?_; rintro e w1 ⟨⟨s, b, v, rfl, he⟩, hb⟩; have HR := Aside0.mk he; have HB := Aside0.mk hb; clear he hb)
    go_ret3
    exact ⟨⟨_, _, _, rfl, HR.out⟩, HB.out⟩
theorem core_req (p : Nat) (E : List (ByteArray × ByteArray)) (f : Bs → Ans) (IH : Subs f p E) (x : Bs) (w : World) (hx : x.length < 1152921504606846976) (hE : EnvAt w p E) (a : Option (Bs × Option Cls)) (h : wordA f (envOf E) [63] x = some a) :
    Calls Tryz.prog 131 #[.string (mk x), lk p, .string ⟨#[63]⟩, .func (.func 133) #[] #[]] w (OpTells w a) := by
  unfold wordA at h
  cases hi : idx [63] x with
  | none =>
    rw [hi] at h
    injection h with h
    subst h
    exact req_miss p x w hx hi
  | some i =>
    rw [hi] at h
    cases hl : SM.look E (mk (x.take i)) with
    | none =>
      simp [envOf_none hl] at h
      obtain ⟨t, e, hr, ha⟩ := h
      subst ha
      cases e with
      | none => exact req_none_ok p E f x i w hx hE hi hl IH t hr
      | some c => exact req_none_err p E f x i w hx hE hi hl IH t c hr
    | some y =>
      simp [envOf_some hl] at h
      subst h
      exact req_full p E f x i w hx hE hi y hl
theorem op_req (p : Nat) (E : List (ByteArray × ByteArray)) (f : Bs → Ans) (IH : Subs f p E) (x : Bs) (w : World) (hx : x.length < 1152921504606846976) (hE : EnvAt w p E) (a : Option (Bs × Option Cls)) (h : wordA f (envOf E) [63] x = some a) :
    Calls Tryz.prog 124 #[.string (mk x), lk p] w (OpTells w a) := by
  have HC := Lib.hid (fun W hW => core_req p E f IH x W hx hW a h)
  have HE := Aside0.mk hE
  clear h hE IH hx
  match a, HC with
  | none, HC =>
    go_enter Tryz.func124, Tryz.ntmps124
    go_wp2_with (go_at_call 131; refine (HC.out _ HE.out).mono ?_; rintro e w1 ⟨⟨s, rfl⟩, hb⟩; have HB := Aside0.mk hb; clear hb)
    go_ret3
    exact ⟨⟨_, rfl⟩, HB.out⟩
  | some (t, none), HC =>
    go_enter Tryz.func124, Tryz.ntmps124
    go_wp2_with (go_at_call 131; refine (HC.out _ HE.out).mono ?_; rintro e w1 ⟨rfl, hb⟩; have HB := Aside0.mk hb; clear hb)
    go_ret3
    exact ⟨rfl, HB.out⟩
  | some (t, some c), HC =>
    go_enter Tryz.func124, Tryz.ntmps124
    go_wp2_with (go_at_call 131; refine (HC.out _ HE.out).mono ?_; rintro e w1 ⟨⟨s, b, v, rfl, he⟩, hb⟩; have HR := Aside0.mk he; have HB := Aside0.mk hb; clear he hb)
    go_ret3
    exact ⟨⟨_, _, _, rfl, HR.out⟩, HB.out⟩
end Go.Proofs.YtlncdacoefoldaaGreatDoor.U
