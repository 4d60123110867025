/- Walks: the six operators of the package's substitution, over what the substitution itself does with shorter texts. -/
import Derived.Test.YtlncdacoefoldaaGreatDoorMrg4
namespace Go.Proofs.YtlncdacoefoldaaGreatDoor.U
set_option linter.unusedVariables false
set_option linter.unusedSimpArgs false
set_option linter.unusedSectionVars false
open Go.RowKit Go.Proofs.YtlncdacoefoldaaGreatDoorW.PrintWords Go.Proofs.YtlncdacoefoldaaGreatDoorW.PrintLast Go.Proofs.YtlncdacoefoldaaGreatDoor.PX Go.Proofs.YtlncdacoefoldaaGreatDoor.SM Go.Proofs.YtlncdacoefoldaaGreatDoor.L

/-- an error's value, laid at or behind base -/
def ErrIs (base : Nat) (w : World) (v : Value) : Option Cls → Prop
  | none => v = .nilIface
  | some .invalid => ∃ b s, v = .iface 97 (.pointer (some ⟨b, 0, none⟩)) ∧ base ≤ b ∧ w.heap[b]? = some (.cells #[.string s] 161 (0, 0))
  | some .missing => ∃ b s t, v = .iface 98 (.pointer (some ⟨b, 0, none⟩)) ∧ base ≤ b ∧ w.heap[b]? = some (.cells #[.string s, .string t] 205 (0, 0))
theorem lt_of_heap {w : World} {b : Nat} {o : Obj} (h : w.heap[b]? = some o) : b < w.heap.size := by
  rcases Nat.lt_or_ge b w.heap.size with q | q
  · exact q
  · rw [Array.getElem?_eq_none q] at h; cases h
theorem ErrIs.below {base : Nat} {w w' : World} {v : Value} {c : Option Cls} (h : ErrIs base w v c) (hb : Below w.heap.size w w') : ErrIs base w' v c := by
  match c, h with
  | none, h => exact h
  | some .invalid, ⟨b, s, h1, h2, h3⟩ => exact ⟨b, s, h1, h2, (hb.block b (lt_of_heap h3)).trans h3⟩
  | some .missing, ⟨b, s, t, h1, h2, h3⟩ => exact ⟨b, s, t, h1, h2, (hb.block b (lt_of_heap h3)).trans h3⟩
theorem ErrIs.lower {base base' : Nat} {w : World} {v : Value} {c : Option Cls} (h : ErrIs base w v c) (hb : base' ≤ base) : ErrIs base' w v c := by
  match c, h with
  | none, h => exact h
  | some .invalid, ⟨b, s, h1, h2, h3⟩ => exact ⟨b, s, h1, Nat.le_trans hb h2, h3⟩
  | some .missing, ⟨b, s, t, h1, h2, h3⟩ => exact ⟨b, s, t, h1, Nat.le_trans hb h2, h3⟩
theorem ErrIs.form {base : Nat} {w : World} {v : Value} {c : Cls} (h : ErrIs base w v (some c)) : ∃ T b, v = .iface T (.pointer (some ⟨b, 0, none⟩)) := by
  match c, h with
  | .invalid, ⟨b, s, h1, _⟩ => exact ⟨_, _, h1⟩
  | .missing, ⟨b, s, t, h1, _⟩ => exact ⟨_, _, h1⟩
/-- what the substitution tells: the text, the error -/
def Tells (w : World) (a : Bs × Option Cls) (e : Ending) (w' : World) : Prop := ∃ v, e = .returned (.tuple #[.string (mk a.1), v]) ∧ ErrIs w.heap.size w' v a.2 ∧ Below w.heap.size w w'
/-- what an operator tells -/
def OpTells (w : World) (a : Option (Bs × Option Cls)) (e : Ending) (w' : World) : Prop := (match a with
  | none => ∃ s, e = .returned (.tuple #[.string s, .bool false, .nilIface])
  | some (x, none) => e = .returned (.tuple #[.string (mk x), .bool true, .nilIface])
  | some (_, some c) => ∃ s b v, e = .returned (.tuple #[.string s, .bool b, v]) ∧ ErrIs w.heap.size w' v (some c)) ∧ Below w.heap.size w w'
def envOf (E : List (ByteArray × ByteArray)) : Env := fun n => (SM.look E (mk n)).map (fun v => v.data.toList)
/-- the environment as the package asks it -/
abbrev lk (p : Nat) : Value := .func (.func 52) #[] #[.pointer (some ⟨p, 0, none⟩)]
/-- the substitution itself, of texts that f tells of -/
def Subs (f : Bs → Ans) (p : Nat) (E : List (ByteArray × ByteArray)) : Prop := ∀ (t : Bs) (a : Bs × Option Cls) (w : World), t.length < 1152921504606846976 → f t = some a → EnvAt w p E → Calls Tryz.prog 34 #[.string (mk t), lk p] w (Tells w a)
theorem mk_nil : mk [] = ⟨#[]⟩ := rfl
theorem size_small (x : Bs) (h : x.length < 1152921504606846976) : (mk x).size < 2305843009213693952 := by rw [mk_size]; omega
theorem validC_empty (w : World) : Calls Tryz.prog 132 #[.string ⟨#[]⟩] w fun e w' => e = .returned (.bool false) ∧ w = w' := by
  go_enter Tryz.func132, Tryz.ntmps132
  go_wp2
  go_ret
  exact ⟨rfl, rfl⟩
theorem validC_full (y : ByteArray) (w : World) (hy1 : y.toList.isEmpty = false) (hy2 : (y.toList == []) = false) (hy3 : (y.toList != []) = true) : Calls Tryz.prog 132 #[.string y] w fun e w' => e = .returned (.bool true) ∧ w = w' := by
  go_enter Tryz.func132, Tryz.ntmps132
  go_wp2
  go_ret
  exact ⟨rfl, rfl⟩
theorem validU (y : ByteArray) (w : World) : Calls Tryz.prog 133 #[.string y] w fun e w' => e = .returned (.bool true) ∧ w = w' := by
  go_enter Tryz.func133, Tryz.ntmps133
  go_wp2
  go_ret
  exact ⟨rfl, rfl⟩
set_option maxHeartbeats 2000000 in
set_option maxRecDepth 100000 in
theorem absc_miss (p : Nat) (x : Bs) (w : World) (hx : x.length < 1152921504606846976) (h : idx [58, 45] x = none) :
    Calls Tryz.prog 134 #[.string (mk x), lk p, .bool true] w (OpTells w none) := by
  have hs := size_small x hx
  have HC := Lib.hid (contains_l (mk x) ⟨#[58, 45]⟩ ((mk x).size + 1) hs (by decide) (by decide) (Nat.le_refl _))
  rw [mk_data, show (⟨#[58, 45]⟩ : ByteArray).data.toList = [58, 45] from rfl, h, Option.isSome_none] at HC
  clear h hs
  go_enter Tryz.func134, Tryz.ntmps134
  go_wp2_with (go_at_call 69; refine (template_zzContains.calls _ _ _ false _ HC.out).mono ?_; rintro e w1 ⟨rfl, ⟨nd, rfl⟩⟩)
  go_ret3
  exact ⟨⟨_, rfl⟩, pw_below_drewN (Below.refl _ _) _⟩
set_option maxHeartbeats 2000000 in
set_option maxRecDepth 100000 in
theorem abs_miss (p : Nat) (x : Bs) (w : World) (hx : x.length < 1152921504606846976) (h : idx [45] x = none) :
    Calls Tryz.prog 134 #[.string (mk x), lk p, .bool false] w (OpTells w none) := by
  have hs := size_small x hx
  have HC := Lib.hid (contains_l (mk x) ⟨#[45]⟩ ((mk x).size + 1) hs (by decide) (by decide) (Nat.le_refl _))
  rw [mk_data, show (⟨#[45]⟩ : ByteArray).data.toList = [45] from rfl, h, Option.isSome_none] at HC
  clear h hs
  go_enter Tryz.func134, Tryz.ntmps134
  go_wp2_with (go_at_call 69; refine (template_zzContains.calls _ _ _ false _ HC.out).mono ?_; rintro e w1 ⟨rfl, ⟨nd, rfl⟩⟩)
  go_ret3
  exact ⟨⟨_, rfl⟩, pw_below_drewN (Below.refl _ _) _⟩
set_option maxHeartbeats 2000000 in
set_option maxRecDepth 100000 in
theorem prec_miss (p : Nat) (x : Bs) (w : World) (hx : x.length < 1152921504606846976) (h : idx [58, 43] x = none) :
    Calls Tryz.prog 135 #[.string (mk x), lk p, .bool true] w (OpTells w none) := by
  have hs := size_small x hx
  have HC := Lib.hid (contains_l (mk x) ⟨#[58, 43]⟩ ((mk x).size + 1) hs (by decide) (by decide) (Nat.le_refl _))
  rw [mk_data, show (⟨#[58, 43]⟩ : ByteArray).data.toList = [58, 43] from rfl, h, Option.isSome_none] at HC
  clear h hs
  go_enter Tryz.func135, Tryz.ntmps135
  go_wp2_with (go_at_call 69; refine (template_zzContains.calls _ _ _ false _ HC.out).mono ?_; rintro e w1 ⟨rfl, ⟨nd, rfl⟩⟩)
  go_ret3
  exact ⟨⟨_, rfl⟩, pw_below_drewN (Below.refl _ _) _⟩
set_option maxHeartbeats 2000000 in
set_option maxRecDepth 100000 in
theorem pre_miss (p : Nat) (x : Bs) (w : World) (hx : x.length < 1152921504606846976) (h : idx [43] x = none) :
    Calls Tryz.prog 135 #[.string (mk x), lk p, .bool false] w (OpTells w none) := by
  have hs := size_small x hx
  have HC := Lib.hid (contains_l (mk x) ⟨#[43]⟩ ((mk x).size + 1) hs (by decide) (by decide) (Nat.le_refl _))
  rw [mk_data, show (⟨#[43]⟩ : ByteArray).data.toList = [43] from rfl, h, Option.isSome_none] at HC
  clear h hs
  go_enter Tryz.func135, Tryz.ntmps135
  go_wp2_with (go_at_call 69; refine (template_zzContains.calls _ _ _ false _ HC.out).mono ?_; rintro e w1 ⟨rfl, ⟨nd, rfl⟩⟩)
  go_ret3
  exact ⟨⟨_, rfl⟩, pw_below_drewN (Below.refl _ _) _⟩
set_option maxHeartbeats 2000000 in
set_option maxRecDepth 100000 in
theorem reqc_miss (p : Nat) (x : Bs) (w : World) (hx : x.length < 1152921504606846976) (h : idx [58, 63] x = none) :
    Calls Tryz.prog 131 #[.string (mk x), lk p, .string ⟨#[58, 63]⟩, .func (.func 132) #[] #[]] w (OpTells w none) := by
  have hs := size_small x hx
  have HC := Lib.hid (contains_l (mk x) ⟨#[58, 63]⟩ ((mk x).size + 1) hs (by decide) (by decide) (Nat.le_refl _))
  rw [mk_data, show (⟨#[58, 63]⟩ : ByteArray).data.toList = [58, 63] from rfl, h, Option.isSome_none] at HC
  clear h hs
  go_enter Tryz.func131, Tryz.ntmps131
  go_wp2_with (go_at_call 69; refine (template_zzContains.calls _ _ _ false _ HC.out).mono ?_; rintro e w1 ⟨rfl, ⟨nd, rfl⟩⟩)
  go_ret3
  exact ⟨⟨_, rfl⟩, pw_below_drewN (Below.refl _ _) _⟩
set_option maxHeartbeats 2000000 in
set_option maxRecDepth 100000 in
theorem req_miss (p : Nat) (x : Bs) (w : World) (hx : x.length < 1152921504606846976) (h : idx [63] x = none) :
    Calls Tryz.prog 131 #[.string (mk x), lk p, .string ⟨#[63]⟩, .func (.func 133) #[] #[]] w (OpTells w none) := by
  have hs := size_small x hx
  have HC := Lib.hid (contains_l (mk x) ⟨#[63]⟩ ((mk x).size + 1) hs (by decide) (by decide) (Nat.le_refl _))
  rw [mk_data, show (⟨#[63]⟩ : ByteArray).data.toList = [63] from rfl, h, Option.isSome_none] at HC
  clear h hs
  go_enter Tryz.func131, Tryz.ntmps131
  go_wp2_with (go_at_call 69; refine (template_zzContains.calls _ _ _ false _ HC.out).mono ?_; rintro e w1 ⟨rfl, ⟨nd, rfl⟩⟩)
  go_ret3
  exact ⟨⟨_, rfl⟩, pw_below_drewN (Below.refl _ _) _⟩
set_option maxHeartbeats 4000000 in
set_option maxRecDepth 100000 in
theorem absc_none_ok (p : Nat) (E : List (ByteArray × ByteArray)) (f : Bs → Ans) (x : Bs) (i : Nat) (w : World) (hx : x.length < 1152921504606846976) (hE : EnvAt w p E) (h : idx [58, 45] x = some i) (hl : SM.look E (mk (x.take i)) = none) (IH : Subs f p E) (t : Bs) (hr : f (x.drop (i + 2)) = some (t, none)) :
    Calls Tryz.prog 134 #[.string (mk x), lk p, .bool true] w (OpTells w (some (t, none))) := by
  have hs := size_small x hx
  have HC := Lib.hid (contains_l (mk x) ⟨#[58, 45]⟩ ((mk x).size + 1) hs (by decide) (by decide) (Nat.le_refl _))
  have HP := Lib.hid (partition_l (mk x) ⟨#[58, 45]⟩ ((mk x).size + 1) hs (by decide) (by decide) (Nat.le_refl _))
  rw [mk_data, show (⟨#[58, 45]⟩ : ByteArray).data.toList = [58, 45] from rfl] at HC HP
  rw [h, Option.isSome_some] at HC
  rw [show part [58, 45] x = (x.take i, x.drop (i + 2)) by unfold part; rw [h]; rfl] at HP
  have HI := Lib.hid (fun W => IH _ _ W (by rw [List.length_drop]; omega) hr)
  have HE := Aside0.mk hE
  have HL := Lib.hid (fun W hW => look1 p E (mk (x.take i)) W hW)
  rw [hl] at HL
  clear h hs hE hl IH hr
  generalize mk (x.take i) = nm at HP HL
  go_enter Tryz.func134, Tryz.ntmps134
  go_wp2_with (first | (go_at_call 69; refine (template_zzContains.calls _ _ _ true _ HC.out).mono ?_; rintro e w1 ⟨rfl, ⟨nd, rfl⟩⟩) | (go_at_call 54; refine (template_partition.calls _ _ _ _ _ _ HP.out).mono ?_; rintro e w2 ⟨rfl, hb2⟩; have HE2 := Aside0.mk (HE.out.keep (Nat.le_refl _) (below_unN hb2)); have HB2 := Aside0.mk (below_unN hb2); clear hb2) | (go_at_call 52; refine (HL.out _ HE2.out).mono ?_; rintro e w3 ⟨rfl, rfl⟩; (try simp only [Option.getD_some, Option.getD_none, Option.isSome_some, Option.isSome_none])) | (go_at_call 34; refine (HI.out _ HE2.out).mono ?_; rintro e w4 ⟨v, rfl, rfl, hb4⟩; have HB4 := Aside0.mk (HB2.out.trans (hb4.mono HB2.out.size)); clear hb4))
  go_ret3
  exact ⟨rfl, HB4.out⟩
set_option maxHeartbeats 4000000 in
set_option maxRecDepth 100000 in
theorem absc_none_err (p : Nat) (E : List (ByteArray × ByteArray)) (f : Bs → Ans) (x : Bs) (i : Nat) (w : World) (hx : x.length < 1152921504606846976) (hE : EnvAt w p E) (h : idx [58, 45] x = some i) (hl : SM.look E (mk (x.take i)) = none) (IH : Subs f p E) (t : Bs) (c : Cls) (hr : f (x.drop (i + 2)) = some (t, some c)) :
    Calls Tryz.prog 134 #[.string (mk x), lk p, .bool true] w (OpTells w (some (t, some c))) := by
  have hs := size_small x hx
  have HC := Lib.hid (contains_l (mk x) ⟨#[58, 45]⟩ ((mk x).size + 1) hs (by decide) (by decide) (Nat.le_refl _))
  have HP := Lib.hid (partition_l (mk x) ⟨#[58, 45]⟩ ((mk x).size + 1) hs (by decide) (by decide) (Nat.le_refl _))
  rw [mk_data, show (⟨#[58, 45]⟩ : ByteArray).data.toList = [58, 45] from rfl] at HC HP
  rw [h, Option.isSome_some] at HC
  rw [show part [58, 45] x = (x.take i, x.drop (i + 2)) by unfold part; rw [h]; rfl] at HP
  have HI := Lib.hid (fun W => IH _ _ W (by rw [List.length_drop]; omega) hr)
  have HE := Aside0.mk hE
  have HL := Lib.hid (fun W hW => look1 p E (mk (x.take i)) W hW)
  rw [hl] at HL
  clear h hs hE hl IH hr
  generalize mk (x.take i) = nm at HP HL
  go_enter Tryz.func134, Tryz.ntmps134
  go_wp2_with (first | (go_at_call 69; refine (template_zzContains.calls _ _ _ true _ HC.out).mono ?_; rintro e w1 ⟨rfl, ⟨nd, rfl⟩⟩) | (go_at_call 54; refine (template_partition.calls _ _ _ _ _ _ HP.out).mono ?_; rintro e w2 ⟨rfl, hb2⟩; have HE2 := Aside0.mk (HE.out.keep (Nat.le_refl _) (below_unN hb2)); have HB2 := Aside0.mk (below_unN hb2); clear hb2) | (go_at_call 52; refine (HL.out _ HE2.out).mono ?_; rintro e w3 ⟨rfl, rfl⟩; (try simp only [Option.getD_some, Option.getD_none, Option.isSome_some, Option.isSome_none])) | (go_at_call 34; refine (HI.out _ HE2.out).mono ?_; rintro e w4 ⟨v, rfl, he, hb4⟩; obtain ⟨TT, bb, rfl⟩ := he.form; have HR4 := Aside0.mk (he.lower HB2.out.size); have HB4 := Aside0.mk (HB2.out.trans (hb4.mono HB2.out.size)); clear hb4 he))
  go_ret3
  exact ⟨⟨_, _, _, rfl, HR4.out⟩, HB4.out⟩
set_option maxHeartbeats 4000000 in
set_option maxRecDepth 100000 in
theorem absc_empty_ok (p : Nat) (E : List (ByteArray × ByteArray)) (f : Bs → Ans) (x : Bs) (i : Nat) (w : World) (hx : x.length < 1152921504606846976) (hE : EnvAt w p E) (h : idx [58, 45] x = some i) (hl : SM.look E (mk (x.take i)) = some ⟨#[]⟩) (IH : Subs f p E) (t : Bs) (hr : f (x.drop (i + 2)) = some (t, none)) :
    Calls Tryz.prog 134 #[.string (mk x), lk p, .bool true] w (OpTells w (some (t, none))) := by
  have hs := size_small x hx
  have HC := Lib.hid (contains_l (mk x) ⟨#[58, 45]⟩ ((mk x).size + 1) hs (by decide) (by decide) (Nat.le_refl _))
  have HP := Lib.hid (partition_l (mk x) ⟨#[58, 45]⟩ ((mk x).size + 1) hs (by decide) (by decide) (Nat.le_refl _))
  rw [mk_data, show (⟨#[58, 45]⟩ : ByteArray).data.toList = [58, 45] from rfl] at HC HP
  rw [h, Option.isSome_some] at HC
  rw [show part [58, 45] x = (x.take i, x.drop (i + 2)) by unfold part; rw [h]; rfl] at HP
  have HI := Lib.hid (fun W => IH _ _ W (by rw [List.length_drop]; omega) hr)
  have HE := Aside0.mk hE
  have HL := Lib.hid (fun W hW => look1 p E (mk (x.take i)) W hW)
  rw [hl] at HL
  clear h hs hE hl IH hr
  generalize mk (x.take i) = nm at HP HL
  go_enter Tryz.func134, Tryz.ntmps134
  go_wp2_with (first | (go_at_call 69; refine (template_zzContains.calls _ _ _ true _ HC.out).mono ?_; rintro e w1 ⟨rfl, ⟨nd, rfl⟩⟩) | (go_at_call 54; refine (template_partition.calls _ _ _ _ _ _ HP.out).mono ?_; rintro e w2 ⟨rfl, hb2⟩; have HE2 := Aside0.mk (HE.out.keep (Nat.le_refl _) (below_unN hb2)); have HB2 := Aside0.mk (below_unN hb2); clear hb2) | (go_at_call 52; refine (HL.out _ HE2.out).mono ?_; rintro e w3 ⟨rfl, rfl⟩; (try simp only [Option.getD_some, Option.getD_none, Option.isSome_some, Option.isSome_none])) | (go_at_call 34; refine (HI.out _ HE2.out).mono ?_; rintro e w4 ⟨v, rfl, rfl, hb4⟩; have HB4 := Aside0.mk (HB2.out.trans (hb4.mono HB2.out.size)); clear hb4))
  go_ret3
  exact ⟨rfl, HB4.out⟩
set_option maxHeartbeats 4000000 in
set_option maxRecDepth 100000 in
theorem absc_empty_err (p : Nat) (E : List (ByteArray × ByteArray)) (f : Bs → Ans) (x : Bs) (i : Nat) (w : World) (hx : x.length < 1152921504606846976) (hE : EnvAt w p E) (h : idx [58, 45] x = some i) (hl : SM.look E (mk (x.take i)) = some ⟨#[]⟩) (IH : Subs f p E) (t : Bs) (c : Cls) (hr : f (x.drop (i + 2)) = some (t, some c)) :
    Calls Tryz.prog 134 #[.string (mk x), lk p, .bool true] w (OpTells w (some (t, some c))) := by
  have hs := size_small x hx
  have HC := Lib.hid (contains_l (mk x) ⟨#[58, 45]⟩ ((mk x).size + 1) hs (by decide) (by decide) (Nat.le_refl _))
  have HP := Lib.hid (partition_l (mk x) ⟨#[58, 45]⟩ ((mk x).size + 1) hs (by decide) (by decide) (Nat.le_refl _))
  rw [mk_data, show (⟨#[58, 45]⟩ : ByteArray).data.toList = [58, 45] from rfl] at HC HP
  rw [h, Option.isSome_some] at HC
  rw [show part [58, 45] x = (x.take i, x.drop (i + 2)) by unfold part; rw [h]; rfl] at HP
  have HI := Lib.hid (fun W => IH _ _ W (by rw [List.length_drop]; omega) hr)
  have HE := Aside0.mk hE
  have HL := Lib.hid (fun W hW => look1 p E (mk (x.take i)) W hW)
  rw [hl] at HL
  clear h hs hE hl IH hr
  generalize mk (x.take i) = nm at HP HL
  go_enter Tryz.func134, Tryz.ntmps134
  go_wp2_with (first | (go_at_call 69; refine (template_zzContains.calls _ _ _ true _ HC.out).mono ?_; rintro e w1 ⟨rfl, ⟨nd, rfl⟩⟩) | (go_at_call 54; refine (template_partition.calls _ _ _ _ _ _ HP.out).mono ?_; rintro e w2 ⟨rfl, hb2⟩; have HE2 := Aside0.mk (HE.out.keep (Nat.le_refl _) (below_unN hb2)); have HB2 := Aside0.mk (below_unN hb2); clear hb2) | (go_at_call 52; refine (HL.out _ HE2.out).mono ?_; rintro e w3 ⟨rfl, rfl⟩; (try simp only [Option.getD_some, Option.getD_none, Option.isSome_some, Option.isSome_none])) | (go_at_call 34; refine (HI.out _ HE2.out).mono ?_; rintro e w4 ⟨v, rfl, he, hb4⟩; obtain ⟨TT, bb, rfl⟩ := he.form; have HR4 := Aside0.mk (he.lower HB2.out.size); have HB4 := Aside0.mk (HB2.out.trans (hb4.mono HB2.out.size)); clear hb4 he))
  go_ret3
  exact ⟨⟨_, _, _, rfl, HR4.out⟩, HB4.out⟩
set_option maxHeartbeats 4000000 in
set_option maxRecDepth 100000 in
theorem absc_full (p : Nat) (E : List (ByteArray × ByteArray)) (f : Bs → Ans) (x : Bs) (i : Nat) (w : World) (hx : x.length < 1152921504606846976) (hE : EnvAt w p E) (h : idx [58, 45] x = some i) (y : ByteArray) (hl : SM.look E (mk (x.take i)) = some y) (hy : y.data.toList ≠ []) :
    Calls Tryz.prog 134 #[.string (mk x), lk p, .bool true] w (OpTells w (some (y.data.toList, none))) := by
  have hs := size_small x hx
  have HC := Lib.hid (contains_l (mk x) ⟨#[58, 45]⟩ ((mk x).size + 1) hs (by decide) (by decide) (Nat.le_refl _))
  have HP := Lib.hid (partition_l (mk x) ⟨#[58, 45]⟩ ((mk x).size + 1) hs (by decide) (by decide) (Nat.le_refl _))
  rw [mk_data, show (⟨#[58, 45]⟩ : ByteArray).data.toList = [58, 45] from rfl] at HC HP
  rw [h, Option.isSome_some] at HC
  rw [show part [58, 45] x = (x.take i, x.drop (i + 2)) by unfold part; rw [h]; rfl] at HP
  have HE := Aside0.mk hE
  have HL := Lib.hid (fun W hW => look1 p E (mk (x.take i)) W hW)
  rw [hl] at HL
  have hy1 : y.toList.isEmpty = false := by rw [Lib.toList_data]; simpa using hy
  have hy2 : (y.toList == []) = false := by rw [Lib.toList_data]; simpa using hy
  have hy3 : (y.toList != []) = true := by rw [Lib.toList_data]; simpa using hy
  clear hy
  clear h hs hE hl
  have hmy : mk y.data.toList = y := mk_of y
  generalize mk (x.take i) = nm at HP HL
  go_enter Tryz.func134, Tryz.ntmps134
  go_wp2_with (first | (go_at_call 69; refine (template_zzContains.calls _ _ _ true _ HC.out).mono ?_; rintro e w1 ⟨rfl, ⟨nd, rfl⟩⟩) | (go_at_call 54; refine (template_partition.calls _ _ _ _ _ _ HP.out).mono ?_; rintro e w2 ⟨rfl, hb2⟩; have HE2 := Aside0.mk (HE.out.keep (Nat.le_refl _) (below_unN hb2)); have HB2 := Aside0.mk (below_unN hb2); clear hb2) | (go_at_call 52; refine (HL.out _ HE2.out).mono ?_; rintro e w3 ⟨rfl, rfl⟩; (try simp only [Option.getD_some, Option.getD_none, Option.isSome_some, Option.isSome_none])))
  go_ret3
  exact ⟨by first | rfl | (rw [hmy]), HB2.out⟩
set_option maxHeartbeats 4000000 in
set_option maxRecDepth 100000 in
theorem prec_none (p : Nat) (E : List (ByteArray × ByteArray)) (f : Bs → Ans) (x : Bs) (i : Nat) (w : World) (hx : x.length < 1152921504606846976) (hE : EnvAt w p E) (h : idx [58, 43] x = some i) (hl : SM.look E (mk (x.take i)) = none) :
    Calls Tryz.prog 135 #[.string (mk x), lk p, .bool true] w (OpTells w (some ([], none))) := by
  have hs := size_small x hx
  have HC := Lib.hid (contains_l (mk x) ⟨#[58, 43]⟩ ((mk x).size + 1) hs (by decide) (by decide) (Nat.le_refl _))
  have HP := Lib.hid (partition_l (mk x) ⟨#[58, 43]⟩ ((mk x).size + 1) hs (by decide) (by decide) (Nat.le_refl _))
  rw [mk_data, show (⟨#[58, 43]⟩ : ByteArray).data.toList = [58, 43] from rfl] at HC HP
  rw [h, Option.isSome_some] at HC
  rw [show part [58, 43] x = (x.take i, x.drop (i + 2)) by unfold part; rw [h]; rfl] at HP
  have HE := Aside0.mk hE
  have HL := Lib.hid (fun W hW => look1 p E (mk (x.take i)) W hW)
  rw [hl] at HL
  clear h hs hE hl
  generalize mk (x.take i) = nm at HP HL
  go_enter Tryz.func135, Tryz.ntmps135
  go_wp2_with (first | (go_at_call 69; refine (template_zzContains.calls _ _ _ true _ HC.out).mono ?_; rintro e w1 ⟨rfl, ⟨nd, rfl⟩⟩) | (go_at_call 54; refine (template_partition.calls _ _ _ _ _ _ HP.out).mono ?_; rintro e w2 ⟨rfl, hb2⟩; have HE2 := Aside0.mk (HE.out.keep (Nat.le_refl _) (below_unN hb2)); have HB2 := Aside0.mk (below_unN hb2); clear hb2) | (go_at_call 52; refine (HL.out _ HE2.out).mono ?_; rintro e w3 ⟨rfl, rfl⟩; (try simp only [Option.getD_some, Option.getD_none, Option.isSome_some, Option.isSome_none])))
  go_ret3
  exact ⟨rfl, HB2.out⟩
set_option maxHeartbeats 4000000 in
set_option maxRecDepth 100000 in
theorem prec_empty (p : Nat) (E : List (ByteArray × ByteArray)) (f : Bs → Ans) (x : Bs) (i : Nat) (w : World) (hx : x.length < 1152921504606846976) (hE : EnvAt w p E) (h : idx [58, 43] x = some i) (hl : SM.look E (mk (x.take i)) = some ⟨#[]⟩) :
    Calls Tryz.prog 135 #[.string (mk x), lk p, .bool true] w (OpTells w (some ([], none))) := by
  have hs := size_small x hx
  have HC := Lib.hid (contains_l (mk x) ⟨#[58, 43]⟩ ((mk x).size + 1) hs (by decide) (by decide) (Nat.le_refl _))
  have HP := Lib.hid (partition_l (mk x) ⟨#[58, 43]⟩ ((mk x).size + 1) hs (by decide) (by decide) (Nat.le_refl _))
  rw [mk_data, show (⟨#[58, 43]⟩ : ByteArray).data.toList = [58, 43] from rfl] at HC HP
  rw [h, Option.isSome_some] at HC
  rw [show part [58, 43] x = (x.take i, x.drop (i + 2)) by unfold part; rw [h]; rfl] at HP
  have HE := Aside0.mk hE
  have HL := Lib.hid (fun W hW => look1 p E (mk (x.take i)) W hW)
  rw [hl] at HL
  clear h hs hE hl
  generalize mk (x.take i) = nm at HP HL
  go_enter Tryz.func135, Tryz.ntmps135
  go_wp2_with (first | (go_at_call 69; refine (template_zzContains.calls _ _ _ true _ HC.out).mono ?_; rintro e w1 ⟨rfl, ⟨nd, rfl⟩⟩) | (go_at_call 54; refine (template_partition.calls _ _ _ _ _ _ HP.out).mono ?_; rintro e w2 ⟨rfl, hb2⟩; have HE2 := Aside0.mk (HE.out.keep (Nat.le_refl _) (below_unN hb2)); have HB2 := Aside0.mk (below_unN hb2); clear hb2) | (go_at_call 52; refine (HL.out _ HE2.out).mono ?_; rintro e w3 ⟨rfl, rfl⟩; (try simp only [Option.getD_some, Option.getD_none, Option.isSome_some, Option.isSome_none])))
  go_ret3
  exact ⟨rfl, HB2.out⟩
set_option maxHeartbeats 4000000 in
set_option maxRecDepth 100000 in
theorem prec_full_ok (p : Nat) (E : List (ByteArray × ByteArray)) (f : Bs → Ans) (x : Bs) (i : Nat) (w : World) (hx : x.length < 1152921504606846976) (hE : EnvAt w p E) (h : idx [58, 43] x = some i) (y : ByteArray) (hl : SM.look E (mk (x.take i)) = some y) (hy : y.data.toList ≠ []) (IH : Subs f p E) (t : Bs) (hr : f (x.drop (i + 2)) = some (t, none)) :
    Calls Tryz.prog 135 #[.string (mk x), lk p, .bool true] w (OpTells w (some (t, none))) := by
  have hs := size_small x hx
  have HC := Lib.hid (contains_l (mk x) ⟨#[58, 43]⟩ ((mk x).size + 1) hs (by decide) (by decide) (Nat.le_refl _))
  have HP := Lib.hid (partition_l (mk x) ⟨#[58, 43]⟩ ((mk x).size + 1) hs (by decide) (by decide) (Nat.le_refl _))
  rw [mk_data, show (⟨#[58, 43]⟩ : ByteArray).data.toList = [58, 43] from rfl] at HC HP
  rw [h, Option.isSome_some] at HC
  rw [show part [58, 43] x = (x.take i, x.drop (i + 2)) by unfold part; rw [h]; rfl] at HP
  have HI := Lib.hid (fun W => IH _ _ W (by rw [List.length_drop]; omega) hr)
  have HE := Aside0.mk hE
  have HL := Lib.hid (fun W hW => look1 p E (mk (x.take i)) W hW)
  rw [hl] at HL
  have hy1 : y.toList.isEmpty = false := by rw [Lib.toList_data]; simpa using hy
  have hy2 : (y.toList == []) = false := by rw [Lib.toList_data]; simpa using hy
  have hy3 : (y.toList != []) = true := by rw [Lib.toList_data]; simpa using hy
  clear hy
  clear h hs hE hl IH hr
  have hmy : mk y.data.toList = y := mk_of y
  generalize mk (x.take i) = nm at HP HL
  go_enter Tryz.func135, Tryz.ntmps135
  go_wp2_with (first | (go_at_call 69; refine (template_zzContains.calls _ _ _ true _ HC.out).mono ?_; rintro e w1 ⟨rfl, ⟨nd, rfl⟩⟩) | (go_at_call 54; refine (template_partition.calls _ _ _ _ _ _ HP.out).mono ?_; rintro e w2 ⟨rfl, hb2⟩; have HE2 := Aside0.mk (HE.out.keep (Nat.le_refl _) (below_unN hb2)); have HB2 := Aside0.mk (below_unN hb2); clear hb2) | (go_at_call 52; refine (HL.out _ HE2.out).mono ?_; rintro e w3 ⟨rfl, rfl⟩; (try simp only [Option.getD_some, Option.getD_none, Option.isSome_some, Option.isSome_none])) | (go_at_call 34; refine (HI.out _ HE2.out).mono ?_; rintro e w4 ⟨v, rfl, rfl, hb4⟩; have HB4 := Aside0.mk (HB2.out.trans (hb4.mono HB2.out.size)); clear hb4))
  go_ret3
  exact ⟨rfl, HB4.out⟩
set_option maxHeartbeats 4000000 in
set_option maxRecDepth 100000 in
theorem prec_full_err (p : Nat) (E : List (ByteArray × ByteArray)) (f : Bs → Ans) (x : Bs) (i : Nat) (w : World) (hx : x.length < 1152921504606846976) (hE : EnvAt w p E) (h : idx [58, 43] x = some i) (y : ByteArray) (hl : SM.look E (mk (x.take i)) = some y) (hy : y.data.toList ≠ []) (IH : Subs f p E) (t : Bs) (c : Cls) (hr : f (x.drop (i + 2)) = some (t, some c)) :
    Calls Tryz.prog 135 #[.string (mk x), lk p, .bool true] w (OpTells w (some (t, some c))) := by
  have hs := size_small x hx
  have HC := Lib.hid (contains_l (mk x) ⟨#[58, 43]⟩ ((mk x).size + 1) hs (by decide) (by decide) (Nat.le_refl _))
  have HP := Lib.hid (partition_l (mk x) ⟨#[58, 43]⟩ ((mk x).size + 1) hs (by decide) (by decide) (Nat.le_refl _))
  rw [mk_data, show (⟨#[58, 43]⟩ : ByteArray).data.toList = [58, 43] from rfl] at HC HP
  rw [h, Option.isSome_some] at HC
  rw [show part [58, 43] x = (x.take i, x.drop (i + 2)) by unfold part; rw [h]; rfl] at HP
  have HI := Lib.hid (fun W => IH _ _ W (by rw [List.length_drop]; omega) hr)
  have HE := Aside0.mk hE
  have HL := Lib.hid (fun W hW => look1 p E (mk (x.take i)) W hW)
  rw [hl] at HL
  have hy1 : y.toList.isEmpty = false := by rw [Lib.toList_data]; simpa using hy
  have hy2 : (y.toList == []) = false := by rw [Lib.toList_data]; simpa using hy
  have hy3 : (y.toList != []) = true := by rw [Lib.toList_data]; simpa using hy
  clear hy
  clear h hs hE hl IH hr
  have hmy : mk y.data.toList = y := mk_of y
  generalize mk (x.take i) = nm at HP HL
  go_enter Tryz.func135, Tryz.ntmps135
  go_wp2_with (first | (go_at_call 69; refine (template_zzContains.calls _ _ _ true _ HC.out).mono ?_; rintro e w1 ⟨rfl, ⟨nd, rfl⟩⟩) | (go_at_call 54; refine (template_partition.calls _ _ _ _ _ _ HP.out).mono ?_; rintro e w2 ⟨rfl, hb2⟩; have HE2 := Aside0.mk (HE.out.keep (Nat.le_refl _) (below_unN hb2)); have HB2 := Aside0.mk (below_unN hb2); clear hb2) | (go_at_call 52; refine (HL.out _ HE2.out).mono ?_; rintro e w3 ⟨rfl, rfl⟩; (try simp only [Option.getD_some, Option.getD_none, Option.isSome_some, Option.isSome_none])) | (go_at_call 34; refine (HI.out _ HE2.out).mono ?_; rintro e w4 ⟨v, rfl, he, hb4⟩; obtain ⟨TT, bb, rfl⟩ := he.form; have HR4 := Aside0.mk (he.lower HB2.out.size); have HB4 := Aside0.mk (HB2.out.trans (hb4.mono HB2.out.size)); clear hb4 he))
  go_ret3
  exact ⟨⟨_, _, _, rfl, HR4.out⟩, HB4.out⟩
set_option maxHeartbeats 4000000 in
set_option maxRecDepth 100000 in
theorem reqc_none_ok (p : Nat) (E : List (ByteArray × ByteArray)) (f : Bs → Ans) (x : Bs) (i : Nat) (w : World) (hx : x.length < 1152921504606846976) (hE : EnvAt w p E) (h : idx [58, 63] x = some i) (hl : SM.look E (mk (x.take i)) = none) (IH : Subs f p E) (t : Bs) (hr : f (x.drop (i + 2)) = some (t, none)) :
    Calls Tryz.prog 131 #[.string (mk x), lk p, .string ⟨#[58, 63]⟩, .func (.func 132) #[] #[]] w (OpTells w (some ([], some .missing))) := by
  have hs := size_small x hx
  have HC := Lib.hid (contains_l (mk x) ⟨#[58, 63]⟩ ((mk x).size + 1) hs (by decide) (by decide) (Nat.le_refl _))
  have HP := Lib.hid (partition_l (mk x) ⟨#[58, 63]⟩ ((mk x).size + 1) hs (by decide) (by decide) (Nat.le_refl _))
  rw [mk_data, show (⟨#[58, 63]⟩ : ByteArray).data.toList = [58, 63] from rfl] at HC HP
  rw [h, Option.isSome_some] at HC
  rw [show part [58, 63] x = (x.take i, x.drop (i + 2)) by unfold part; rw [h]; rfl] at HP
  have HI := Lib.hid (fun W => IH _ _ W (by rw [List.length_drop]; omega) hr)
  have HE := Aside0.mk hE
  have HL := Lib.hid (fun W hW => look1 p E (mk (x.take i)) W hW)
  rw [hl] at HL
  clear h hs hE hl IH hr
  generalize mk (x.take i) = nm at HP HL
  go_enter Tryz.func131, Tryz.ntmps131
  go_wp2_with (first | (go_at_call 69; refine (template_zzContains.calls _ _ _ true _ HC.out).mono ?_; rintro e w1 ⟨rfl, ⟨nd, rfl⟩⟩) | (go_at_call 54; refine (template_partition.calls _ _ _ _ _ _ HP.out).mono ?_; rintro e w2 ⟨rfl, hb2⟩; have HE2 := Aside0.mk (HE.out.keep (Nat.le_refl _) (below_unN hb2)); have HB2 := Aside0.mk (below_unN hb2); clear hb2) | (go_at_call 52; refine (HL.out _ HE2.out).mono ?_; rintro e w3 ⟨rfl, rfl⟩; (try simp only [Option.getD_some, Option.getD_none, Option.isSome_some, Option.isSome_none])) | (go_at_call 34; refine (HI.out _ HE2.out).mono ?_; rintro e w4 ⟨v, rfl, rfl, hb4⟩; have HB4 := Aside0.mk (HB2.out.trans (hb4.mono HB2.out.size)); clear hb4))
  go_ret3
  exact ⟨⟨_, _, _, rfl, ⟨_, _, _, rfl, HB4.out.size, (MapKept.heap_alloc _ _).1⟩⟩, HB4.out.alloc HB4.out.size _⟩
set_option maxHeartbeats 4000000 in
set_option maxRecDepth 100000 in
theorem reqc_none_err (p : Nat) (E : List (ByteArray × ByteArray)) (f : Bs → Ans) (x : Bs) (i : Nat) (w : World) (hx : x.length < 1152921504606846976) (hE : EnvAt w p E) (h : idx [58, 63] x = some i) (hl : SM.look E (mk (x.take i)) = none) (IH : Subs f p E) (t : Bs) (c : Cls) (hr : f (x.drop (i + 2)) = some (t, some c)) :
    Calls Tryz.prog 131 #[.string (mk x), lk p, .string ⟨#[58, 63]⟩, .func (.func 132) #[] #[]] w (OpTells w (some ([], some c))) := by
  have hs := size_small x hx
  have HC := Lib.hid (contains_l (mk x) ⟨#[58, 63]⟩ ((mk x).size + 1) hs (by decide) (by decide) (Nat.le_refl _))
  have HP := Lib.hid (partition_l (mk x) ⟨#[58, 63]⟩ ((mk x).size + 1) hs (by decide) (by decide) (Nat.le_refl _))
  rw [mk_data, show (⟨#[58, 63]⟩ : ByteArray).data.toList = [58, 63] from rfl] at HC HP
  rw [h, Option.isSome_some] at HC
  rw [show part [58, 63] x = (x.take i, x.drop (i + 2)) by unfold part; rw [h]; rfl] at HP
  have HI := Lib.hid (fun W => IH _ _ W (by rw [List.length_drop]; omega) hr)
  have HE := Aside0.mk hE
  have HL := Lib.hid (fun W hW => look1 p E (mk (x.take i)) W hW)
  rw [hl] at HL
  clear h hs hE hl IH hr
  generalize mk (x.take i) = nm at HP HL
  go_enter Tryz.func131, Tryz.ntmps131
  go_wp2_with (first | (go_at_call 69; refine (template_zzContains.calls _ _ _ true _ HC.out).mono ?_; rintro e w1 ⟨rfl, ⟨nd, rfl⟩⟩) | (go_at_call 54; refine (template_partition.calls _ _ _ _ _ _ HP.out).mono ?_; rintro e w2 ⟨rfl, hb2⟩; have HE2 := Aside0.mk (HE.out.keep (Nat.le_refl _) (below_unN hb2)); have HB2 := Aside0.mk (below_unN hb2); clear hb2) | (go_at_call 52; refine (HL.out _ HE2.out).mono ?_; rintro e w3 ⟨rfl, rfl⟩; (try simp only [Option.getD_some, Option.getD_none, Option.isSome_some, Option.isSome_none])) | (go_at_call 34; refine (HI.out _ HE2.out).mono ?_; rintro e w4 ⟨v, rfl, he, hb4⟩; obtain ⟨TT, bb, rfl⟩ := he.form; have HR4 := Aside0.mk (he.lower HB2.out.size); have HB4 := Aside0.mk (HB2.out.trans (hb4.mono HB2.out.size)); clear hb4 he))
  go_ret3
  exact ⟨⟨_, _, _, rfl, HR4.out⟩, HB4.out⟩
set_option maxHeartbeats 4000000 in
set_option maxRecDepth 100000 in
theorem reqc_empty_ok (p : Nat) (E : List (ByteArray × ByteArray)) (f : Bs → Ans) (x : Bs) (i : Nat) (w : World) (hx : x.length < 1152921504606846976) (hE : EnvAt w p E) (h : idx [58, 63] x = some i) (hl : SM.look E (mk (x.take i)) = some ⟨#[]⟩) (IH : Subs f p E) (t : Bs) (hr : f (x.drop (i + 2)) = some (t, none)) :
    Calls Tryz.prog 131 #[.string (mk x), lk p, .string ⟨#[58, 63]⟩, .func (.func 132) #[] #[]] w (OpTells w (some ([], some .missing))) := by
  have hs := size_small x hx
  have HC := Lib.hid (contains_l (mk x) ⟨#[58, 63]⟩ ((mk x).size + 1) hs (by decide) (by decide) (Nat.le_refl _))
  have HP := Lib.hid (partition_l (mk x) ⟨#[58, 63]⟩ ((mk x).size + 1) hs (by decide) (by decide) (Nat.le_refl _))
  rw [mk_data, show (⟨#[58, 63]⟩ : ByteArray).data.toList = [58, 63] from rfl] at HC HP
  rw [h, Option.isSome_some] at HC
  rw [show part [58, 63] x = (x.take i, x.drop (i + 2)) by unfold part; rw [h]; rfl] at HP
  have HI := Lib.hid (fun W => IH _ _ W (by rw [List.length_drop]; omega) hr)
  have HE := Aside0.mk hE
  have HL := Lib.hid (fun W hW => look1 p E (mk (x.take i)) W hW)
  rw [hl] at HL
  clear h hs hE hl IH hr
  generalize mk (x.take i) = nm at HP HL
  go_enter Tryz.func131, Tryz.ntmps131
  go_wp2_with (first | (go_at_call 69; refine (template_zzContains.calls _ _ _ true _ HC.out).mono ?_; rintro e w1 ⟨rfl, ⟨nd, rfl⟩⟩) | (go_at_call 54; refine (template_partition.calls _ _ _ _ _ _ HP.out).mono ?_; rintro e w2 ⟨rfl, hb2⟩; have HE2 := Aside0.mk (HE.out.keep (Nat.le_refl _) (below_unN hb2)); have HB2 := Aside0.mk (below_unN hb2); clear hb2) | (go_at_call 52; refine (HL.out _ HE2.out).mono ?_; rintro e w3 ⟨rfl, rfl⟩; (try simp only [Option.getD_some, Option.getD_none, Option.isSome_some, Option.isSome_none])) | (go_at_call 132; refine (validC_empty _).mono ?_; rintro e w5 ⟨rfl, rfl⟩) | (go_at_call 34; refine (HI.out _ HE2.out).mono ?_; rintro e w4 ⟨v, rfl, rfl, hb4⟩; have HB4 := Aside0.mk (HB2.out.trans (hb4.mono HB2.out.size)); clear hb4))
  go_ret3
  exact ⟨⟨_, _, _, rfl, ⟨_, _, _, rfl, HB4.out.size, (MapKept.heap_alloc _ _).1⟩⟩, HB4.out.alloc HB4.out.size _⟩
set_option maxHeartbeats 4000000 in
set_option maxRecDepth 100000 in
theorem reqc_empty_err (p : Nat) (E : List (ByteArray × ByteArray)) (f : Bs → Ans) (x : Bs) (i : Nat) (w : World) (hx : x.length < 1152921504606846976) (hE : EnvAt w p E) (h : idx [58, 63] x = some i) (hl : SM.look E (mk (x.take i)) = some ⟨#[]⟩) (IH : Subs f p E) (t : Bs) (c : Cls) (hr : f (x.drop (i + 2)) = some (t, some c)) :
    Calls Tryz.prog 131 #[.string (mk x), lk p, .string ⟨#[58, 63]⟩, .func (.func 132) #[] #[]] w (OpTells w (some ([], some c))) := by
  have hs := size_small x hx
  have HC := Lib.hid (contains_l (mk x) ⟨#[58, 63]⟩ ((mk x).size + 1) hs (by decide) (by decide) (Nat.le_refl _))
  have HP := Lib.hid (partition_l (mk x) ⟨#[58, 63]⟩ ((mk x).size + 1) hs (by decide) (by decide) (Nat.le_refl _))
  rw [mk_data, show (⟨#[58, 63]⟩ : ByteArray).data.toList = [58, 63] from rfl] at HC HP
  rw [h, Option.isSome_some] at HC
  rw [show part [58, 63] x = (x.take i, x.drop (i + 2)) by unfold part; rw [h]; rfl] at HP
  have HI := Lib.hid (fun W => IH _ _ W (by rw [List.length_drop]; omega) hr)
  have HE := Aside0.mk hE
  have HL := Lib.hid (fun W hW => look1 p E (mk (x.take i)) W hW)
  rw [hl] at HL
  clear h hs hE hl IH hr
  generalize mk (x.take i) = nm at HP HL
  go_enter Tryz.func131, Tryz.ntmps131
  go_wp2_with (first | (go_at_call 69; refine (template_zzContains.calls _ _ _ true _ HC.out).mono ?_; rintro e w1 ⟨rfl, ⟨nd, rfl⟩⟩) | (go_at_call 54; refine (template_partition.calls _ _ _ _ _ _ HP.out).mono ?_; rintro e w2 ⟨rfl, hb2⟩; have HE2 := Aside0.mk (HE.out.keep (Nat.le_refl _) (below_unN hb2)); have HB2 := Aside0.mk (below_unN hb2); clear hb2) | (go_at_call 52; refine (HL.out _ HE2.out).mono ?_; rintro e w3 ⟨rfl, rfl⟩; (try simp only [Option.getD_some, Option.getD_none, Option.isSome_some, Option.isSome_none])) | (go_at_call 132; refine (validC_empty _).mono ?_; rintro e w5 ⟨rfl, rfl⟩) | (go_at_call 34; refine (HI.out _ HE2.out).mono ?_; rintro e w4 ⟨v, rfl, he, hb4⟩; obtain ⟨TT, bb, rfl⟩ := he.form; have HR4 := Aside0.mk (he.lower HB2.out.size); have HB4 := Aside0.mk (HB2.out.trans (hb4.mono HB2.out.size)); clear hb4 he))
  go_ret3
  exact ⟨⟨_, _, _, rfl, HR4.out⟩, HB4.out⟩
set_option maxHeartbeats 4000000 in
set_option maxRecDepth 100000 in
theorem reqc_full (p : Nat) (E : List (ByteArray × ByteArray)) (f : Bs → Ans) (x : Bs) (i : Nat) (w : World) (hx : x.length < 1152921504606846976) (hE : EnvAt w p E) (h : idx [58, 63] x = some i) (y : ByteArray) (hl : SM.look E (mk (x.take i)) = some y) (hy : y.data.toList ≠ []) :
    Calls Tryz.prog 131 #[.string (mk x), lk p, .string ⟨#[58, 63]⟩, .func (.func 132) #[] #[]] w (OpTells w (some (y.data.toList, none))) := by
  have hs := size_small x hx
  have HC := Lib.hid (contains_l (mk x) ⟨#[58, 63]⟩ ((mk x).size + 1) hs (by decide) (by decide) (Nat.le_refl _))
  have HP := Lib.hid (partition_l (mk x) ⟨#[58, 63]⟩ ((mk x).size + 1) hs (by decide) (by decide) (Nat.le_refl _))
  rw [mk_data, show (⟨#[58, 63]⟩ : ByteArray).data.toList = [58, 63] from rfl] at HC HP
  rw [h, Option.isSome_some] at HC
  rw [show part [58, 63] x = (x.take i, x.drop (i + 2)) by unfold part; rw [h]; rfl] at HP
  have HE := Aside0.mk hE
  have HL := Lib.hid (fun W hW => look1 p E (mk (x.take i)) W hW)
  rw [hl] at HL
  have hy1 : y.toList.isEmpty = false := by rw [Lib.toList_data]; simpa using hy
  have hy2 : (y.toList == []) = false := by rw [Lib.toList_data]; simpa using hy
  have hy3 : (y.toList != []) = true := by rw [Lib.toList_data]; simpa using hy
  clear hy
  clear h hs hE hl
  have hmy : mk y.data.toList = y := mk_of y
  generalize mk (x.take i) = nm at HP HL
  go_enter Tryz.func131, Tryz.ntmps131
  go_wp2_with (first | (go_at_call 69; refine (template_zzContains.calls _ _ _ true _ HC.out).mono ?_; rintro e w1 ⟨rfl, ⟨nd, rfl⟩⟩) | (go_at_call 54; refine (template_partition.calls _ _ _ _ _ _ HP.out).mono ?_; rintro e w2 ⟨rfl, hb2⟩; have HE2 := Aside0.mk (HE.out.keep (Nat.le_refl _) (below_unN hb2)); have HB2 := Aside0.mk (below_unN hb2); clear hb2) | (go_at_call 52; refine (HL.out _ HE2.out).mono ?_; rintro e w3 ⟨rfl, rfl⟩; (try simp only [Option.getD_some, Option.getD_none, Option.isSome_some, Option.isSome_none])) | (go_at_call 132; refine (validC_full _ _ hy1 hy2 hy3).mono ?_; rintro e w5 ⟨rfl, rfl⟩))
  go_ret3
  exact ⟨by first | rfl | (rw [hmy]), HB2.out⟩
set_option maxHeartbeats 4000000 in
set_option maxRecDepth 100000 in
theorem abs_none_ok (p : Nat) (E : List (ByteArray × ByteArray)) (f : Bs → Ans) (x : Bs) (i : Nat) (w : World) (hx : x.length < 1152921504606846976) (hE : EnvAt w p E) (h : idx [45] x = some i) (hl : SM.look E (mk (x.take i)) = none) (IH : Subs f p E) (t : Bs) (hr : f (x.drop (i + 1)) = some (t, none)) :
    Calls Tryz.prog 134 #[.string (mk x), lk p, .bool false] w (OpTells w (some (t, none))) := by
  have hs := size_small x hx
  have HC := Lib.hid (contains_l (mk x) ⟨#[45]⟩ ((mk x).size + 1) hs (by decide) (by decide) (Nat.le_refl _))
  have HP := Lib.hid (partition_l (mk x) ⟨#[45]⟩ ((mk x).size + 1) hs (by decide) (by decide) (Nat.le_refl _))
  rw [mk_data, show (⟨#[45]⟩ : ByteArray).data.toList = [45] from rfl] at HC HP
  rw [h, Option.isSome_some] at HC
  rw [show part [45] x = (x.take i, x.drop (i + 1)) by unfold part; rw [h]; rfl] at HP
  have HI := Lib.hid (fun W => IH _ _ W (by rw [List.length_drop]; omega) hr)
  have HE := Aside0.mk hE
  have HL := Lib.hid (fun W hW => look1 p E (mk (x.take i)) W hW)
  rw [hl] at HL
  clear h hs hE hl IH hr
  generalize mk (x.take i) = nm at HP HL
  go_enter Tryz.func134, Tryz.ntmps134
  go_wp2_with (first | (go_at_call 69; refine (template_zzContains.calls _ _ _ true _ HC.out).mono ?_; rintro e w1 ⟨rfl, ⟨nd, rfl⟩⟩) | (go_at_call 54; refine (template_partition.calls _ _ _ _ _ _ HP.out).mono ?_; rintro e w2 ⟨rfl, hb2⟩; have HE2 := Aside0.mk (HE.out.keep (Nat.le_refl _) (below_unN hb2)); have HB2 := Aside0.mk (below_unN hb2); clear hb2) | (go_at_call 52; refine (HL.out _ HE2.out).mono ?_; rintro e w3 ⟨rfl, rfl⟩; (try simp only [Option.getD_some, Option.getD_none, Option.isSome_some, Option.isSome_none])) | (go_at_call 34; refine (HI.out _ HE2.out).mono ?_; rintro e w4 ⟨v, rfl, rfl, hb4⟩; have HB4 := Aside0.mk (HB2.out.trans (hb4.mono HB2.out.size)); clear hb4))
  go_ret3
  exact ⟨rfl, HB4.out⟩
set_option maxHeartbeats 4000000 in
set_option maxRecDepth 100000 in
theorem abs_none_err (p : Nat) (E : List (ByteArray × ByteArray)) (f : Bs → Ans) (x : Bs) (i : Nat) (w : World) (hx : x.length < 1152921504606846976) (hE : EnvAt w p E) (h : idx [45] x = some i) (hl : SM.look E (mk (x.take i)) = none) (IH : Subs f p E) (t : Bs) (c : Cls) (hr : f (x.drop (i + 1)) = some (t, some c)) :
    Calls Tryz.prog 134 #[.string (mk x), lk p, .bool false] w (OpTells w (some (t, some c))) := by
  have hs := size_small x hx
  have HC := Lib.hid (contains_l (mk x) ⟨#[45]⟩ ((mk x).size + 1) hs (by decide) (by decide) (Nat.le_refl _))
  have HP := Lib.hid (partition_l (mk x) ⟨#[45]⟩ ((mk x).size + 1) hs (by decide) (by decide) (Nat.le_refl _))
  rw [mk_data, show (⟨#[45]⟩ : ByteArray).data.toList = [45] from rfl] at HC HP
  rw [h, Option.isSome_some] at HC
  rw [show part [45] x = (x.take i, x.drop (i + 1)) by unfold part; rw [h]; rfl] at HP
  have HI := Lib.hid (fun W => IH _ _ W (by rw [List.length_drop]; omega) hr)
  have HE := Aside0.mk hE
  have HL := Lib.hid (fun W hW => look1 p E (mk (x.take i)) W hW)
  rw [hl] at HL
  clear h hs hE hl IH hr
  generalize mk (x.take i) = nm at HP HL
  go_enter Tryz.func134, Tryz.ntmps134
  go_wp2_with (first | (go_at_call 69; refine (template_zzContains.calls _ _ _ true _ HC.out).mono ?_; rintro e w1 ⟨rfl, ⟨nd, rfl⟩⟩) | (go_at_call 54; refine (template_partition.calls _ _ _ _ _ _ HP.out).mono ?_; rintro e w2 ⟨rfl, hb2⟩; have HE2 := Aside0.mk (HE.out.keep (Nat.le_refl _) (below_unN hb2)); have HB2 := Aside0.mk (below_unN hb2); clear hb2) | (go_at_call 52; refine (HL.out _ HE2.out).mono ?_; rintro e w3 ⟨rfl, rfl⟩; (try simp only [Option.getD_some, Option.getD_none, Option.isSome_some, Option.isSome_none])) | (go_at_call 34; refine (HI.out _ HE2.out).mono ?_; rintro e w4 ⟨v, rfl, he, hb4⟩; obtain ⟨TT, bb, rfl⟩ := he.form; have HR4 := Aside0.mk (he.lower HB2.out.size); have HB4 := Aside0.mk (HB2.out.trans (hb4.mono HB2.out.size)); clear hb4 he))
  go_ret3
  exact ⟨⟨_, _, _, rfl, HR4.out⟩, HB4.out⟩
set_option maxHeartbeats 4000000 in
set_option maxRecDepth 100000 in
theorem abs_full (p : Nat) (E : List (ByteArray × ByteArray)) (f : Bs → Ans) (x : Bs) (i : Nat) (w : World) (hx : x.length < 1152921504606846976) (hE : EnvAt w p E) (h : idx [45] x = some i) (y : ByteArray) (hl : SM.look E (mk (x.take i)) = some y) :
    Calls Tryz.prog 134 #[.string (mk x), lk p, .bool false] w (OpTells w (some (y.data.toList, none))) := by
  have hs := size_small x hx
  have HC := Lib.hid (contains_l (mk x) ⟨#[45]⟩ ((mk x).size + 1) hs (by decide) (by decide) (Nat.le_refl _))
  have HP := Lib.hid (partition_l (mk x) ⟨#[45]⟩ ((mk x).size + 1) hs (by decide) (by decide) (Nat.le_refl _))
  rw [mk_data, show (⟨#[45]⟩ : ByteArray).data.toList = [45] from rfl] at HC HP
  rw [h, Option.isSome_some] at HC
  rw [show part [45] x = (x.take i, x.drop (i + 1)) by unfold part; rw [h]; rfl] at HP
  have HE := Aside0.mk hE
  have HL := Lib.hid (fun W hW => look1 p E (mk (x.take i)) W hW)
  rw [hl] at HL
  clear h hs hE hl
  have hmy : mk y.data.toList = y := mk_of y
  generalize mk (x.take i) = nm at HP HL
  go_enter Tryz.func134, Tryz.ntmps134
  go_wp2_with (first | (go_at_call 69; refine (template_zzContains.calls _ _ _ true _ HC.out).mono ?_; rintro e w1 ⟨rfl, ⟨nd, rfl⟩⟩) | (go_at_call 54; refine (template_partition.calls _ _ _ _ _ _ HP.out).mono ?_; rintro e w2 ⟨rfl, hb2⟩; have HE2 := Aside0.mk (HE.out.keep (Nat.le_refl _) (below_unN hb2)); have HB2 := Aside0.mk (below_unN hb2); clear hb2) | (go_at_call 52; refine (HL.out _ HE2.out).mono ?_; rintro e w3 ⟨rfl, rfl⟩; (try simp only [Option.getD_some, Option.getD_none, Option.isSome_some, Option.isSome_none])))
  go_ret3
  exact ⟨by first | rfl | (rw [hmy]), HB2.out⟩
set_option maxHeartbeats 4000000 in
set_option maxRecDepth 100000 in
theorem pre_none (p : Nat) (E : List (ByteArray × ByteArray)) (f : Bs → Ans) (x : Bs) (i : Nat) (w : World) (hx : x.length < 1152921504606846976) (hE : EnvAt w p E) (h : idx [43] x = some i) (hl : SM.look E (mk (x.take i)) = none) :
    Calls Tryz.prog 135 #[.string (mk x), lk p, .bool false] w (OpTells w (some ([], none))) := by
  have hs := size_small x hx
  have HC := Lib.hid (contains_l (mk x) ⟨#[43]⟩ ((mk x).size + 1) hs (by decide) (by decide) (Nat.le_refl _))
  have HP := Lib.hid (partition_l (mk x) ⟨#[43]⟩ ((mk x).size + 1) hs (by decide) (by decide) (Nat.le_refl _))
  rw [mk_data, show (⟨#[43]⟩ : ByteArray).data.toList = [43] from rfl] at HC HP
  rw [h, Option.isSome_some] at HC
  rw [show part [43] x = (x.take i, x.drop (i + 1)) by unfold part; rw [h]; rfl] at HP
  have HE := Aside0.mk hE
  have HL := Lib.hid (fun W hW => look1 p E (mk (x.take i)) W hW)
  rw [hl] at HL
  clear h hs hE hl
  generalize mk (x.take i) = nm at HP HL
  go_enter Tryz.func135, Tryz.ntmps135
  go_wp2_with (first | (go_at_call 69; refine (template_zzContains.calls _ _ _ true _ HC.out).mono ?_; rintro e w1 ⟨rfl, ⟨nd, rfl⟩⟩) | (go_at_call 54; refine (template_partition.calls _ _ _ _ _ _ HP.out).mono ?_; rintro e w2 ⟨rfl, hb2⟩; have HE2 := Aside0.mk (HE.out.keep (Nat.le_refl _) (below_unN hb2)); have HB2 := Aside0.mk (below_unN hb2); clear hb2) | (go_at_call 52; refine (HL.out _ HE2.out).mono ?_; rintro e w3 ⟨rfl, rfl⟩; (try simp only [Option.getD_some, Option.getD_none, Option.isSome_some, Option.isSome_none])))
  go_ret3
  exact ⟨rfl, HB2.out⟩
set_option maxHeartbeats 4000000 in
set_option maxRecDepth 100000 in
theorem pre_full_ok (p : Nat) (E : List (ByteArray × ByteArray)) (f : Bs → Ans) (x : Bs) (i : Nat) (w : World) (hx : x.length < 1152921504606846976) (hE : EnvAt w p E) (h : idx [43] x = some i) (y : ByteArray) (hl : SM.look E (mk (x.take i)) = some y) (IH : Subs f p E) (t : Bs) (hr : f (x.drop (i + 1)) = some (t, none)) :
    Calls Tryz.prog 135 #[.string (mk x), lk p, .bool false] w (OpTells w (some (t, none))) := by
  have hs := size_small x hx
  have HC := Lib.hid (contains_l (mk x) ⟨#[43]⟩ ((mk x).size + 1) hs (by decide) (by decide) (Nat.le_refl _))
  have HP := Lib.hid (partition_l (mk x) ⟨#[43]⟩ ((mk x).size + 1) hs (by decide) (by decide) (Nat.le_refl _))
  rw [mk_data, show (⟨#[43]⟩ : ByteArray).data.toList = [43] from rfl] at HC HP
  rw [h, Option.isSome_some] at HC
  rw [show part [43] x = (x.take i, x.drop (i + 1)) by unfold part; rw [h]; rfl] at HP
  have HI := Lib.hid (fun W => IH _ _ W (by rw [List.length_drop]; omega) hr)
  have HE := Aside0.mk hE
  have HL := Lib.hid (fun W hW => look1 p E (mk (x.take i)) W hW)
  rw [hl] at HL
  clear h hs hE hl IH hr
  have hmy : mk y.data.toList = y := mk_of y
  generalize mk (x.take i) = nm at HP HL
  go_enter Tryz.func135, Tryz.ntmps135
  go_wp2_with (first | (go_at_call 69; refine (template_zzContains.calls _ _ _ true _ HC.out).mono ?_; rintro e w1 ⟨rfl, ⟨nd, rfl⟩⟩) | (go_at_call 54; refine (template_partition.calls _ _ _ _ _ _ HP.out).mono ?_; rintro e w2 ⟨rfl, hb2⟩; have HE2 := Aside0.mk (HE.out.keep (Nat.le_refl _) (below_unN hb2)); have HB2 := Aside0.mk (below_unN hb2); clear hb2) | (go_at_call 52; refine (HL.out _ HE2.out).mono ?_; rintro e w3 ⟨rfl, rfl⟩; (try simp only [Option.getD_some, Option.getD_none, Option.isSome_some, Option.isSome_none])) | (go_at_call 34; refine (HI.out _ HE2.out).mono ?_; rintro e w4 ⟨v, rfl, rfl, hb4⟩; have HB4 := Aside0.mk (HB2.out.trans (hb4.mono HB2.out.size)); clear hb4))
  go_ret3
  exact ⟨rfl, HB4.out⟩
set_option maxHeartbeats 4000000 in
set_option maxRecDepth 100000 in
theorem pre_full_err (p : Nat) (E : List (ByteArray × ByteArray)) (f : Bs → Ans) (x : Bs) (i : Nat) (w : World) (hx : x.length < 1152921504606846976) (hE : EnvAt w p E) (h : idx [43] x = some i) (y : ByteArray) (hl : SM.look E (mk (x.take i)) = some y) (IH : Subs f p E) (t : Bs) (c : Cls) (hr : f (x.drop (i + 1)) = some (t, some c)) :
    Calls Tryz.prog 135 #[.string (mk x), lk p, .bool false] w (OpTells w (some (t, some c))) := by
  have hs := size_small x hx
  have HC := Lib.hid (contains_l (mk x) ⟨#[43]⟩ ((mk x).size + 1) hs (by decide) (by decide) (Nat.le_refl _))
  have HP := Lib.hid (partition_l (mk x) ⟨#[43]⟩ ((mk x).size + 1) hs (by decide) (by decide) (Nat.le_refl _))
  rw [mk_data, show (⟨#[43]⟩ : ByteArray).data.toList = [43] from rfl] at HC HP
  rw [h, Option.isSome_some] at HC
  rw [show part [43] x = (x.take i, x.drop (i + 1)) by unfold part; rw [h]; rfl] at HP
  have HI := Lib.hid (fun W => IH _ _ W (by rw [List.length_drop]; omega) hr)
  have HE := Aside0.mk hE
  have HL := Lib.hid (fun W hW => look1 p E (mk (x.take i)) W hW)
  rw [hl] at HL
  clear h hs hE hl IH hr
  have hmy : mk y.data.toList = y := mk_of y
  generalize mk (x.take i) = nm at HP HL
  go_enter Tryz.func135, Tryz.ntmps135
  go_wp2_with (first | (go_at_call 69; refine (template_zzContains.calls _ _ _ true _ HC.out).mono ?_; rintro e w1 ⟨rfl, ⟨nd, rfl⟩⟩) | (go_at_call 54; refine (template_partition.calls _ _ _ _ _ _ HP.out).mono ?_; rintro e w2 ⟨rfl, hb2⟩; have HE2 := Aside0.mk (HE.out.keep (Nat.le_refl _) (below_unN hb2)); have HB2 := Aside0.mk (below_unN hb2); clear hb2) | (go_at_call 52; refine (HL.out _ HE2.out).mono ?_; rintro e w3 ⟨rfl, rfl⟩; (try simp only [Option.getD_some, Option.getD_none, Option.isSome_some, Option.isSome_none])) | (go_at_call 34; refine (HI.out _ HE2.out).mono ?_; rintro e w4 ⟨v, rfl, he, hb4⟩; obtain ⟨TT, bb, rfl⟩ := he.form; have HR4 := Aside0.mk (he.lower HB2.out.size); have HB4 := Aside0.mk (HB2.out.trans (hb4.mono HB2.out.size)); clear hb4 he))
  go_ret3
  exact ⟨⟨_, _, _, rfl, HR4.out⟩, HB4.out⟩
set_option maxHeartbeats 4000000 in
set_option maxRecDepth 100000 in
theorem req_none_ok (p : Nat) (E : List (ByteArray × ByteArray)) (f : Bs → Ans) (x : Bs) (i : Nat) (w : World) (hx : x.length < 1152921504606846976) (hE : EnvAt w p E) (h : idx [63] x = some i) (hl : SM.look E (mk (x.take i)) = none) (IH : Subs f p E) (t : Bs) (hr : f (x.drop (i + 1)) = some (t, none)) :
    Calls Tryz.prog 131 #[.string (mk x), lk p, .string ⟨#[63]⟩, .func (.func 133) #[] #[]] w (OpTells w (some ([], some .missing))) := by
  have hs := size_small x hx
  have HC := Lib.hid (contains_l (mk x) ⟨#[63]⟩ ((mk x).size + 1) hs (by decide) (by decide) (Nat.le_refl _))
  have HP := Lib.hid (partition_l (mk x) ⟨#[63]⟩ ((mk x).size + 1) hs (by decide) (by decide) (Nat.le_refl _))
  rw [mk_data, show (⟨#[63]⟩ : ByteArray).data.toList = [63] from rfl] at HC HP
  rw [h, Option.isSome_some] at HC
  rw [show part [63] x = (x.take i, x.drop (i + 1)) by unfold part; rw [h]; rfl] at HP
  have HI := Lib.hid (fun W => IH _ _ W (by rw [List.length_drop]; omega) hr)
  have HE := Aside0.mk hE
  have HL := Lib.hid (fun W hW => look1 p E (mk (x.take i)) W hW)
  rw [hl] at HL
  clear h hs hE hl IH hr
  generalize mk (x.take i) = nm at HP HL
  go_enter Tryz.func131, Tryz.ntmps131
  go_wp2_with (first | (go_at_call 69; refine (template_zzContains.calls _ _ _ true _ HC.out).mono ?_; rintro e w1 ⟨rfl, ⟨nd, rfl⟩⟩) | (go_at_call 54; refine (template_partition.calls _ _ _ _ _ _ HP.out).mono ?_; rintro e w2 ⟨rfl, hb2⟩; have HE2 := Aside0.mk (HE.out.keep (Nat.le_refl _) (below_unN hb2)); have HB2 := Aside0.mk (below_unN hb2); clear hb2) | (go_at_call 52; refine (HL.out _ HE2.out).mono ?_; rintro e w3 ⟨rfl, rfl⟩; (try simp only [Option.getD_some, Option.getD_none, Option.isSome_some, Option.isSome_none])) | (go_at_call 34; refine (HI.out _ HE2.out).mono ?_; rintro e w4 ⟨v, rfl, rfl, hb4⟩; have HB4 := Aside0.mk (HB2.out.trans (hb4.mono HB2.out.size)); clear hb4))
  go_ret3
  exact ⟨⟨_, _, _, rfl, ⟨_, _, _, rfl, HB4.out.size, (MapKept.heap_alloc _ _).1⟩⟩, HB4.out.alloc HB4.out.size _⟩
set_option maxHeartbeats 4000000 in
set_option maxRecDepth 100000 in
theorem req_none_err (p : Nat) (E : List (ByteArray × ByteArray)) (f : Bs → Ans) (x : Bs) (i : Nat) (w : World) (hx : x.length < 1152921504606846976) (hE : EnvAt w p E) (h : idx [63] x = some i) (hl : SM.look E (mk (x.take i)) = none) (IH : Subs f p E) (t : Bs) (c : Cls) (hr : f (x.drop (i + 1)) = some (t, some c)) :
    Calls Tryz.prog 131 #[.string (mk x), lk p, .string ⟨#[63]⟩, .func (.func 133) #[] #[]] w (OpTells w (some ([], some c))) := by
  have hs := size_small x hx
  have HC := Lib.hid (contains_l (mk x) ⟨#[63]⟩ ((mk x).size + 1) hs (by decide) (by decide) (Nat.le_refl _))
  have HP := Lib.hid (partition_l (mk x) ⟨#[63]⟩ ((mk x).size + 1) hs (by decide) (by decide) (Nat.le_refl _))
  rw [mk_data, show (⟨#[63]⟩ : ByteArray).data.toList = [63] from rfl] at HC HP
  rw [h, Option.isSome_some] at HC
  rw [show part [63] x = (x.take i, x.drop (i + 1)) by unfold part; rw [h]; rfl] at HP
  have HI := Lib.hid (fun W => IH _ _ W (by rw [List.length_drop]; omega) hr)
  have HE := Aside0.mk hE
  have HL := Lib.hid (fun W hW => look1 p E (mk (x.take i)) W hW)
  rw [hl] at HL
  clear h hs hE hl IH hr
  generalize mk (x.take i) = nm at HP HL
  go_enter Tryz.func131, Tryz.ntmps131
  go_wp2_with (first | (go_at_call 69; refine (template_zzContains.calls _ _ _ true _ HC.out).mono ?_; rintro e w1 ⟨rfl, ⟨nd, rfl⟩⟩) | (go_at_call 54; refine (template_partition.calls _ _ _ _ _ _ HP.out).mono ?_; rintro e w2 ⟨rfl, hb2⟩; have HE2 := Aside0.mk (HE.out.keep (Nat.le_refl _) (below_unN hb2)); have HB2 := Aside0.mk (below_unN hb2); clear hb2) | (go_at_call 52; refine (HL.out _ HE2.out).mono ?_; rintro e w3 ⟨rfl, rfl⟩; (try simp only [Option.getD_some, Option.getD_none, Option.isSome_some, Option.isSome_none])) | (go_at_call 34; refine (HI.out _ HE2.out).mono ?_; rintro e w4 ⟨v, rfl, he, hb4⟩; obtain ⟨TT, bb, rfl⟩ := he.form; have HR4 := Aside0.mk (he.lower HB2.out.size); have HB4 := Aside0.mk (HB2.out.trans (hb4.mono HB2.out.size)); clear hb4 he))
  go_ret3
  exact ⟨⟨_, _, _, rfl, HR4.out⟩, HB4.out⟩
set_option maxHeartbeats 4000000 in
set_option maxRecDepth 100000 in
theorem req_full (p : Nat) (E : List (ByteArray × ByteArray)) (f : Bs → Ans) (x : Bs) (i : Nat) (w : World) (hx : x.length < 1152921504606846976) (hE : EnvAt w p E) (h : idx [63] x = some i) (y : ByteArray) (hl : SM.look E (mk (x.take i)) = some y) :
    Calls Tryz.prog 131 #[.string (mk x), lk p, .string ⟨#[63]⟩, .func (.func 133) #[] #[]] w (OpTells w (some (y.data.toList, none))) := by
  have hs := size_small x hx
  have HC := Lib.hid (contains_l (mk x) ⟨#[63]⟩ ((mk x).size + 1) hs (by decide) (by decide) (Nat.le_refl _))
  have HP := Lib.hid (partition_l (mk x) ⟨#[63]⟩ ((mk x).size + 1) hs (by decide) (by decide) (Nat.le_refl _))
  rw [mk_data, show (⟨#[63]⟩ : ByteArray).data.toList = [63] from rfl] at HC HP
  rw [h, Option.isSome_some] at HC
  rw [show part [63] x = (x.take i, x.drop (i + 1)) by unfold part; rw [h]; rfl] at HP
  have HE := Aside0.mk hE
  have HL := Lib.hid (fun W hW => look1 p E (mk (x.take i)) W hW)
  rw [hl] at HL
  clear h hs hE hl
  have hmy : mk y.data.toList = y := mk_of y
  generalize mk (x.take i) = nm at HP HL
  go_enter Tryz.func131, Tryz.ntmps131
  go_wp2_with (first | (go_at_call 69; refine (template_zzContains.calls _ _ _ true _ HC.out).mono ?_; rintro e w1 ⟨rfl, ⟨nd, rfl⟩⟩) | (go_at_call 54; refine (template_partition.calls _ _ _ _ _ _ HP.out).mono ?_; rintro e w2 ⟨rfl, hb2⟩; have HE2 := Aside0.mk (HE.out.keep (Nat.le_refl _) (below_unN hb2)); have HB2 := Aside0.mk (below_unN hb2); clear hb2) | (go_at_call 52; refine (HL.out _ HE2.out).mono ?_; rintro e w3 ⟨rfl, rfl⟩; (try simp only [Option.getD_some, Option.getD_none, Option.isSome_some, Option.isSome_none])) | (go_at_call 133; refine (validU _ _).mono ?_; rintro e w5 ⟨rfl, rfl⟩))
  go_ret3
  exact ⟨by first | rfl | (rw [hmy]), HB2.out⟩
end Go.Proofs.YtlncdacoefoldaaGreatDoor.U
