/- Walks: what stands in the place of a match. -/
import Derived.Test.YtlncdacoefoldaaGreatDoorSubX
import Derived.Test.YtlncdacoefoldaaGreatDoorMrg4
namespace Go.Proofs.YtlncdacoefoldaaGreatDoor.U
set_option linter.unusedVariables false
set_option linter.unusedSimpArgs false
set_option linter.unusedSectionVars false
open Go.RowKit Go.Proofs.YtlncdacoefoldaaGreatDoorW.PrintWords Go.Proofs.YtlncdacoefoldaaGreatDoorW.PrintLast Go.Proofs.YtlncdacoefoldaaGreatDoor.PX Go.Proofs.YtlncdacoefoldaaGreatDoor.SM Go.Proofs.YtlncdacoefoldaaGreatDoor.L

theorem op_all (i0 : Fin 6) (p : Nat) (E : List (ByteArray × ByteArray)) (f : Bs → Ans) (IH : Subs f p E) (x : Bs) (w : World) (hx : x.length < 1152921504606846976) (hE : EnvAt w p E) (a : Option (Bs × Option Cls)) (h : wordA f (envOf E) (sx i0).1.data.toList x = some a) :
    Calls Tryz.prog (sx i0).2 #[.string (mk x), lk p] w (OpTells w a) := by
  match i0, h with
  | 0, h => exact op_reqc p E f IH x w hx hE a h
  | 1, h => exact op_req p E f IH x w hx hE a h
  | 2, h => exact op_absc p E f IH x w hx hE a h
  | 3, h => exact op_abs p E f IH x w hx hE a h
  | 4, h => exact op_prec p E f IH x w hx hE a h
  | 5, h => exact op_pre p E f IH x w hx hE a h
theorem enters_all (i0 : Fin 6) : ∀ args w, (callFunc (sx i0).2 args).run Tryz.prog w = .ok (.enter (sx i0).2 args) w := by
  match i0 with
  | 0 => exact Go.Proofs.enters_of Tryz.func123 (by kernel_rfl) rfl
  | 1 => exact Go.Proofs.enters_of Tryz.func124 (by kernel_rfl) rfl
  | 2 => exact Go.Proofs.enters_of Tryz.func125 (by kernel_rfl) rfl
  | 3 => exact Go.Proofs.enters_of Tryz.func126 (by kernel_rfl) rfl
  | 4 => exact Go.Proofs.enters_of Tryz.func127 (by kernel_rfl) rfl
  | 5 => exact Go.Proofs.enters_of Tryz.func128 (by kernel_rfl) rfl
theorem fb_lt : ∀ (l : Bs) (d : Int) (b : Bool) (i : Nat), fb l d b = some i → i < l.length
  | [], d, b, i, h => by cases b <;> cases h
  | c :: r, d, true, i, h => by
    rw [fb] at h
    obtain ⟨j, hj, rfl⟩ := map_some h
    have := fb_lt r d false j hj
    simp; omega
  | c :: r, d, false, i, h => by
    rw [fb] at h
    split at h
    · split at h
      · injection h with h; subst h; simp
      · obtain ⟨j, hj, rfl⟩ := map_some h
        have := fb_lt r _ _ j hj
        simp; omega
    · split at h
      · obtain ⟨j, hj, rfl⟩ := map_some h
        have := fb_lt r _ _ j hj
        simp; omega
      · obtain ⟨j, hj, rfl⟩ := map_some h
        have := fb_lt r _ _ j hj
        simp; omega
/-- the options that the substitution goes by -/
def CfgAt (w : World) (q : Nat) : Prop := w.heap[q]? = some (.cells #[.nilFunc, .func (.func 94) #[] #[], .bool true] 158 (0, 0))
theorem part0 {w : World} {q : Nat} (h : CfgAt w q) : (partAt ⟨q, 0, none⟩ 0 0).run Tryz.prog w = .ok ⟨q, 0, none⟩ w := by
  unfold CfgAt at h
  have hb : byteOfCell Tryz.prog Tryz.prog.depth 158 0 = some 0 := by kernel_rfl
  have hc : Tryz.prog.cellsOf 158 = 3 := by kernel_rfl
  simp [partAt, byteOf, noView, viewAt, Sem.run_bind, Result.andThen, World.shape?, h, hb, hc]
theorem nilF (w : World) : (binOp .eql 125 .nilFunc .nilFunc).run Tryz.prog w = .ok (.bool true) w := by kernel_rfl
theorem CfgAt.below {w w' : World} {q : Nat} (h : CfgAt w q) (hb : Below w.heap.size w w') : CfgAt w' q := (hb.block q (lt_of_heap h)).trans h
/-- what the replacement's function tells, its flag aside -/
def RepTells (w : World) (a : Bs × Option Cls) (e : Ending) (w' : World) : Prop := ∃ b v, e = .returned (.tuple #[.string (mk a.1), .bool b, v]) ∧ ErrIs w.heap.size w' v a.2 ∧ Below w.heap.size w w'
theorem full_facts {l : Bs} (h : l ≠ []) : (mk l).toList.isEmpty = false ∧ ((mk l).toList == []) = false ∧ ((mk l).toList != []) = true := by
  rw [mk_toList]
  cases l with
  | nil => exact absurd rfl h
  | cons c r => exact ⟨rfl, rfl, rfl⟩
theorem look2 (p : Nat) (E : List (ByteArray × ByteArray)) (n : Bs) (w : World) (h : EnvAt w p E) :
    Calls Tryz.prog 52 #[.string (mk n), .pointer (some ⟨p, 0, none⟩)] w fun e w' => e = .returned (.tuple #[.string (mk ((envOf E n).getD [])), .bool (envOf E n).isSome]) ∧ w = w' := by
  refine (look1 p E (mk n) w h).mono ?_
  rintro e w' ⟨rfl, rfl⟩
  refine ⟨?_, rfl⟩
  unfold envOf
  cases SM.look E (mk n) with
  | none => rfl
  | some v => simp [mk_of]
/-- the substitution by SubstituteWith -/
def SubsW (f : Bs → Ans) (p : Nat) (E : List (ByteArray × ByteArray)) : Prop := ∀ (t : Bs) (a : Bs × Option Cls) (w : World), t.length < 1152921504606846976 → f t = some a → EnvAt w p E → Calls Tryz.prog 50 #[.string (mk t), lk p, .agg #[], .slice none 0 0] w (Tells w a)
theorem mk_app (a b : Bs) : mk (a ++ b) = mk a ++ mk b := by
  apply data_inj
  rw [mk_data, ByteArray.data_append, Array.toList_append, mk_data, mk_data]
theorem braced_infix (r : Bs) : (bracedM r).braced <:+: r := by
  unfold bracedM
  split
  · exact List.nil_infix
  · split
    · exact (List.take_prefix _ _).isInfix
    · split
      · exact List.nil_infix
      · split
        · exact List.nil_infix
        · exact (List.take_prefix _ _).isInfix
theorem at_braced_infix (l : Bs) (m : M) (h : atM l = some m) : m.braced <:+: l := by
  match l, h with
  | c :: d :: r, h =>
    rw [atM] at h
    split at h
    · cases h
    · split at h
      · injection h with h; subst h; exact List.nil_infix
      · split at h
        · injection h with h; subst h; exact List.nil_infix
        · split at h
          · cases h
          · injection h with h
            subst h
            exact (braced_infix r).trans (((List.suffix_cons d r).trans (List.suffix_cons c (d :: r))).isInfix)
theorem find_infix : ∀ (l : Bs) (m : M), find l = some m → m.braced <:+: l
  | c :: r, m, h => by
    rw [find] at h
    cases e : atM (c :: r) with
    | some m' =>
      rw [e] at h
      injection h with h
      subst h
      exact at_braced_infix _ _ e
    | none =>
      rw [e] at h
      exact (find_infix r m h).trans (List.suffix_cons c r).isInfix
theorem find_braced (l : Bs) (m : M) (h : find l = some m) : m.braced.length ≤ l.length := (find_infix l m h).length_le
set_option maxHeartbeats 4000000 in
set_option maxRecDepth 100000 in
theorem rep_esc_n (p q : Nat) (E : List (ByteArray × ByteArray)) (t : Bs) (w : World) (ht : t.length < 1152921504606846976) (hE : EnvAt w p E) (hq : CfgAt w q) (hf : fb t 0 false = none) (m : M) (hm : find t = some m) (he : m.esc ≠ []) :
    Calls Tryz.prog 112 #[.string (mk t), lk p, .pointer (some ⟨q, 0, none⟩)] w (RepTells w (m.esc, none)) := by
  have hs := size_small t ht
  have HG := Lib.hid (fun W => get_sub (mk t) hs W)
  have HF := Lib.hid (fb_l (mk t) ((mk t).size + 2) (by omega) (Nat.le_refl _))
  rw [mk_data, hf, show fbI 0 none = -1 from rfl] at HF
  have HM := Lib.hid (fun W => find_calls (mk t) m W hs (by rw [mk_data]; exact hm))
  have hp0 := part0 hq
  have hnf := nilF
  have hql : q < w.heap.size := lt_of_heap hq
  have c0 : w.cell? ⟨q, 0, none⟩ = some .nilFunc := by have h := hq; unfold CfgAt at h; simp [World.cell?, h]
  have hze := zeroStr
  have HL := Lib.hid (look_esc m)
  have HE := Aside0.mk hE
  obtain ⟨e1, e2, e3⟩ := full_facts he
  clear hf hm hq ht he hE hs
  go_enter Tryz.func112, Tryz.ntmps112
  go_wp2_with (first | (go_at_call 118; refine (HG.out _).mono ?_; rintro e w1 ⟨i0, rfl, hsg, hb⟩; have HSG := Lib.hid hsg; have HB1 := Aside0.mk (((Below.refl w.heap.size w).alloc (Nat.le_refl _) (Obj.cells #[] 82)).trans (hb.mono (by simp))); clear hsg hb) | (go_at_call 103; refine (template_getFirstBraceClosingIndex.calls _ _ _ _ HF.out).mono ?_; rintro e w' ⟨rfl, ⟨nd, rfl⟩⟩) | (go_at_call 119; refine (HM.out _).mono ?_; rintro e w2 ⟨A, c', rfl, hc, hb⟩; have HC := Aside0.mk hc; have HB2 := Aside0.mk (HB1.out.trans (((below_unN hb)).mono HB1.out.size)); clear hc hb) | (go_at_call 102; refine (groups_calls A c' m _ HC.out).mono ?_; rintro e w3 ⟨b, rfl, hm3, hb⟩; have HM3 := Aside0.mk hm3; have HB3 := Aside0.mk (HB2.out.trans (hb.mono HB2.out.size)); have HE3 := Aside0.mk (HE.out.keep (Nat.le_refl _) HB3.out); clear hm3 hb) | (at_lookup; refine wp_look rfl _ _ false rfl Tryz.underlying95 Tryz.underlying9 rfl HM3.out nEsc rfl (hze _) ?_; rw [if_neg (by decide), HL.out]; simp only [Option.map_some, Option.getD_some]))
  go_ret3
  exact ⟨_, _, rfl, rfl, HB3.out⟩
set_option maxHeartbeats 4000000 in
set_option maxRecDepth 100000 in
theorem rep_esc_s (p q : Nat) (E : List (ByteArray × ByteArray)) (t : Bs) (w : World) (ht : t.length < 1152921504606846976) (hE : EnvAt w p E) (hq : CfgAt w q) (i : Nat) (hf : fb t 0 false = some i) (m : M) (hm : find (t.take (i + 1)) = some m) (he : m.esc ≠ []) :
    Calls Tryz.prog 112 #[.string (mk t), lk p, .pointer (some ⟨q, 0, none⟩)] w (RepTells w (m.esc, none)) := by
  have hs := size_small t ht
  have HG := Lib.hid (fun W => get_sub (mk t) hs W)
  have HF := Lib.hid (fb_l (mk t) ((mk t).size + 2) (by omega) (Nat.le_refl _))
  rw [mk_data, hf, show fbI 0 (some i) = (i : Int) by show ((0 + i : Nat) : Int) = i; rw [Nat.zero_add]] at HF
  have hil := fb_lt t 0 false i hf
  have x1 : (mk t).extract (i + 1) (mk t).size = mk (t.drop (i + 1)) := by rw [extract_end, mk_data]
  have x2 : (mk t).extract 0 (i + 1) = mk (t.take (i + 1)) := by rw [extract_start, mk_data]
  have i0' : (-1 : Int) < (i : Int) := by omega
  have i1' : (0 : Int) ≤ (i : Int) := by omega
  have i2' : (i : Int) + 1 ≤ ((mk t).size : Int) := by rw [mk_size]; omega
  have i3' : ((mk t).size : Int) ≤ 1152921504606846976 := by rw [mk_size]; omega
  have hs2 : (mk (t.take (i + 1))).size < 2305843009213693952 := by rw [mk_size, List.length_take]; omega
  have HM := Lib.hid (fun W => find_calls (mk (t.take (i + 1))) m W hs2 (by rw [mk_data]; exact hm))
  have hp0 := part0 hq
  have hnf := nilF
  have hql : q < w.heap.size := lt_of_heap hq
  have c0 : w.cell? ⟨q, 0, none⟩ = some .nilFunc := by have h := hq; unfold CfgAt at h; simp [World.cell?, h]
  have hze := zeroStr
  have HL := Lib.hid (look_esc m)
  have HE := Aside0.mk hE
  obtain ⟨e1, e2, e3⟩ := full_facts he
  clear hf hm hq ht he hE hil hs2 hs
  go_enter Tryz.func112, Tryz.ntmps112
  go_wp2_with (first | (go_at_call 118; refine (HG.out _).mono ?_; rintro e w1 ⟨i0, rfl, hsg, hb⟩; have HSG := Lib.hid hsg; have HB1 := Aside0.mk (((Below.refl w.heap.size w).alloc (Nat.le_refl _) (Obj.cells #[] 82)).trans (hb.mono (by simp))); clear hsg hb) | (go_at_call 103; refine (template_getFirstBraceClosingIndex.calls _ _ _ _ HF.out).mono ?_; rintro e w' ⟨rfl, ⟨nd, rfl⟩⟩) | (go_at_call 119; refine (HM.out _).mono ?_; rintro e w2 ⟨A, c', rfl, hc, hb⟩; have HC := Aside0.mk hc; have HB2 := Aside0.mk (HB1.out.trans (((below_unN hb)).mono HB1.out.size)); clear hc hb) | (go_at_call 102; refine (groups_calls A c' m _ HC.out).mono ?_; rintro e w3 ⟨b, rfl, hm3, hb⟩; have HM3 := Aside0.mk hm3; have HB3 := Aside0.mk (HB2.out.trans (hb.mono HB2.out.size)); have HE3 := Aside0.mk (HE.out.keep (Nat.le_refl _) HB3.out); clear hm3 hb) | (at_lookup; refine wp_look rfl _ _ false rfl Tryz.underlying95 Tryz.underlying9 rfl HM3.out nEsc rfl (hze _) ?_; rw [if_neg (by decide), HL.out]; simp only [Option.map_some, Option.getD_some]))
  go_ret3
  exact ⟨_, _, rfl, rfl, HB3.out⟩
set_option maxHeartbeats 4000000 in
set_option maxRecDepth 100000 in
theorem rep_named_n (p q : Nat) (E : List (ByteArray × ByteArray)) (t : Bs) (w : World) (ht : t.length < 1152921504606846976) (hE : EnvAt w p E) (hq : CfgAt w q) (hf : fb t 0 false = none) (m : M) (hm : find t = some m) (he : m.esc = []) (hn : m.named ≠ []) :
    Calls Tryz.prog 112 #[.string (mk t), lk p, .pointer (some ⟨q, 0, none⟩)] w (RepTells w ((envOf E m.named).getD [], none)) := by
  have hs := size_small t ht
  have HG := Lib.hid (fun W => get_sub (mk t) hs W)
  have HF := Lib.hid (fb_l (mk t) ((mk t).size + 2) (by omega) (Nat.le_refl _))
  rw [mk_data, hf, show fbI 0 none = -1 from rfl] at HF
  have HM := Lib.hid (fun W => find_calls (mk t) m W hs (by rw [mk_data]; exact hm))
  have hp0 := part0 hq
  have hnf := nilF
  have hql : q < w.heap.size := lt_of_heap hq
  have c0 : w.cell? ⟨q, 0, none⟩ = some .nilFunc := by have h := hq; unfold CfgAt at h; simp [World.cell?, h]
  have hze := zeroStr
  have HL := Lib.hid (look_esc m)
  have HE := Aside0.mk hE
  rw [he, mk_nil] at HL
  have HL2 := Lib.hid (look_named m)
  obtain ⟨e1, e2, e3⟩ := full_facts hn
  have HK := Lib.hid (fun W hW => look2 p E m.named W hW)
  clear hf hm hq ht he hE hn hs
  go_enter Tryz.func112, Tryz.ntmps112
  go_wp2_with (first | (go_at_call 118; refine (HG.out _).mono ?_; rintro e w1 ⟨i0, rfl, hsg, hb⟩; have HSG := Lib.hid hsg; have HB1 := Aside0.mk (((Below.refl w.heap.size w).alloc (Nat.le_refl _) (Obj.cells #[] 82)).trans (hb.mono (by simp))); clear hsg hb) | (go_at_call 103; refine (template_getFirstBraceClosingIndex.calls _ _ _ _ HF.out).mono ?_; rintro e w' ⟨rfl, ⟨nd, rfl⟩⟩) | (go_at_call 119; refine (HM.out _).mono ?_; rintro e w2 ⟨A, c', rfl, hc, hb⟩; have HC := Aside0.mk hc; have HB2 := Aside0.mk (HB1.out.trans (((below_unN hb)).mono HB1.out.size)); clear hc hb) | (go_at_call 102; refine (groups_calls A c' m _ HC.out).mono ?_; rintro e w3 ⟨b, rfl, hm3, hb⟩; have HM3 := Aside0.mk hm3; have HB3 := Aside0.mk (HB2.out.trans (hb.mono HB2.out.size)); have HE3 := Aside0.mk (HE.out.keep (Nat.le_refl _) HB3.out); clear hm3 hb) | (at_lookup; refine wp_look rfl _ _ false rfl Tryz.underlying95 Tryz.underlying9 rfl HM3.out nEsc rfl (hze _) ?_; rw [if_neg (by decide), HL.out]; simp only [Option.map_some, Option.getD_some]) | (at_lookup; refine wp_look rfl _ _ false rfl Tryz.underlying95 Tryz.underlying9 rfl HM3.out nNamed rfl (hze _) ?_; rw [if_neg (by decide), HL2.out]; simp only [Option.map_some, Option.getD_some]) | (go_at_call 52; refine (HK.out _ HE3.out).mono ?_; rintro e w5 ⟨rfl, rfl⟩))
  go_ret3
  exact ⟨_, _, rfl, rfl, HB3.out⟩
set_option maxHeartbeats 4000000 in
set_option maxRecDepth 100000 in
theorem rep_named_s (p q : Nat) (E : List (ByteArray × ByteArray)) (t : Bs) (w : World) (ht : t.length < 1152921504606846976) (hE : EnvAt w p E) (hq : CfgAt w q) (i : Nat) (hf : fb t 0 false = some i) (m : M) (hm : find (t.take (i + 1)) = some m) (he : m.esc = []) (hn : m.named ≠ []) :
    Calls Tryz.prog 112 #[.string (mk t), lk p, .pointer (some ⟨q, 0, none⟩)] w (RepTells w ((envOf E m.named).getD [], none)) := by
  have hs := size_small t ht
  have HG := Lib.hid (fun W => get_sub (mk t) hs W)
  have HF := Lib.hid (fb_l (mk t) ((mk t).size + 2) (by omega) (Nat.le_refl _))
  rw [mk_data, hf, show fbI 0 (some i) = (i : Int) by show ((0 + i : Nat) : Int) = i; rw [Nat.zero_add]] at HF
  have hil := fb_lt t 0 false i hf
  have x1 : (mk t).extract (i + 1) (mk t).size = mk (t.drop (i + 1)) := by rw [extract_end, mk_data]
  have x2 : (mk t).extract 0 (i + 1) = mk (t.take (i + 1)) := by rw [extract_start, mk_data]
  have i0' : (-1 : Int) < (i : Int) := by omega
  have i1' : (0 : Int) ≤ (i : Int) := by omega
  have i2' : (i : Int) + 1 ≤ ((mk t).size : Int) := by rw [mk_size]; omega
  have i3' : ((mk t).size : Int) ≤ 1152921504606846976 := by rw [mk_size]; omega
  have hs2 : (mk (t.take (i + 1))).size < 2305843009213693952 := by rw [mk_size, List.length_take]; omega
  have HM := Lib.hid (fun W => find_calls (mk (t.take (i + 1))) m W hs2 (by rw [mk_data]; exact hm))
  have hp0 := part0 hq
  have hnf := nilF
  have hql : q < w.heap.size := lt_of_heap hq
  have c0 : w.cell? ⟨q, 0, none⟩ = some .nilFunc := by have h := hq; unfold CfgAt at h; simp [World.cell?, h]
  have hze := zeroStr
  have HL := Lib.hid (look_esc m)
  have HE := Aside0.mk hE
  rw [he, mk_nil] at HL
  have HL2 := Lib.hid (look_named m)
  obtain ⟨e1, e2, e3⟩ := full_facts hn
  have HK := Lib.hid (fun W hW => look2 p E m.named W hW)
  clear hf hm hq ht he hE hn hil hs2 hs
  go_enter Tryz.func112, Tryz.ntmps112
  go_wp2_with (first | (go_at_call 118; refine (HG.out _).mono ?_; rintro e w1 ⟨i0, rfl, hsg, hb⟩; have HSG := Lib.hid hsg; have HB1 := Aside0.mk (((Below.refl w.heap.size w).alloc (Nat.le_refl _) (Obj.cells #[] 82)).trans (hb.mono (by simp))); clear hsg hb) | (go_at_call 103; refine (template_getFirstBraceClosingIndex.calls _ _ _ _ HF.out).mono ?_; rintro e w' ⟨rfl, ⟨nd, rfl⟩⟩) | (go_at_call 119; refine (HM.out _).mono ?_; rintro e w2 ⟨A, c', rfl, hc, hb⟩; have HC := Aside0.mk hc; have HB2 := Aside0.mk (HB1.out.trans (((below_unN hb)).mono HB1.out.size)); clear hc hb) | (go_at_call 102; refine (groups_calls A c' m _ HC.out).mono ?_; rintro e w3 ⟨b, rfl, hm3, hb⟩; have HM3 := Aside0.mk hm3; have HB3 := Aside0.mk (HB2.out.trans (hb.mono HB2.out.size)); have HE3 := Aside0.mk (HE.out.keep (Nat.le_refl _) HB3.out); clear hm3 hb) | (at_lookup; refine wp_look rfl _ _ false rfl Tryz.underlying95 Tryz.underlying9 rfl HM3.out nEsc rfl (hze _) ?_; rw [if_neg (by decide), HL.out]; simp only [Option.map_some, Option.getD_some]) | (at_lookup; refine wp_look rfl _ _ false rfl Tryz.underlying95 Tryz.underlying9 rfl HM3.out nNamed rfl (hze _) ?_; rw [if_neg (by decide), HL2.out]; simp only [Option.map_some, Option.getD_some]) | (go_at_call 52; refine (HK.out _ HE3.out).mono ?_; rintro e w5 ⟨rfl, rfl⟩))
  go_ret3
  exact ⟨_, _, rfl, rfl, HB3.out⟩
set_option maxHeartbeats 4000000 in
set_option maxRecDepth 100000 in
theorem rep_miss_n (p q : Nat) (E : List (ByteArray × ByteArray)) (f : Bs → Ans) (IH : Subs f p E) (IW : SubsW f p E) (t : Bs) (w : World) (ht : t.length < 1152921504606846976) (hE : EnvAt w p E) (hq : CfgAt w q) (hf : fb t 0 false = none) (m : M) (hm : find t = some m) (he : m.esc = []) (hn : m.named = []) (hb : m.braced ≠ []) (ho : ∀ i0 : Fin 6, (∀ s, signOf t = some s → (sx i0).1.data.toList = s) → wordA f (envOf E) (sx i0).1.data.toList m.braced = some (none)) :
    Calls Tryz.prog 112 #[.string (mk t), lk p, .pointer (some ⟨q, 0, none⟩)] w (RepTells w ((envOf E m.braced).getD [], none)) := by
  have hs := size_small t ht
  have HG := Lib.hid (fun W => get_sub (mk t) hs W)
  have HF := Lib.hid (fb_l (mk t) ((mk t).size + 2) (by omega) (Nat.le_refl _))
  rw [mk_data, hf, show fbI 0 none = -1 from rfl] at HF
  have HM := Lib.hid (fun W => find_calls (mk t) m W hs (by rw [mk_data]; exact hm))
  have hp0 := part0 hq
  have hnf := nilF
  have hql : q < w.heap.size := lt_of_heap hq
  have c0 : w.cell? ⟨q, 0, none⟩ = some .nilFunc := by have h := hq; unfold CfgAt at h; simp [World.cell?, h]
  have hze := zeroStr
  have HL := Lib.hid (look_esc m)
  have HE := Aside0.mk hE
  rw [he, mk_nil] at HL
  have HL2 := Lib.hid (look_named m)
  rw [hn, mk_nil] at HL2
  have HL3 := Lib.hid (look_braced m)
  obtain ⟨e1, e2, e3⟩ := full_facts hb
  have HK := Lib.hid (fun W hW => look2 p E m.braced W hW)
  have hbl : m.braced.length < 1152921504606846976 := by have := find_braced _ _ hm;  omega
  have HO := Lib.hid (fun (i0 : Fin 6) (hsg : ∀ s, signOf (mk t).data.toList = some s → (sx i0).1.data.toList = s) W hW => op_all i0 p E f IH m.braced W hbl hW _ (ho i0 (by rw [mk_data] at hsg; exact hsg)))
  have HEN := Lib.hid enters_all
  clear hf hm hq ht he hE hn hb ho IH IW hbl hs
  go_enter Tryz.func112, Tryz.ntmps112
  go_wp2_with (first | (go_at_call 118; refine (HG.out _).mono ?_; rintro e w1 ⟨i0, rfl, hsg, hb⟩; have HSG := Lib.hid hsg; have HB1 := Aside0.mk (((Below.refl w.heap.size w).alloc (Nat.le_refl _) (Obj.cells #[] 82)).trans (hb.mono (by simp))); clear hsg hb; have hent := HEN.out i0) | (go_at_call 103; refine (template_getFirstBraceClosingIndex.calls _ _ _ _ HF.out).mono ?_; rintro e w' ⟨rfl, ⟨nd, rfl⟩⟩) | (go_at_call 119; refine (HM.out _).mono ?_; rintro e w2 ⟨A, c', rfl, hc, hb⟩; have HC := Aside0.mk hc; have HB2 := Aside0.mk (HB1.out.trans (((below_unN hb)).mono HB1.out.size)); clear hc hb) | (go_at_call 102; refine (groups_calls A c' m _ HC.out).mono ?_; rintro e w3 ⟨b, rfl, hm3, hb⟩; have HM3 := Aside0.mk hm3; have HB3 := Aside0.mk (HB2.out.trans (hb.mono HB2.out.size)); have HE3 := Aside0.mk (HE.out.keep (Nat.le_refl _) HB3.out); clear hm3 hb) | (at_lookup; refine wp_look rfl _ _ false rfl Tryz.underlying95 Tryz.underlying9 rfl HM3.out nEsc rfl (hze _) ?_; rw [if_neg (by decide), HL.out]; simp only [Option.map_some, Option.getD_some]) | (at_lookup; refine wp_look rfl _ _ false rfl Tryz.underlying95 Tryz.underlying9 rfl HM3.out nNamed rfl (hze _) ?_; rw [if_neg (by decide), HL2.out]; simp only [Option.map_some, Option.getD_some]) | (at_lookup; refine wp_look rfl _ _ false rfl Tryz.underlying95 Tryz.underlying9 rfl HM3.out nBraced rfl (hze _) ?_; rw [if_neg (by decide), HL3.out]; simp only [Option.map_some, Option.getD_some]) | ((with_reducible refine (HO.out i0 HSG.out _ HE3.out).mono ?_); rintro e w4 ⟨⟨s, rfl⟩, hb⟩; have HB4 := Aside0.mk (HB3.out.trans (hb.mono HB3.out.size)); have HE4 := Aside0.mk (HE.out.keep (Nat.le_refl _) HB4.out); clear hb) | (go_at_call 52; refine (HK.out _ HE4.out).mono ?_; rintro e w5 ⟨rfl, rfl⟩))
  go_ret3
  exact ⟨_, _, rfl, rfl, HB4.out⟩
set_option maxHeartbeats 4000000 in
set_option maxRecDepth 100000 in
theorem rep_miss_s (p q : Nat) (E : List (ByteArray × ByteArray)) (f : Bs → Ans) (IH : Subs f p E) (IW : SubsW f p E) (t : Bs) (w : World) (ht : t.length < 1152921504606846976) (hE : EnvAt w p E) (hq : CfgAt w q) (i : Nat) (hf : fb t 0 false = some i) (m : M) (hm : find (t.take (i + 1)) = some m) (he : m.esc = []) (hn : m.named = []) (hb : m.braced ≠ []) (ho : ∀ i0 : Fin 6, (∀ s, signOf t = some s → (sx i0).1.data.toList = s) → wordA f (envOf E) (sx i0).1.data.toList m.braced = some (none)) :
    Calls Tryz.prog 112 #[.string (mk t), lk p, .pointer (some ⟨q, 0, none⟩)] w (RepTells w ((envOf E m.braced).getD [], none)) := by
  have hs := size_small t ht
  have HG := Lib.hid (fun W => get_sub (mk t) hs W)
  have HF := Lib.hid (fb_l (mk t) ((mk t).size + 2) (by omega) (Nat.le_refl _))
  rw [mk_data, hf, show fbI 0 (some i) = (i : Int) by show ((0 + i : Nat) : Int) = i; rw [Nat.zero_add]] at HF
  have hil := fb_lt t 0 false i hf
  have x1 : (mk t).extract (i + 1) (mk t).size = mk (t.drop (i + 1)) := by rw [extract_end, mk_data]
  have x2 : (mk t).extract 0 (i + 1) = mk (t.take (i + 1)) := by rw [extract_start, mk_data]
  have i0' : (-1 : Int) < (i : Int) := by omega
  have i1' : (0 : Int) ≤ (i : Int) := by omega
  have i2' : (i : Int) + 1 ≤ ((mk t).size : Int) := by rw [mk_size]; omega
  have i3' : ((mk t).size : Int) ≤ 1152921504606846976 := by rw [mk_size]; omega
  have hs2 : (mk (t.take (i + 1))).size < 2305843009213693952 := by rw [mk_size, List.length_take]; omega
  have HM := Lib.hid (fun W => find_calls (mk (t.take (i + 1))) m W hs2 (by rw [mk_data]; exact hm))
  have hp0 := part0 hq
  have hnf := nilF
  have hql : q < w.heap.size := lt_of_heap hq
  have c0 : w.cell? ⟨q, 0, none⟩ = some .nilFunc := by have h := hq; unfold CfgAt at h; simp [World.cell?, h]
  have hze := zeroStr
  have HL := Lib.hid (look_esc m)
  have HE := Aside0.mk hE
  rw [he, mk_nil] at HL
  have HL2 := Lib.hid (look_named m)
  rw [hn, mk_nil] at HL2
  have HL3 := Lib.hid (look_braced m)
  obtain ⟨e1, e2, e3⟩ := full_facts hb
  have HK := Lib.hid (fun W hW => look2 p E m.braced W hW)
  have hbl : m.braced.length < 1152921504606846976 := by have := find_braced _ _ hm; have h2 : (t.take (i + 1)).length ≤ t.length := List.length_take_le' _ _; omega
  have HO := Lib.hid (fun (i0 : Fin 6) (hsg : ∀ s, signOf (mk t).data.toList = some s → (sx i0).1.data.toList = s) W hW => op_all i0 p E f IH m.braced W hbl hW _ (ho i0 (by rw [mk_data] at hsg; exact hsg)))
  have HEN := Lib.hid enters_all
  clear hf hm hq ht he hE hn hb ho IH IW hbl hil hs2 hs
  go_enter Tryz.func112, Tryz.ntmps112
  go_wp2_with (first | (go_at_call 118; refine (HG.out _).mono ?_; rintro e w1 ⟨i0, rfl, hsg, hb⟩; have HSG := Lib.hid hsg; have HB1 := Aside0.mk (((Below.refl w.heap.size w).alloc (Nat.le_refl _) (Obj.cells #[] 82)).trans (hb.mono (by simp))); clear hsg hb; have hent := HEN.out i0) | (go_at_call 103; refine (template_getFirstBraceClosingIndex.calls _ _ _ _ HF.out).mono ?_; rintro e w' ⟨rfl, ⟨nd, rfl⟩⟩) | (go_at_call 119; refine (HM.out _).mono ?_; rintro e w2 ⟨A, c', rfl, hc, hb⟩; have HC := Aside0.mk hc; have HB2 := Aside0.mk (HB1.out.trans (((below_unN hb)).mono HB1.out.size)); clear hc hb) | (go_at_call 102; refine (groups_calls A c' m _ HC.out).mono ?_; rintro e w3 ⟨b, rfl, hm3, hb⟩; have HM3 := Aside0.mk hm3; have HB3 := Aside0.mk (HB2.out.trans (hb.mono HB2.out.size)); have HE3 := Aside0.mk (HE.out.keep (Nat.le_refl _) HB3.out); clear hm3 hb) | (at_lookup; refine wp_look rfl _ _ false rfl Tryz.underlying95 Tryz.underlying9 rfl HM3.out nEsc rfl (hze _) ?_; rw [if_neg (by decide), HL.out]; simp only [Option.map_some, Option.getD_some]) | (at_lookup; refine wp_look rfl _ _ false rfl Tryz.underlying95 Tryz.underlying9 rfl HM3.out nNamed rfl (hze _) ?_; rw [if_neg (by decide), HL2.out]; simp only [Option.map_some, Option.getD_some]) | (at_lookup; refine wp_look rfl _ _ false rfl Tryz.underlying95 Tryz.underlying9 rfl HM3.out nBraced rfl (hze _) ?_; rw [if_neg (by decide), HL3.out]; simp only [Option.map_some, Option.getD_some]) | ((with_reducible refine (HO.out i0 HSG.out _ HE3.out).mono ?_); rintro e w4 ⟨⟨s, rfl⟩, hb⟩; have HB4 := Aside0.mk (HB3.out.trans (hb.mono HB3.out.size)); have HE4 := Aside0.mk (HE.out.keep (Nat.le_refl _) HB4.out); clear hb) | (go_at_call 52; refine (HK.out _ HE4.out).mono ?_; rintro e w5 ⟨rfl, rfl⟩))
  go_ret3
  exact ⟨_, _, rfl, rfl, HB4.out⟩
set_option maxHeartbeats 4000000 in
set_option maxRecDepth 100000 in
theorem rep_ok_n (p q : Nat) (E : List (ByteArray × ByteArray)) (f : Bs → Ans) (IH : Subs f p E) (IW : SubsW f p E) (t : Bs) (w : World) (ht : t.length < 1152921504606846976) (hE : EnvAt w p E) (hq : CfgAt w q) (hf : fb t 0 false = none) (m : M) (hm : find t = some m) (he : m.esc = []) (hn : m.named = []) (hb : m.braced ≠ []) (v x : Bs) (ho : ∀ i0 : Fin 6, (∀ s, signOf t = some s → (sx i0).1.data.toList = s) → wordA f (envOf E) (sx i0).1.data.toList m.braced = some (some (v, none))) (hr : f [] = some (x, none)) (hvx : (v ++ x).length ≤ LIM) :
    Calls Tryz.prog 112 #[.string (mk t), lk p, .pointer (some ⟨q, 0, none⟩)] w (RepTells w (v ++ x, none)) := by
  have hs := size_small t ht
  have HG := Lib.hid (fun W => get_sub (mk t) hs W)
  have HF := Lib.hid (fb_l (mk t) ((mk t).size + 2) (by omega) (Nat.le_refl _))
  rw [mk_data, hf, show fbI 0 none = -1 from rfl] at HF
  have HM := Lib.hid (fun W => find_calls (mk t) m W hs (by rw [mk_data]; exact hm))
  have hp0 := part0 hq
  have hnf := nilF
  have hql : q < w.heap.size := lt_of_heap hq
  have c0 : w.cell? ⟨q, 0, none⟩ = some .nilFunc := by have h := hq; unfold CfgAt at h; simp [World.cell?, h]
  have hze := zeroStr
  have HL := Lib.hid (look_esc m)
  have HE := Aside0.mk hE
  rw [he, mk_nil] at HL
  have HL2 := Lib.hid (look_named m)
  rw [hn, mk_nil] at HL2
  have HL3 := Lib.hid (look_braced m)
  obtain ⟨e1, e2, e3⟩ := full_facts hb
  have hbl : m.braced.length < 1152921504606846976 := by have := find_braced _ _ hm;  omega
  have HO := Lib.hid (fun (i0 : Fin 6) (hsg : ∀ s, signOf (mk t).data.toList = some s → (sx i0).1.data.toList = s) W hW => op_all i0 p E f IH m.braced W hbl hW _ (ho i0 (by rw [mk_data] at hsg; exact hsg)))
  have HEN := Lib.hid enters_all
  have HR := Lib.hid (fun W hW => IW _ _ W (by decide) hr hW)
  rw [mk_nil] at HR
  have hcat : ¬ 9223372036854775807 < (mk v).size + (mk x).size := by rw [mk_size, mk_size]; rw [List.length_append] at hvx; unfold LIM at hvx; omega
  clear hvx
  clear hf hm hq ht he hE hn hb ho IH IW hbl hr hs
  go_enter Tryz.func112, Tryz.ntmps112
  go_wp2_with (first | (go_at_call 118; refine (HG.out _).mono ?_; rintro e w1 ⟨i0, rfl, hsg, hb⟩; have HSG := Lib.hid hsg; have HB1 := Aside0.mk (((Below.refl w.heap.size w).alloc (Nat.le_refl _) (Obj.cells #[] 82)).trans (hb.mono (by simp))); clear hsg hb; have hent := HEN.out i0) | (go_at_call 103; refine (template_getFirstBraceClosingIndex.calls _ _ _ _ HF.out).mono ?_; rintro e w' ⟨rfl, ⟨nd, rfl⟩⟩) | (go_at_call 119; refine (HM.out _).mono ?_; rintro e w2 ⟨A, c', rfl, hc, hb⟩; have HC := Aside0.mk hc; have HB2 := Aside0.mk (HB1.out.trans (((below_unN hb)).mono HB1.out.size)); clear hc hb) | (go_at_call 102; refine (groups_calls A c' m _ HC.out).mono ?_; rintro e w3 ⟨b, rfl, hm3, hb⟩; have HM3 := Aside0.mk hm3; have HB3 := Aside0.mk (HB2.out.trans (hb.mono HB2.out.size)); have HE3 := Aside0.mk (HE.out.keep (Nat.le_refl _) HB3.out); clear hm3 hb) | (at_lookup; refine wp_look rfl _ _ false rfl Tryz.underlying95 Tryz.underlying9 rfl HM3.out nEsc rfl (hze _) ?_; rw [if_neg (by decide), HL.out]; simp only [Option.map_some, Option.getD_some]) | (at_lookup; refine wp_look rfl _ _ false rfl Tryz.underlying95 Tryz.underlying9 rfl HM3.out nNamed rfl (hze _) ?_; rw [if_neg (by decide), HL2.out]; simp only [Option.map_some, Option.getD_some]) | (at_lookup; refine wp_look rfl _ _ false rfl Tryz.underlying95 Tryz.underlying9 rfl HM3.out nBraced rfl (hze _) ?_; rw [if_neg (by decide), HL3.out]; simp only [Option.map_some, Option.getD_some]) | ((with_reducible refine (HO.out i0 HSG.out _ HE3.out).mono ?_); rintro e w4 ⟨rfl, hb⟩; have HB4 := Aside0.mk (HB3.out.trans (hb.mono HB3.out.size)); have HE4 := Aside0.mk (HE.out.keep (Nat.le_refl _) HB4.out); clear hb) | (go_at_call 50; refine (HR.out _ HE4.out).mono ?_; rintro e w6 ⟨vv, rfl, rfl, hb⟩; have HB6 := Aside0.mk (HB4.out.trans (hb.mono HB4.out.size)); clear hb))
  go_ret3
  exact ⟨_, _, by rw [mk_app]; rfl, rfl, HB6.out⟩
set_option maxHeartbeats 4000000 in
set_option maxRecDepth 100000 in
theorem rep_ok_s (p q : Nat) (E : List (ByteArray × ByteArray)) (f : Bs → Ans) (IH : Subs f p E) (IW : SubsW f p E) (t : Bs) (w : World) (ht : t.length < 1152921504606846976) (hE : EnvAt w p E) (hq : CfgAt w q) (i : Nat) (hf : fb t 0 false = some i) (m : M) (hm : find (t.take (i + 1)) = some m) (he : m.esc = []) (hn : m.named = []) (hb : m.braced ≠ []) (v x : Bs) (ho : ∀ i0 : Fin 6, (∀ s, signOf t = some s → (sx i0).1.data.toList = s) → wordA f (envOf E) (sx i0).1.data.toList m.braced = some (some (v, none))) (hr : f (t.drop (i + 1)) = some (x, none)) (hvx : (v ++ x).length ≤ LIM) :
    Calls Tryz.prog 112 #[.string (mk t), lk p, .pointer (some ⟨q, 0, none⟩)] w (RepTells w (v ++ x, none)) := by
  have hs := size_small t ht
  have HG := Lib.hid (fun W => get_sub (mk t) hs W)
  have HF := Lib.hid (fb_l (mk t) ((mk t).size + 2) (by omega) (Nat.le_refl _))
  rw [mk_data, hf, show fbI 0 (some i) = (i : Int) by show ((0 + i : Nat) : Int) = i; rw [Nat.zero_add]] at HF
  have hil := fb_lt t 0 false i hf
  have x1 : (mk t).extract (i + 1) (mk t).size = mk (t.drop (i + 1)) := by rw [extract_end, mk_data]
  have x2 : (mk t).extract 0 (i + 1) = mk (t.take (i + 1)) := by rw [extract_start, mk_data]
  have i0' : (-1 : Int) < (i : Int) := by omega
  have i1' : (0 : Int) ≤ (i : Int) := by omega
  have i2' : (i : Int) + 1 ≤ ((mk t).size : Int) := by rw [mk_size]; omega
  have i3' : ((mk t).size : Int) ≤ 1152921504606846976 := by rw [mk_size]; omega
  have hs2 : (mk (t.take (i + 1))).size < 2305843009213693952 := by rw [mk_size, List.length_take]; omega
  have HM := Lib.hid (fun W => find_calls (mk (t.take (i + 1))) m W hs2 (by rw [mk_data]; exact hm))
  have hp0 := part0 hq
  have hnf := nilF
  have hql : q < w.heap.size := lt_of_heap hq
  have c0 : w.cell? ⟨q, 0, none⟩ = some .nilFunc := by have h := hq; unfold CfgAt at h; simp [World.cell?, h]
  have hze := zeroStr
  have HL := Lib.hid (look_esc m)
  have HE := Aside0.mk hE
  rw [he, mk_nil] at HL
  have HL2 := Lib.hid (look_named m)
  rw [hn, mk_nil] at HL2
  have HL3 := Lib.hid (look_braced m)
  obtain ⟨e1, e2, e3⟩ := full_facts hb
  have hbl : m.braced.length < 1152921504606846976 := by have := find_braced _ _ hm; have h2 : (t.take (i + 1)).length ≤ t.length := List.length_take_le' _ _; omega
  have HO := Lib.hid (fun (i0 : Fin 6) (hsg : ∀ s, signOf (mk t).data.toList = some s → (sx i0).1.data.toList = s) W hW => op_all i0 p E f IH m.braced W hbl hW _ (ho i0 (by rw [mk_data] at hsg; exact hsg)))
  have HEN := Lib.hid enters_all
  have HR := Lib.hid (fun W hW => IW _ _ W (by rw [List.length_drop]; omega) hr hW)
  have hcat : ¬ 9223372036854775807 < (mk v).size + (mk x).size := by rw [mk_size, mk_size]; rw [List.length_append] at hvx; unfold LIM at hvx; omega
  clear hvx
  clear hf hm hq ht he hE hn hb ho IH IW hbl hr hil hs2 hs
  go_enter Tryz.func112, Tryz.ntmps112
  go_wp2_with (first | (go_at_call 118; refine (HG.out _).mono ?_; rintro e w1 ⟨i0, rfl, hsg, hb⟩; have HSG := Lib.hid hsg; have HB1 := Aside0.mk (((Below.refl w.heap.size w).alloc (Nat.le_refl _) (Obj.cells #[] 82)).trans (hb.mono (by simp))); clear hsg hb; have hent := HEN.out i0) | (go_at_call 103; refine (template_getFirstBraceClosingIndex.calls _ _ _ _ HF.out).mono ?_; rintro e w' ⟨rfl, ⟨nd, rfl⟩⟩) | (go_at_call 119; refine (HM.out _).mono ?_; rintro e w2 ⟨A, c', rfl, hc, hb⟩; have HC := Aside0.mk hc; have HB2 := Aside0.mk (HB1.out.trans (((below_unN hb)).mono HB1.out.size)); clear hc hb) | (go_at_call 102; refine (groups_calls A c' m _ HC.out).mono ?_; rintro e w3 ⟨b, rfl, hm3, hb⟩; have HM3 := Aside0.mk hm3; have HB3 := Aside0.mk (HB2.out.trans (hb.mono HB2.out.size)); have HE3 := Aside0.mk (HE.out.keep (Nat.le_refl _) HB3.out); clear hm3 hb) | (at_lookup; refine wp_look rfl _ _ false rfl Tryz.underlying95 Tryz.underlying9 rfl HM3.out nEsc rfl (hze _) ?_; rw [if_neg (by decide), HL.out]; simp only [Option.map_some, Option.getD_some]) | (at_lookup; refine wp_look rfl _ _ false rfl Tryz.underlying95 Tryz.underlying9 rfl HM3.out nNamed rfl (hze _) ?_; rw [if_neg (by decide), HL2.out]; simp only [Option.map_some, Option.getD_some]) | (at_lookup; refine wp_look rfl _ _ false rfl Tryz.underlying95 Tryz.underlying9 rfl HM3.out nBraced rfl (hze _) ?_; rw [if_neg (by decide), HL3.out]; simp only [Option.map_some, Option.getD_some]) | ((with_reducible refine (HO.out i0 HSG.out _ HE3.out).mono ?_); rintro e w4 ⟨rfl, hb⟩; have HB4 := Aside0.mk (HB3.out.trans (hb.mono HB3.out.size)); have HE4 := Aside0.mk (HE.out.keep (Nat.le_refl _) HB4.out); clear hb) | (go_at_call 50; refine (HR.out _ HE4.out).mono ?_; rintro e w6 ⟨vv, rfl, rfl, hb⟩; have HB6 := Aside0.mk (HB4.out.trans (hb.mono HB4.out.size)); clear hb))
  go_ret3
  exact ⟨_, _, by rw [mk_app]; rfl, rfl, HB6.out⟩
end Go.Proofs.YtlncdacoefoldaaGreatDoor.U
