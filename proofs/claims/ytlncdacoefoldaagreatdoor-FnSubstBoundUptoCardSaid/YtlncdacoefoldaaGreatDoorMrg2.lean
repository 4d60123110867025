/- Texts of this claim, joined: SubZ, SubV, SubR, SubO, SubJ, SubK, BoundP, LawS, WithP, EscLaw, BoundLaw. -/
import Derived.Test.YtlncdacoefoldaaGreatDoorSubY
import Derived.Test.YtlncdacoefoldaaGreatDoorMrg3
import Derived.Deep.RegionWith
import Derived.Deep.RegionHeld3
import Derived.Lib.AppendStr
import Derived.Test.YtlncdacoefoldaaGreatDoorFitP
import Derived.Test.YtlncdacoefoldaaGreatDoorPXx7
import Derived.Test.YtlncdacoefoldaaGreatDoorLook
import Derived.Test.YtlncdacoefoldaaGreatDoorMrg4
import Derived.Test.YtlncdacoefoldaaGreatDoorSpecB
import Derived.Test.YtlncdacoefoldaaGreatDoorSpecJ
import Derived.Test.YtlncdacoefoldaaGreatDoorSpecF
import Derived.Test.YtlncdacoefoldaaGreatDoorSpecO
/- Walks: what stands in the place of a match, as repl says it. -/
namespace Go.Proofs.YtlncdacoefoldaaGreatDoor.U
set_option linter.unusedVariables false
set_option linter.unusedSimpArgs false
set_option linter.unusedSectionVars false
open Go.RowKit Go.Proofs.YtlncdacoefoldaaGreatDoorW.PrintWords Go.Proofs.YtlncdacoefoldaaGreatDoorW.PrintLast Go.Proofs.YtlncdacoefoldaaGreatDoor.PX Go.Proofs.YtlncdacoefoldaaGreatDoor.SM Go.Proofs.YtlncdacoefoldaaGreatDoor.L

theorem idx_some_infix : ∀ (s x : Bs) (i : Nat), idx s x = some i → s <:+: x
  | s, [], i, h => by
    rw [idx] at h
    split at h
    · rename_i e; rw [e]; exact List.infix_refl _
    · cases h
  | s, c :: r, i, h => by
    rw [idx] at h
    split at h
    · rename_i e; exact (List.isPrefixOf_iff_prefix.1 e).isInfix
    · obtain ⟨j, hj, _⟩ := map_some h
      exact (idx_some_infix s r j hj).trans (List.suffix_cons c r).isInfix
theorem idx_of_infix : ∀ (s x : Bs), s <:+: x → idx s x ≠ none
  | s, [], h => by
    have : s = [] := by simpa using h
    rw [idx, if_pos this]; simp
  | s, c :: r, h => by
    rw [idx]
    split
    · simp
    · rename_i hp
      rcases List.infix_cons_iff.1 h with h1 | h1
      · exact absurd (List.isPrefixOf_iff_prefix.2 h1) hp
      · have := idx_of_infix s r h1
        cases e : idx s r with
        | none => exact absurd e this
        | some j => simp
theorem idx_infix {s x t : Bs} (h : idx s t = none) (hx : x <:+: t) : idx s x = none := by
  cases e : idx s x with
  | none => rfl
  | some i => exact absurd h (idx_of_infix s t ((idx_some_infix s x i e).trans hx))
theorem word_none (f : Bs → Ans) (env : Env) {s x : Bs} (h : idx s x = none) : wordA f env s x = some none := by unfold wordA; rw [h]
/-- the same, where there is no fault -/
def fine (f : Bs → Ans) : Bs → Ans := fun t => match f t with
  | some (r, none) => some (r, none)
  | _ => none
theorem fine_ok {f : Bs → Ans} {t r : Bs} (h : f t = some (r, none)) : fine f t = some (r, none) := by unfold fine; rw [h]
theorem fine_some {f : Bs → Ans} {t : Bs} {a : Bs × Option Cls} (h : fine f t = some a) : a.2 = none ∧ f t = some a := by
  unfold fine at h
  split at h
  · rename_i r e; injection h with h; subst h; exact ⟨rfl, e⟩
  · cases h
theorem wordB_none {w : Ans} {sg : Bs} {v : Option Bs} {set : Bool} (h : wordB w sg v set = some none) : False := by
  unfold wordB at h
  split at h <;> cases set
  · rw [if_neg (by decide)] at h; obtain ⟨a, _, ha⟩ := map_some h; cases ha
  · rw [if_pos rfl] at h; injection h with h; cases h
  · rw [if_neg (by decide)] at h; injection h with h; cases h
  · rw [if_pos rfl] at h; obtain ⟨a, _, ha⟩ := map_some h; cases ha
  · rw [if_neg (by decide)] at h; obtain ⟨a, _, ha⟩ := map_some h; cases ha
  · rw [if_pos rfl] at h; injection h with h; cases h
theorem word_is_none {f : Bs → Ans} {env : Env} {s x : Bs} (h : wordA f env s x = some none) : idx s x = none := by
  cases hi : idx s x with
  | none => rfl
  | some i => rw [wordA_at f env s x i hi] at h; exact (wordB_none h).elim
theorem map_fine {f : Bs → Ans} {t v : Bs} (h : (f t).map some = some (some (v, none))) : (fine f t).map some = some (some (v, none)) := by
  obtain ⟨a, h1, h2⟩ := map_some h
  injection h2 with h2
  subst h2
  rw [fine_ok h1]; rfl
theorem wordB_fine {f : Bs → Ans} {t sg v : Bs} {u : Option Bs} {set : Bool} (h : wordB (f t) sg u set = some (some (v, none))) : wordB (fine f t) sg u set = some (some (v, none)) := by
  unfold wordB at h ⊢
  split at h <;> cases set
  · rw [if_neg (by decide)] at h ⊢; exact map_fine h
  · rw [if_pos rfl] at h ⊢; exact h
  · rw [if_neg (by decide)] at h ⊢; exact h
  · rw [if_pos rfl] at h ⊢; exact map_fine h
  · rw [if_neg (by decide)] at h; obtain ⟨a, _, ha⟩ := map_some h; injection ha with ha; injection ha with _ ha; cases ha
  · rw [if_pos rfl] at h ⊢; exact h
theorem word_fine {f : Bs → Ans} {env : Env} {s x v : Bs} (h : wordA f env s x = some (some (v, none))) : wordA (fine f) env s x = some (some (v, none)) := by
  cases hi : idx s x with
  | none => rw [word_none f env hi] at h; cases h
  | some i =>
    rw [wordA_at f env s x i hi] at h
    rw [wordA_at _ env s x i hi]
    exact wordB_fine h
set_option maxHeartbeats 1000000 in
theorem rep_fine (p q : Nat) (E : List (ByteArray × ByteArray)) (f : Bs → Ans) (IH : Subs (fine f) p E) (IW : SubsW (fine f) p E) (t : Bs) (w : World) (ht : t.length < 1152921504606846976) (hE : EnvAt w p E) (hq : CfgAt w q) (r : Bs) (h : repl f (envOf E) t = some (r, none)) (hr : r.length ≤ LIM) :
    Calls Tryz.prog 112 #[.string (mk t), lk p, .pointer (some ⟨q, 0, none⟩)] w (RepTells w (r, none)) := by
  unfold repl at h
  cases hf : fb t 0 false with
  | none =>
    rw [hf] at h
    simp only [] at h
    cases hm : find t with
    | none => rw [hm] at h; cases h
    | some m =>
      rw [hm] at h
      simp only [] at h
      by_cases he : m.esc = []
      · rw [if_neg (fun k => k he)] at h
        by_cases hn : m.named = []
        · rw [if_neg (fun k => k hn)] at h
          by_cases hb : m.braced = []
          · rw [if_pos hb] at h; cases h
          · rw [if_neg hb] at h
            cases hs : signOf t with
            | none =>
              rw [hs] at h
              injection h with h
              rw [← h]
              exact rep_miss_n p q E (fine f) IH IW t w ht hE hq hf m hm he hn hb (fun i0 _ => word_none _ _ (idx_infix (sign_none t hs _ (sx_mem i0)) (find_infix t m hm)))
            | some sg =>
              rw [hs] at h
              simp only [] at h
              cases hw : wordA f (envOf E) sg m.braced with
              | none => rw [hw] at h; cases h
              | some o =>
                rw [hw] at h
                match o, h, hw with
                | none, h, hw =>
                  injection h with h
                  rw [← h]
                  exact rep_miss_n p q E (fine f) IH IW t w ht hE hq hf m hm he hn hb (fun i0 hi => by rw [hi sg hs]; exact word_none _ _ (word_is_none hw))
                | some (v, none), h, hw =>
                  cases hx : f [] with
                  | none => simp [hx] at h
                  | some y =>
                    obtain ⟨x, c⟩ := y
                    cases c with
                    | some c => simp [hx] at h
                    | none =>
                      simp [hx] at h
                      subst h
                      exact rep_ok_n p q E (fine f) IH IW t w ht hE hq hf m hm he hn hb v x (fun i0 hi => by rw [hi sg hs]; exact word_fine hw) (fine_ok hx) hr
                | some (v, some c), h, hw => cases h
        · rw [if_pos hn] at h
          injection h with h
          rw [← h]
          exact rep_named_n p q E t w ht hE hq hf m hm he hn
      · rw [if_pos he] at h
        injection h with h
        rw [← h]
        exact rep_esc_n p q E t w ht hE hq hf m hm he
  | some i =>
    rw [hf] at h
    simp only [] at h
    cases hm : find (t.take (i + 1)) with
    | none => rw [hm] at h; cases h
    | some m =>
      rw [hm] at h
      simp only [] at h
      by_cases he : m.esc = []
      · rw [if_neg (fun k => k he)] at h
        by_cases hn : m.named = []
        · rw [if_neg (fun k => k hn)] at h
          by_cases hb : m.braced = []
          · rw [if_pos hb] at h; cases h
          · rw [if_neg hb] at h
            cases hs : signOf t with
            | none =>
              rw [hs] at h
              injection h with h
              rw [← h]
              exact rep_miss_s p q E (fine f) IH IW t w ht hE hq i hf m hm he hn hb (fun i0 _ => word_none _ _ (idx_infix (sign_none t hs _ (sx_mem i0)) ((find_infix _ m hm).trans (List.take_prefix _ _).isInfix)))
            | some sg =>
              rw [hs] at h
              simp only [] at h
              cases hw : wordA f (envOf E) sg m.braced with
              | none => rw [hw] at h; cases h
              | some o =>
                rw [hw] at h
                match o, h, hw with
                | none, h, hw =>
                  injection h with h
                  rw [← h]
                  exact rep_miss_s p q E (fine f) IH IW t w ht hE hq i hf m hm he hn hb (fun i0 hi => by rw [hi sg hs]; exact word_none _ _ (word_is_none hw))
                | some (v, none), h, hw =>
                  cases hx : f (t.drop (i + 1)) with
                  | none => simp [hx] at h
                  | some y =>
                    obtain ⟨x, c⟩ := y
                    cases c with
                    | some c => simp [hx] at h
                    | none =>
                      simp [hx] at h
                      subst h
                      exact rep_ok_s p q E (fine f) IH IW t w ht hE hq i hf m hm he hn hb v x (fun i0 hi => by rw [hi sg hs]; exact word_fine hw) (fine_ok hx) hr
                | some (v, some c), h, hw => cases h
        · rw [if_pos hn] at h
          injection h with h
          rw [← h]
          exact rep_named_s p q E t w ht hE hq i hf m hm he hn
      · rw [if_pos he] at h
        injection h with h
        rw [← h]
        exact rep_esc_s p q E t w ht hE hq i hf m hm he

end Go.Proofs.YtlncdacoefoldaaGreatDoor.U

/- Walks: the replacement's function, its closure, where there is no fault. -/
namespace Go.Proofs.YtlncdacoefoldaaGreatDoor.U
set_option linter.unusedVariables false
set_option linter.unusedSimpArgs false
set_option linter.unusedSectionVars false
open Go.RowKit Go.Proofs.YtlncdacoefoldaaGreatDoorW.PrintWords Go.Proofs.YtlncdacoefoldaaGreatDoorW.PrintLast Go.Proofs.YtlncdacoefoldaaGreatDoor.PX Go.Proofs.YtlncdacoefoldaaGreatDoor.SM Go.Proofs.YtlncdacoefoldaaGreatDoor.L

theorem drf_fine (p q : Nat) (t r : Bs) (w : World) (h : Calls Tryz.prog 112 #[.string (mk t), lk p, .pointer (some ⟨q, 0, none⟩)] w (RepTells w (r, none))) :
    Calls Tryz.prog 94 #[.string (mk t), lk p, .pointer (some ⟨q, 0, none⟩)] w (Tells w (r, none)) := by
  have H := Lib.hid h
  clear h
  go_enter Tryz.func94, Tryz.ntmps94
  go_wp2_with (go_at_call 112; refine H.out.mono ?_; rintro e w1 ⟨b, v, rfl, rfl, hb⟩; have HB := Aside0.mk hb; clear hb)
  go_ret2
  exact ⟨_, rfl, rfl, HB.out⟩
/-- what the closure has at hand: its four boxes -/
structure ClosAt (w : World) (p q bc bm bt be : Nat) (T : ByteArray) : Prop where
  cfg : w.heap[bc]? = some (.cells #[.pointer (some ⟨q, 0, none⟩)] 154 (0, 0))
  map : w.heap[bm]? = some (.cells #[lk p] 93 (0, 0))
  txt : w.heap[bt]? = some (.cells #[.string T] 9 (0, 0))
theorem ClosAt.grown {w w' : World} {p q bc bm bt be : Nat} {T : ByteArray} (h : ClosAt w p q bc bm bt be T) (hb : Below w.heap.size w w') : ClosAt w' p q bc bm bt be T :=
  ⟨(hb.block bc (lt_of_heap h.cfg)).trans h.cfg, (hb.block bm (lt_of_heap h.map)).trans h.map, (hb.block bt (lt_of_heap h.txt)).trans h.txt⟩
set_option maxHeartbeats 2000000 in
theorem clos_fine (p q bc bm bt be : Nat) (T : ByteArray) (t r : Bs) (w : World) (hC : ClosAt w p q bc bm bt be T) (hq : CfgAt w q) (h : ∀ W, Below w.heap.size w W → Calls Tryz.prog 94 #[.string (mk t), lk p, .pointer (some ⟨q, 0, none⟩)] W (Tells W (r, none))) :
    Calls Tryz.prog 96 #[.string (mk t), .pointer (some ⟨bc, 0, none⟩), .pointer (some ⟨bm, 0, none⟩), .pointer (some ⟨bt, 0, none⟩), .pointer (some ⟨be, 0, none⟩)] w fun e w' => e = .returned (.string (mk r)) ∧ Below w.heap.size w w' := by
  have H := Lib.hid h
  have c1 : w.cell? ⟨bc, 0, none⟩ = some (.pointer (some ⟨q, 0, none⟩)) := cell0 hC.cfg
  have c2 : w.cell? ⟨bm, 0, none⟩ = some (lk p) := cell0 hC.map
  have c3 : w.cell? ⟨q, 1, none⟩ = some (.func (.func 94) #[] #[]) := by have h := hq; unfold CfgAt at h; simp [World.cell?, h]
  clear h hC hq
  go_enter Tryz.func96, Tryz.ntmps96
  go_wp2_with fail
  go_region_held3 (fun w' => w'.cell? ⟨bc, 0, none⟩ = some (.pointer (some ⟨q, 0, none⟩)) ∧ w'.cell? ⟨bm, 0, none⟩ = some (lk p) ∧ w'.cell? ⟨q, 1, none⟩ = some (.func (.func 94) #[] #[])) (first | exact ⟨c1, c2, c3⟩ | exact K4 | go_keep) (first | (go_at_call 94; refine (H.out _ (by repeat (first | exact Below.refl _ _ | apply below_drew1 | apply pw_below_drewN))).mono ?_; rintro e w1 ⟨v, rfl, rfl, hb⟩; have hb' := below_un hb; have K4 := (show w1.cell? ⟨bc, 0, none⟩ = some (.pointer (some ⟨q, 0, none⟩)) ∧ w1.cell? ⟨bm, 0, none⟩ = some (lk p) ∧ w1.cell? ⟨q, 1, none⟩ = some (.func (.func 94) #[] #[]) from ⟨(hb'.cell (World.block_lt_of_cell? w _ c1)).trans c1, (hb'.cell (World.block_lt_of_cell? w _ c2)).trans c2, (hb'.cell (World.block_lt_of_cell? w _ c3)).trans c3⟩); have HB := Aside0.mk hb'; clear hb hb'))
  all_goals (go_wp2; go_ret; exact ⟨rfl, by repeat (first | exact HB.out | apply below_drew1 | apply pw_below_drewN)⟩)
end Go.Proofs.YtlncdacoefoldaaGreatDoor.U

/- Walks: each match of a text replaced, where there is no fault. -/
namespace Go.Proofs.YtlncdacoefoldaaGreatDoor.U
set_option linter.unusedVariables false
set_option linter.unusedSimpArgs false
set_option linter.unusedSectionVars false
open Go.RowKit Go.Proofs.YtlncdacoefoldaaGreatDoorW.PrintWords Go.Proofs.YtlncdacoefoldaaGreatDoorW.PrintLast Go.Proofs.YtlncdacoefoldaaGreatDoor.PX Go.Proofs.YtlncdacoefoldaaGreatDoor.SM Go.Proofs.YtlncdacoefoldaaGreatDoor.L

abbrev clo (bc bm bx be : Nat) : Value := .func (.func 96) #[] #[.pointer (some ⟨bc, 0, none⟩), .pointer (some ⟨bm, 0, none⟩), .pointer (some ⟨bx, 0, none⟩), .pointer (some ⟨be, 0, none⟩)]
theorem add_zero_cell {w : World} {a : Addr} {v : Value} (h : w.cell? (a.add 0) = some v) : w.cell? a = some v := by simpa [Addr.add] using h
/-- where a match ends there is a byte of it at least -/
theorem atM_len (l : Bs) (m : M) (h : atM l = some m) : 0 < m.all.length ∧ m.all.length ≤ l.length := by
  match l, h with
  | c :: d :: r, h =>
    rw [atM] at h
    split at h
    · cases h
    · split at h
      · injection h with h; subst h; simp
      · split at h
        · injection h with h
          subst h
          have := nameN_le (d :: r)
          simp only [List.length_cons, List.length_take] at this ⊢
          omega
        · split at h
          · cases h
          · injection h with h
            subst h
            have hn := nameN_le r
            unfold bracedM
            split
            · simp [bad]
            · split
              · simp only [List.length_cons, List.length_take]; omega
              · split
                · simp [bad]
                · split
                  · simp [bad]
                  · simp only [List.length_cons, List.length_take]; omega
theorem scan_skip' (f : Bs → Ans) (env : Env) : ∀ (k : Nat) (r : Bs), k ≤ r.length → scan f env r k = scan f env (r.drop k) 0
  | 0, r, _ => by simp
  | k + 1, [], h => by simp at h
  | k + 1, c :: r, h => by rw [scan, scan_skip' f env k r (by simpa using h)]; rfl
/-- one step of it -/
theorem scan_step {f : Bs → Ans} {env : Env} {l r : Bs} (hl : l ≠ []) (h : scan f env l 0 = some (r, none)) :
    (atM l = none ∧ ∃ c q r', l = c :: q ∧ r = c :: r' ∧ scan f env q 0 = some (r', none)) ∨
    (∃ m v r', atM l = some m ∧ repl f env m.all = some (v, none) ∧ r = v ++ r' ∧ scan f env (l.drop m.all.length) 0 = some (r', none)) := by
  obtain ⟨c, q, rfl⟩ := List.exists_cons_of_ne_nil hl
  rw [scan] at h
  cases ha : atM (c :: q) with
  | none =>
    rw [ha] at h
    simp only [] at h
    cases hs : scan f env q 0 with
    | none => rw [hs] at h; cases h
    | some p =>
      rw [hs] at h
      obtain ⟨t, e⟩ := p
      injection h with h
      injection h with h1 h2
      exact .inl ⟨rfl, c, q, t, rfl, h1.symm, by rw [hs, h2]⟩
  | some m =>
    rw [ha] at h
    simp only [] at h
    obtain ⟨h1, h2⟩ := atM_len _ _ ha
    cases hr : repl f env m.all with
    | none => rw [hr] at h; cases h
    | some p =>
      obtain ⟨v, e⟩ := p
      rw [hr] at h
      simp only [] at h
      rw [scan_skip' f env _ q (by simp at h2; omega)] at h
      have ed : q.drop (m.all.length - 1) = (c :: q).drop m.all.length := by
        obtain ⟨k, hk⟩ : ∃ k, m.all.length = k + 1 := ⟨m.all.length - 1, by omega⟩
        rw [hk]; rfl
      rw [ed] at h
      cases hs : scan f env ((c :: q).drop m.all.length) 0 with
      | none => rw [hs] at h; cases h
      | some p =>
        obtain ⟨t, e'⟩ := p
        rw [hs] at h
        injection h with h
        injection h with h3 h4
        cases e with
        | some e => cases h4
        | none =>
          have : e' = none := by simpa using h4
          subst this
          exact .inr ⟨m, v, t, rfl, hr, h3.symm, hs⟩
set_option maxHeartbeats 4000000 in
set_option maxRecDepth 100000 in
theorem replace_fine (f : Bs → Ans) (env : Env) (bc bm bx be : Nat) (t r : Bs) (w : World) (ht : t.length < 1152921504606846976) (h : scan f env t 0 = some (r, none)) (hr : r.length ≤ LIM)
    (hc : ∀ (m0 v : Bs) (W : World), Below w.heap.size w W → repl f env m0 = some (v, none) → v.length ≤ LIM → m0.length < 1152921504606846976 →
      Calls Tryz.prog 96 #[.string (mk m0), .pointer (some ⟨bc, 0, none⟩), .pointer (some ⟨bm, 0, none⟩), .pointer (some ⟨bx, 0, none⟩), .pointer (some ⟨be, 0, none⟩)] W fun e w' => e = .returned (.string (mk v)) ∧ Below W.heap.size W w') :
    Calls Tryz.prog 95 #[.agg #[], .string (mk t), clo bc bm bx be] w fun e w' => e = .returned (.string (mk r)) ∧ Below w.heap.size w w' := by
  obtain ⟨b0, bi, bz0, bz1, bz2⟩ := info_parts (show (Tryz.prog.info? 5).map (fun i => (i.zero, i.size, i.bytes)) = some (some (.int .u8 0), 1, 1) by kernel_rfl)
  have hs := size_small t ht
  have HA := Lib.hid (fun i hi => at_l (mk t) i (2 * (mk t).size + 20) (by omega) hi (Nat.le_refl _))
  have HC := Lib.hid hc
  have HS := Lib.hid h
  have HSZ := Lib.hid (show (mk t).size = t.length from mk_size t)
  have hr1 : r.length ≤ 17592186044416 := hr
  clear h hc hr
  go_enter Tryz.func95, Tryz.ntmps95
  go_wp2
  go_loopw [7, 8] (fun v7 v8 wr => ∃ (i : Nat) (o q : Bs), i ≤ (mk t).size ∧ v8 = .int .i64 i ∧ Aside0 (wr.ownsRow w.heap.size 5 1 v7 o.length (o.map bv)) ∧ Hid (scan f env (t.drop i) 0 = some (q, none) ∧ o ++ q = r) ∧ Aside0 (Below w.heap.size w wr)) (fun _ v8 _ => (mk t).size - (intOf v8).toNat)
  case atStart => exact ⟨0, [], r, Nat.zero_le _, rfl, ⟨⟨rfl, .inl ⟨rfl, rfl⟩⟩⟩, ⟨by rw [List.drop_zero]; exact HS.out, rfl⟩, ⟨(Below.refl _ _).alloc (Nat.le_refl _) _⟩⟩
  case round =>
    obtain ⟨i, o, q, hi, rfl, HO, HQ, HB⟩ := hrel
    have hws : w.heap.size ≤ wr.heap.size := HB.out.size
    by_cases hlt : i < (mk t).size
    · have HD : Hid (D (mk t) i = t.drop i) := Lib.hid (by unfold D; rw [mk_data])
      have hne : t.drop i ≠ [] := fun e => by have := congrArg List.length e; rw [List.length_drop] at this; have := HSZ.out; simp at *; omega
      have hor : o.length + q.length = r.length := by rw [← HQ.out.2, List.length_append]
      rcases scan_step hne HQ.out.1 with ⟨h1, c, q1, r1, h2, h3, h4⟩ | ⟨m, v, r1, h1, h2, h3, h4⟩
      · have HK := Lib.hid (HA.out i hi)
        rw [HD.out, h1] at HK
        have hbt := D_cons (HD.out.trans h2)
        have HX := Lib.hid hbt.2.1
        have HN : Hid (scan f env (t.drop (i + 1)) 0 = some (r1, none) ∧ (o ++ [c]) ++ r1 = r) := Lib.hid ⟨by rw [← h4, ← List.drop_drop, h2]; rfl, by rw [← HQ.out.2, h3]; simp⟩
        have hle : o.length + 1 ≤ r.length := by rw [h3] at hor; simp at hor; omega
        have hg : (mk t)[i]'hlt = c := by
          have := HX.out
          unfold bt at this
          rw [dif_pos (by simpa using hlt)] at this
          exact (u8 _ _).2 (Int.natCast_inj.1 this)
        clear h1 h2 h3 h4 hbt hne hor HX
        go_wp2_with (first | (go_at_call 113; refine (template_zzAt.calls _ (mk t) (i : Int) [] 0 false _ HK.out).mono ?_; rintro e w1 ⟨v0, rfl, ho, hb⟩; have HB1 := Aside0.mk (HB.out.trans (hb.mono HB.out.size)); have HO1 := Aside0.mk (own_below HO.out hb); have hws1 := HB1.out.size; clear ho hb) | (at_builtin; refine wpList_append_own _ rfl _ _ 61 rfl w.heap.size 5 b0 (.int .u8 0) 1 1 Tryz.underlying61 bi bz0 bz1 bz2 rfl (by decide) _ _ _ rfl (HO1.out.alloc _) ⟨w1.heap.size, 0, none⟩ 1 1 [.int .u8 (c.toNat : Int)] rfl rfl ?c1 ?c2 ?c3 ?c4 ?c5 ?_; (case c1 => exact cell_one_new _ _ _); (case c2 => simp [Value.oneCell']); (case c3 => unfold maxLen; omega); (case c4 => omega); (case c5 => simp; omega); intro v' w2 hown' hgrow _))
        go_roundw
        case rel => exact ⟨i + 1, o ++ [c], r1, by omega, by go_num, ⟨by simpa [bv] using hown'⟩, HN.out, ⟨(HB1.out.alloc hws1 _).grown hgrow (by simp; omega) (fun k' hk' => (World.ownsRow.lt HO1.out k' hk').1)⟩⟩
        case measure => simp [intOf]; omega
      · have HK := Lib.hid (HA.out i hi)
        rw [HD.out, h1] at HK
        obtain ⟨g1, g2⟩ := atM_len _ _ h1
        rw [List.length_drop] at g2
        have HN : Hid (scan f env (t.drop (i + m.all.length)) 0 = some (r1, none) ∧ (o ++ v) ++ r1 = r) := Lib.hid ⟨by rw [← h4, List.drop_drop], by rw [← HQ.out.2, h3]; simp⟩
        have hle : o.length + v.length ≤ r.length := by rw [h3, List.length_append] at hor; omega
        have HV := Lib.hid (fun W hW => HC.out m.all v W hW h2 (by show v.length ≤ 17592186044416; omega) (by omega))
        have hil : i + m.all.length ≤ (mk t).size := by have := HSZ.out; omega
        have hvs : (mk v).size = v.length := mk_size v
        have HVS := Lib.hid hvs
        have hvs3 : o.length + (mk v).size ≤ 17592186044416 := by omega
        have hgl : (groups m).length = 6 := rfl
        clear h1 h2 h3 h4 hne hor g2 hvs
        go_wp2_with (first | (go_at_call 113; refine (template_zzAt.calls _ (mk t) (i : Int) (groups m) ((i + m.all.length : Nat) : Int) true _ HK.out).mono ?_; rintro e w1 ⟨v0, rfl, ho, hb⟩; have HB1 := Aside0.mk (HB.out.trans (hb.mono HB.out.size)); have HO1 := Aside0.mk (own_below HO.out hb); have hws1 := HB1.out.size; obtain ⟨A1, c1, rfl, hl1, hC1⟩ := Kd.R_reads ho; obtain ⟨ad1, rfl, hy0⟩ := Kd.at_string hC1 0 (Int.le_refl 0) (by simp [groups]); replace hy0 : w1.cell? ad1 = some (.string (mk m.all)) := add_zero_cell hy0; clear ho hb hC1) | (go_at_call 96; refine (HV.out _ HB1.out).mono ?_; rintro e w2 ⟨rfl, hb⟩; have HB2 := Aside0.mk (HB1.out.trans (hb.mono HB1.out.size)); have HO2 := Aside0.mk (own_below HO1.out hb); have hws2 := HB2.out.size; clear hb) | (at_builtin; refine Lib.wpList_append_own_string _ rfl _ _ 61 9 rfl w.heap.size 5 b0 Tryz.underlying61 Tryz.underlying9 bi bz0 bz1 bz2 _ _ _ rfl HO2.out (mk v) rfl ?c3 ?c4 ?c5 ?_; (case c3 => unfold maxLen; omega); (case c4 => omega); (case c5 => first | omega | (simp; omega)); intro v' w3 hown' hgrow _))
        go_roundw
        case rel => exact ⟨i + m.all.length, o ++ v, r1, hil, by go_num, ⟨by rw [List.length_append, ← HVS.out, List.map_append]; simpa [strCells_bv, mk_data] using hown'⟩, HN.out, ⟨HB2.out.grown hgrow hws2 (fun k' hk' => (World.ownsRow.lt HO2.out k' hk').1)⟩⟩
        case measure => simp [intOf]; omega
    · have he : t.drop i = [] := List.drop_of_length_le (by have := HSZ.out; omega)
      have hq := HQ.out.1
      rw [he, scan] at hq
      injection hq with hq
      injection hq with hq _
      have X : Hid (o = r) := Lib.hid (by rw [← HQ.out.2, ← hq, List.append_nil])
      clear he hq
      go_wp2_with (refine wpList_string_own rfl _ 61 5 9 rfl Tryz.underlying61 Tryz.underlying5 Tryz.underlying9 _ rfl _ _ (RdK.of_own HO.out) ?_)
      go_ret
      exact ⟨by rw [X.out]; rfl, HB.out⟩
end Go.Proofs.YtlncdacoefoldaaGreatDoor.U

/- Walks: the substitution with its options, where there is no fault. -/
namespace Go.Proofs.YtlncdacoefoldaaGreatDoor.U
set_option linter.unusedVariables false
set_option linter.unusedSimpArgs false
set_option linter.unusedSectionVars false
open Go.RowKit Go.Proofs.YtlncdacoefoldaaGreatDoorW.PrintWords Go.Proofs.YtlncdacoefoldaaGreatDoorW.PrintLast Go.Proofs.YtlncdacoefoldaaGreatDoor.PX Go.Proofs.YtlncdacoefoldaaGreatDoor.SM Go.Proofs.YtlncdacoefoldaaGreatDoor.L

theorem with_pattern (w : World) :
    Calls Tryz.prog 63 #[.agg #[]] w fun e w' => e = .returned (.func (.func 92) #[] #[.pointer (some ⟨w.heap.size, 0, none⟩)]) ∧ w' = w.alloc (Obj.cells #[] 82) := by
  go_enter Tryz.func63, Tryz.ntmps63
  go_wp2
  go_ret
  exact ⟨rfl, rfl⟩
theorem with_pattern1 (q pb : Nat) (w : World) (hq : CfgAt w q) (hp : w.heap[pb]? = some (.cells #[] 82 (0, 0))) :
    Calls Tryz.prog 92 #[.pointer (some ⟨q, 0, none⟩), .pointer (some ⟨pb, 0, none⟩)] w fun e w' => e = .returned (.tuple #[]) ∧ w = w' := by
  have hp0 := part0 hq
  clear hq hp
  go_enter Tryz.func92, Tryz.ntmps92
  go_wp2
  go_end0
  exact ⟨rfl, rfl⟩
def optA (w : World) (ob pb : Nat) : Prop := w.heap[ob]? = some (.cells #[.func (.func 92) #[] #[.pointer (some ⟨pb, 0, none⟩)]] 120 (0, 0)) ∧ w.heap[pb]? = some (.cells #[] 82 (0, 0))
/-- what lies there ahead of the options' loop -/
structure SwoAt (w wr : World) (p : Nat) (T : ByteArray) : Prop where
  s0 : wr.heap[w.heap.size]? = some (.cells #[.string T] 9 (0, 0))
  s1 : wr.heap[w.heap.size + 1]? = some (.cells #[lk p] 93 (0, 0))
  s2 : wr.heap[w.heap.size + 1 + 1]? = some (.cells #[.nilIface] 66 (0, 0))
  s3 : CfgAt wr (w.heap.size + 1 + 1 + 1)
  s4 : wr.heap[w.heap.size + 1 + 1 + 1 + 1]? = some (.cells #[.pointer (some ⟨w.heap.size + 1 + 1 + 1, 0, none⟩)] 154 (0, 0))
  bel : Below w.heap.size w wr
theorem new_at {w : World} {o : Obj} {n : Nat} (h : w.heap.size = n) : (w.alloc o).heap[n]? = some o := by rw [← h]; exact (MapKept.heap_alloc w o).1
theorem swo_start (w : World) (p : Nat) (T : ByteArray) : SwoAt w (((((w.alloc (Obj.cells #[Value.string T] 9)).alloc (Obj.cells #[lk p] 93)).alloc (Obj.cells #[Value.nilIface] 66)).alloc (Obj.cells #[Value.nilFunc, Value.func (Fn.func 94) #[] #[], Value.bool true] 158)).alloc (Obj.cells #[Value.pointer (some ⟨w.heap.size + 1 + 1 + 1, 0, none⟩)] 154)) p T :=
  ⟨heap_old (heap_old (heap_old (heap_old (new_at rfl)))), heap_old (heap_old (heap_old (new_at (by simp)))), heap_old (heap_old (new_at (by simp))), heap_old (new_at (by simp)), new_at (by simp),
    (((((Below.refl w.heap.size w).alloc (Nat.le_refl _) _).alloc (by simp) _).alloc (by simp; omega) _).alloc (by simp; omega) _).alloc (by simp; omega) _⟩
theorem CfgAt.drew {w : World} {q : Nat} (h : CfgAt w q) : CfgAt w.drew q := h
theorem ClosAt.drew {w : World} {p q bc bm bt be : Nat} {T : ByteArray} (h : ClosAt w p q bc bm bt be T) : ClosAt w.drew p q bc bm bt be T := ⟨h.cfg, h.map, h.txt⟩
set_option maxHeartbeats 4000000 in
set_option maxRecDepth 100000 in
theorem swo_fine (p : Nat) (E : List (ByteArray × ByteArray)) (f : Bs → Ans) (IH : Subs (fine f) p E) (IW : SubsW (fine f) p E) (t r : Bs) (w : World) (ht : t.length < 1152921504606846976) (hE : EnvAt w p E) (ob pb : Nat) (ho : optA w ob pb) (h : scan f (envOf E) t 0 = some (r, none)) (hr : r.length ≤ LIM) :
    Calls Tryz.prog 65 #[.string (mk t), lk p, .slice (some ⟨ob, 0, none⟩) 1 1] w (Tells w (r, none)) := by
  have HR := Lib.hid (fun (q bc bm bx be : Nat) (W : World) (hb : Below w.heap.size w W) (hC : ClosAt W p q bc bm bx be (mk t)) (hq : CfgAt W q) =>
    replace_fine f (envOf E) bc bm bx be t r W ht h hr (fun m0 v W1 hb1 hrep hv hm0 =>
      clos_fine p q bc bm bx be (mk t) m0 v W1 (hC.grown hb1) (hq.below hb1) (fun W2 hb2 =>
        drf_fine p q m0 v W2 (rep_fine p q E f IH IW m0 W2 hm0 (((hE.below hb).below hb1).below hb2) ((hq.below hb1).below hb2) v hrep hv))))
  have HE := Aside0.mk hE
  have c0 : w.cell? ⟨ob, 0, none⟩ = some (.func (.func 92) #[] #[.pointer (some ⟨pb, 0, none⟩)]) := cell0 ho.1
  have hol : ob < w.heap.size := lt_of_heap ho.1
  have HPB := Aside0.mk ho.2
  have hz2 : Array.foldl (fun (cs : Array Value) (x : Value × Nat) => cs.setIfInBounds x.snd x.fst) #[Value.nilFunc, Value.nilFunc, Value.bool false] (#[] : Array Value).zipIdx 0 0 = #[Value.nilFunc, Value.nilFunc, Value.bool false] := rfl
  clear h hr IH IW hE ho ht
  go_enter Tryz.func65, Tryz.ntmps65
  go_wp2_with fail
  go_loopw [18] (fun v18 wr => ∃ i : Nat, i ≤ 1 ∧ v18 = .int .i64 i ∧ Aside0 (SwoAt w wr p (mk t))) (fun v18 _ => 1 - (intOf v18).toNat)
  case atStart => exact ⟨0, by omega, rfl, ⟨swo_start w p (mk t)⟩⟩
  case round =>
    obtain ⟨i, hi, rfl, HA⟩ := hrel
    have k4 : wr.cell? ⟨w.heap.size + 1 + 1 + 1 + 1, 0, none⟩ = some (.pointer (some ⟨w.heap.size + 1 + 1 + 1, 0, none⟩)) := cell0 HA.out.s4
    by_cases hlt : i < 1
    · obtain rfl : i = 0 := by omega
      have k0 : wr.cell? ⟨ob, 0, none⟩ = some (.func (.func 92) #[] #[.pointer (some ⟨pb, 0, none⟩)]) := (HA.out.bel.cell (p := ⟨ob, 0, none⟩) hol).trans c0
      have HP := Aside0.mk ((HA.out.bel.block pb (lt_of_heap HPB.out)).trans HPB.out)
      clear c0
      go_wp2_with (go_at_call 92; refine (with_pattern1 (w.heap.size + 1 + 1 + 1) pb _ HA.out.s3 HP.out).mono ?_; rintro e w' ⟨rfl, rfl⟩)
      go_roundw
      case rel => exact ⟨1, by omega, rfl, HA⟩
      case measure => simp [intOf]
    · obtain rfl : i = 1 := by omega
      clear hlt hi c0
      have k3 : wr.cell? ⟨w.heap.size, 0, none⟩ = some (.string (mk t)) := cell0 HA.out.s0
      have hp0 := part0 HA.out.s3
      have HC := Aside0.mk (show ClosAt wr p (w.heap.size + 1 + 1 + 1) (w.heap.size + 1 + 1 + 1 + 1) (w.heap.size + 1) w.heap.size (w.heap.size + 1 + 1) (mk t) from ⟨HA.out.s4, HA.out.s1, HA.out.s0⟩)
      go_wp2_with fail
      go_region_held3 (fun w' => w'.cell? ⟨w.heap.size + 1 + 1 + 1 + 1, 0, none⟩ = some (.pointer (some ⟨w.heap.size + 1 + 1 + 1, 0, none⟩)) ∧ w'.cell? ⟨w.heap.size, 0, none⟩ = some (.string (mk t)) ∧ (partAt ⟨w.heap.size + 1 + 1 + 1, 0, none⟩ 0 0).run Tryz.prog w' = .ok ⟨w.heap.size + 1 + 1 + 1, 0, none⟩ w') (first | exact ⟨k4, k3, hp0⟩ | exact K4 | exact ⟨k4, k3, part0 (CfgAt.drew HA.out.s3)⟩ | go_keep) (first | (go_at_call 95; refine (HR.out (w.heap.size + 1 + 1 + 1) (w.heap.size + 1 + 1 + 1 + 1) (w.heap.size + 1) w.heap.size (w.heap.size + 1 + 1) _ (by first | exact HA.out.bel | exact below_drew1 HA.out.bel) (by first | exact HC.out | exact ClosAt.drew HC.out) (by first | exact HA.out.s3 | exact CfgAt.drew HA.out.s3)).mono ?_; rintro e w2 ⟨rfl, hb⟩; replace hb := below_un hb; have K4 := (show w2.cell? ⟨w.heap.size + 1 + 1 + 1 + 1, 0, none⟩ = some (.pointer (some ⟨w.heap.size + 1 + 1 + 1, 0, none⟩)) ∧ w2.cell? ⟨w.heap.size, 0, none⟩ = some (.string (mk t)) ∧ (partAt ⟨w.heap.size + 1 + 1 + 1, 0, none⟩ 0 0).run Tryz.prog w2 = .ok ⟨w.heap.size + 1 + 1 + 1, 0, none⟩ w2 from ⟨(hb.cell (World.block_lt_of_cell? wr _ k4)).trans k4, (hb.cell (World.block_lt_of_cell? wr _ k3)).trans k3, part0 (HA.out.s3.below hb)⟩); have HB2 := Aside0.mk (HA.out.bel.trans (hb.mono HA.out.bel.size)); have k9 : w2.cell? ⟨w.heap.size + 1 + 1, 0, none⟩ = some .nilIface := (hb.cell (lt_of_heap HA.out.s2)).trans (cell0 HA.out.s2); clear hb))
      all_goals
        go_wp2_with fail
        go_quiet (fail)
        go_wp2
        go_ret2
        exact ⟨_, rfl, rfl, below_drewN HB2.out _⟩
set_option maxHeartbeats 2000000 in
theorem sw_fine (p : Nat) (E : List (ByteArray × ByteArray)) (f : Bs → Ans) (IH : Subs (fine f) p E) (IW : SubsW (fine f) p E) (t r : Bs) (w : World) (ht : t.length < 1152921504606846976) (hE : EnvAt w p E) (h : scan f (envOf E) t 0 = some (r, none)) (hr : r.length ≤ LIM) :
    Calls Tryz.prog 50 #[.string (mk t), lk p, .agg #[], .slice none 0 0] w (Tells w (r, none)) := by
  have H := Lib.hid (fun ob pb (W : World) hE ho => swo_fine p E f IH IW t r W ht hE ob pb ho h hr)
  have HE := Aside0.mk hE
  clear h hr IH IW hE ht
  go_enter Tryz.func50, Tryz.ntmps50
  go_wp2_with (first | (go_at_call 63; refine (with_pattern _).mono ?_; rintro e w1 ⟨rfl, rfl⟩) | (go_at_call 65; refine (H.out (w.heap.size + 1 + 1) (w.heap.size + 1) _ (HE.out.below (((Below.refl w.heap.size w).alloc (Nat.le_refl _) _).alloc (by simp) _ |>.alloc (by simp; omega) _)) ⟨new_at (by simp), heap_old (new_at (by simp))⟩).mono ?_; rintro e w2 ⟨v, rfl, rfl, hb⟩; have HB := Aside0.mk (((((Below.refl w.heap.size w).alloc (Nat.le_refl _) _).alloc (by simp) _ |>.alloc (by simp; omega) _)).trans (hb.mono (by simp; omega))); clear hb))
  go_ret2
  exact ⟨_, rfl, rfl, HB.out⟩
theorem s_fine (p : Nat) (E : List (ByteArray × ByteArray)) (t r : Bs) (w : World) (hE : EnvAt w p E) (h : ∀ W, EnvAt W p E → Calls Tryz.prog 50 #[.string (mk t), lk p, .agg #[], .slice none 0 0] W (Tells W (r, none))) :
    Calls Tryz.prog 34 #[.string (mk t), lk p] w (Tells w (r, none)) := by
  have H := Lib.hid h
  have HE := Aside0.mk hE
  clear h hE
  go_enter Tryz.func34, Tryz.ntmps34
  go_wp2_with (go_at_call 50; refine (H.out _ HE.out).mono ?_; rintro e w2 ⟨v, rfl, rfl, hb⟩; have HB := Aside0.mk hb; clear hb)
  go_ret2
  exact ⟨_, rfl, rfl, HB.out⟩
/-- the substitution, of every text that has no fault -/
theorem subst_fine (p : Nat) (E : List (ByteArray × ByteArray)) : ∀ n, SubsW (fine (sub (envOf E) n)) p E ∧ Subs (fine (sub (envOf E) n)) p E
  | 0 => ⟨fun t a w _ h => absurd (fine_some h).2 (by simp [sub]), fun t a w _ h => absurd (fine_some h).2 (by simp [sub])⟩
  | n + 1 => by
    obtain ⟨IW, IH⟩ := subst_fine p E n
    have hW : SubsW (fine (sub (envOf E) (n + 1))) p E := fun t a w ht h hE => by
      obtain ⟨h1, h2⟩ := fine_some h
      obtain ⟨r, c⟩ := a
      obtain rfl : c = none := h1
      rw [sub] at h2
      cases hs : scan (sub (envOf E) n) (envOf E) t 0 with
      | none => rw [hs] at h2; cases h2
      | some q =>
        rw [hs] at h2
        simp only [] at h2
        split at h2
        · rename_i hl
          injection h2 with h2
          subst h2
          exact sw_fine p E _ IH IW t r w ht hE hs hl
        · cases h2
    refine ⟨hW, fun t a w ht h hE => ?_⟩
    obtain ⟨h1, h2⟩ := fine_some h
    obtain ⟨r, c⟩ := a
    obtain rfl : c = none := h1
    exact s_fine p E t r w hE (fun W hE' => hW t (r, none) W ht h hE')
end Go.Proofs.YtlncdacoefoldaaGreatDoor.U

/- Walks: the thin package's substitution, where there is no fault; the known answer that each statement on it asks. -/
namespace Go.Proofs.YtlncdacoefoldaaGreatDoor.U
set_option linter.unusedVariables false
set_option linter.unusedSimpArgs false
set_option linter.unusedSectionVars false
open Go.RowKit Go.Proofs.YtlncdacoefoldaaGreatDoorW.PrintWords Go.Proofs.YtlncdacoefoldaaGreatDoorW.PrintLast Go.Proofs.YtlncdacoefoldaaGreatDoor.PX Go.Proofs.YtlncdacoefoldaaGreatDoor.SM Go.Proofs.YtlncdacoefoldaaGreatDoor.L Go.Proofs.YtlncdacoefoldaaGreatDoor.M

abbrev IP := S44
def sI (x : SP) : IP := ⟨x.f0, x.f1⟩
theorem to_l0 (l : List SP) (hl : l.length < 4398046511104) : ∀ n i, n = l.length - i → i ≤ l.length → laws_pairsTo.l0 (n + 1) l ((l.take i).map sI) (i : Int) = some (l.map sI)
  | 0, i, h, hi => by
    obtain rfl : i = l.length := by omega
    rw [List.take_length, laws_pairsTo.l0, if_neg (by omega)]
  | n + 1, i, h, hi => by
    have hlt : i < l.length := by omega
    rw [laws_pairsTo.l0, if_pos (by omega), if_pos (by omega), if_pos (by simp only [List.length_map, List.length_take]; omega), wrapS i (by omega)]
    have e : (l.take i).map sI ++ [(⟨(rd_T59 l i).f0, (rd_T59 l i).f1⟩ : IP)] = (l.take (i + 1)).map sI := by
      rw [List.take_succ_eq_append_getElem hlt, List.map_append, rd_get hlt]; rfl
    rw [e]
    exact to_l0 l hl n (i + 1) (by omega) (by omega)
theorem to_f (l : List SP) (hl : l.length < 4398046511104) : laws_pairsTo.f (l.length + 1) l = some (l.map sI) := by
  have := to_l0 l hl l.length 0 (by omega) (by omega)
  simpa [laws_pairsTo.f] using this
theorem fits4 (a b : ByteArray) : ∃ r, laws_zzFits4.f a b = some r := by
  unfold laws_zzFits4.f; split
  · exact ⟨_, rfl⟩
  · split <;> exact ⟨_, rfl⟩
theorem fits3_l0 (l : List SP) (hl : l.length ≤ 2147483647) : ∀ n i, n = l.length - i → i ≤ l.length → ∃ r, laws_zzFits3.l0 (n + 1) l (l.length : Int) (i : Int) = some r
  | 0, i, h, hi => by
    obtain rfl : i = l.length := by omega
    rw [laws_zzFits3.l0, if_neg (by omega)]; exact ⟨_, rfl⟩
  | n + 1, i, h, hi => by
    rw [laws_zzFits3.l0, if_pos (by omega), if_pos (by omega), if_pos (by omega), wrapS i (by omega)]
    obtain ⟨r, hr⟩ := fits4 (rd_T59 l i).f0 (rd_T59 l i).f1
    rw [hr]
    simp only [Option.bind_some]
    split
    · exact fits3_l0 l hl n (i + 1) (by omega) (by omega)
    · exact ⟨_, rfl⟩
theorem fits3 (l : List SP) : ∃ r, laws_zzFits3.f (l.length + 1) l = some r ∧ (r = true → l.length ≤ 2147483647) := by
  unfold laws_zzFits3.f
  split
  · exact ⟨_, rfl, fun h => by cases h⟩
  · obtain ⟨r, hr⟩ := fits3_l0 l (by omega) l.length 0 (by omega) (by omega)
    exact ⟨r, hr, fun _ => by omega⟩


/-- the environment of pairs -/
def envP (l : List IP) : Env := envOf (putsP l)
set_option maxHeartbeats 2000000 in
theorem impl_subst (A0 : Option Addr) (c0 : Nat) (l0 : List IP) (t r : Bs) (n : Nat) (w : World) (hr0 : Kd.C k44 w A0 l0.length l0) (hc0 : l0.length ≤ c0) (hl : l0.length ≤ 1099511627776) (ht : t.length < 1152921504606846976) (h : sub (envP l0) n t = some (r, none)) :
    Calls Tryz.prog 18 #[.string (mk t), .slice A0 l0.length c0] w fun e w' => e = .returned (.tuple #[.string (mk r), .int .i64 0]) ∧ Below w.heap.size w w' := by
  have H1 := Lib.hid (impl_look A0 c0 l0 w hr0 hc0 hl)
  have H2 := Lib.hid (fun p W hE => (subst_fine p (putsP l0) n).2 t (r, none) W ht (fine_ok h) hE)
  clear hr0 hc0 h ht
  go_enter Tryz.func18, Tryz.ntmps18
  go_wp2_with (first | (go_at_call 35; refine H1.out.mono ?_; rintro e w1 ⟨p, rfl, hE, hb⟩; have HE := Aside0.mk hE; have HB1 := Aside0.mk hb; clear hE hb) | (go_at_call 34; refine (H2.out p _ HE.out).mono ?_; rintro e w2 ⟨v, rfl, rfl, hb⟩; have HB2 := Aside0.mk (HB1.out.trans (hb.mono HB1.out.size)); clear hb))
  go_ret2
  exact ⟨rfl, HB2.out⟩
def liveP : List IP := [⟨⟨#[65]⟩, ⟨#[98]⟩⟩]
theorem live_env : envP liveP [65] = some [98] := by decide
theorem live_sub : sub (envP liveP) 2 [97, 36, 123, 65, 125] = some ([97, 98], none) := by
  have h0 : ∀ f : Bs → Ans, f [] = some ([], none) → repl f (envP liveP) [36, 123, 65, 125] = some ([98], none) := fun f _ => by
    have h1 : fb [36, 123, 65, 125] 0 false = some 3 := by decide
    have h2 : find [36, 123, 65, 125] = some ⟨[36, 123, 65, 125], [], [], [65], []⟩ := by decide
    have h3 : signOf [36, 123, 65, 125] = none := by decide
    simp [repl, h1, h2, h3, live_env]
  have ha : atM [36, 123, 65, 125] = some ⟨[36, 123, 65, 125], [], [], [65], []⟩ := by decide
  have h1 := h0 (sub (envP liveP) 1) (by simp [sub, scan])
  rw [sub, scan, atM_no _ (by decide), scan, ha]
  simp [h1, scan, LIM]
set_option maxHeartbeats 2000000 in
theorem laws_lives (w : World) :
    Calls Tryz.prog 16 #[] w fun e w' => e = .returned (.bool true) ∧ Below w.heap.size w w' := by
  have H := Lib.hid (fun A0 c0 (W : World) hr0 hc0 => impl_subst A0 c0 liveP [97, 36, 123, 65, 125] [97, 98] 2 W hr0 hc0 (by decide) (by decide) live_sub)
  have hml : (mk [97, 98]).toList = [97, 98] := mk_toList _
  go_enter Tryz.func16, Tryz.ntmps16
  go_wp2_with (first | (refine Kd.R_lit k44 (w0 := w) w.heap.size 44 rfl (N := 5) rfl (xs := liveP) (inner := [.string ⟨#[65]⟩, .string ⟨#[98]⟩]) (ok := fun _ => True) (okp := fun _ => True) ?hr ?hp (fun _ hk => hk) trivial ?hB ?hS (by simp [liveP]) ?_; (case hr => first | (go_simp; done) | (go_simp; rfl)); (case hp => exact Reps.snoc (ps := []) (cs := []) (Reps.none _ _) (k44_mkM _ _ _ _) rfl); (case hB => exact Below.refl _ _); (case hS => exact Nat.le_refl _); intro v5 w5 ho5 hb5 hg5 hn5; obtain ⟨A5, c5, rfl, hc5, hC5⟩ := Kd.R_reads ho5; have HC5 := Aside0.mk hC5; have HB5 := Aside0.mk hb5; have HL5 := Aside0.mk hc5; clear ho5 hb5 hg5 hn5 hC5 hc5) | (go_at_call 18; refine (H.out _ _ _ HC5.out HL5.out).mono ?_; rintro e w6 ⟨rfl, hb⟩; have HB6 := Aside0.mk (HB5.out.trans (hb.mono HB5.out.size)); clear hb))
  go_ret
  exact ⟨rfl, HB6.out⟩
end Go.Proofs.YtlncdacoefoldaaGreatDoor.U

/- Plain: an environment's look-up from its end on, and the bounds that a row of texts or pairs is held to. -/
namespace Go.Proofs.YtlncdacoefoldaaGreatDoor.U
set_option linter.unusedVariables false
set_option linter.unusedSimpArgs false
set_option linter.unusedSectionVars false
open Go.RowKit Go.Proofs.YtlncdacoefoldaaGreatDoorW.PrintWords Go.Proofs.YtlncdacoefoldaaGreatDoorW.PrintLast Go.Proofs.YtlncdacoefoldaaGreatDoor.PX Go.Proofs.YtlncdacoefoldaaGreatDoor.L Go.Proofs.YtlncdacoefoldaaGreatDoor.M Go.Proofs.YtlncdacoefoldaaGreatDoor.SM

theorem look_put (m : List (ByteArray × ByteArray)) (k v n : ByteArray) : SM.look (put m k v) n = if k = n then some v else SM.look m n := by
  unfold put
  split
  · rename_i h
    induction m with
    | nil => simp [has] at h
    | cons p m ih =>
      by_cases hp : p.1 = k
      · by_cases hn : k = n
        · simp [SM.look, hp, hn]
        · have hpn : ¬ p.1 = n := fun e => hn (hp.symm.trans e)
          rw [if_neg hn]
          simp only [List.map_cons, hp, if_true, SM.look]
          rw [List.find?_cons, List.find?_cons]
          simp only [hn, decide_false, hpn]
          clear ih h
          induction m with
          | nil => rfl
          | cons q m ih2 =>
            rw [List.map_cons, List.find?_cons, List.find?_cons]
            by_cases hq : q.1 = k
            · have hqn : ¬ q.1 = n := fun e => hn (hq.symm.trans e)
              rw [if_pos hq]
              simp only [hn, decide_false, hqn]
              exact ih2
            · rw [if_neg hq]
              by_cases hqn : q.1 = n
              · simp [hqn]
              · simp only [hqn, decide_false]
                exact ih2
      · have h2 : has m k = true := by
          simp [has] at h ⊢
          rcases h with h | h
          · exact absurd h hp
          · exact h
        have ih := ih h2
        rw [List.map_cons, if_neg hp]
        unfold SM.look at ih ⊢
        rw [List.find?_cons, List.find?_cons]
        by_cases hpn : p.1 = n
        · have hkn : ¬ k = n := fun e => hp (hpn.trans e.symm)
          simp [hpn, hkn]
        · simp only [hpn, decide_false]
          exact ih
  · rename_i h
    unfold SM.look
    rw [List.find?_append]
    by_cases hk : k = n
    · subst hk
      have : m.find? (fun p => decide (p.1 = k)) = none := by
        rw [List.find?_eq_none]
        intro p hp
        simp only [has, Bool.not_eq_true, List.any_eq_false] at h
        rw [h p hp]; decide
      simp [this]
    · have h1 : List.find? (fun p : ByteArray × ByteArray => decide (p.1 = n)) [(k, v)] = none := by simp [hk]
      rw [h1, if_neg hk]
      simp
theorem look_puts (l : List SP) (n : ByteArray) : SM.look (putsP (l.map sI)) n = (lastP l n).map (·.f1) := by
  induction l using Ord.snocRec with
  | nil => rfl
  | snoc l x ih =>
    have e : putsP ((l ++ [x]).map sI) = put (putsP (l.map sI)) x.f0 x.f1 := by simp [putsP, sI]
    rw [e, look_put, lastP, Ord.lastOf_snoc, ih]
    by_cases h : x.f0 = n
    · rw [if_pos h, if_pos h]; rfl
    · rw [if_neg h, if_neg h]
theorem envP_last (l : List SP) (n : Bs) : envP (l.map sI) n = (lastP l (mk n)).map (fun x => x.f1.data.toList) := by
  unfold envP envOf
  rw [look_puts]
  cases lastP l (mk n) <;> rfl
/-! ### bounds -/
theorem fitP_sub (l : List SP) : ∀ x ∈ fitP l, x ∈ l := by
  intro x hx
  have := (Ord.fit_mem (key := S59.f0) l x).1 hx
  clear hx
  revert this
  generalize x.f0 = k
  intro h
  induction l using Ord.snocRec with
  | nil => simp [Ord.lastOf] at h
  | snoc l y ih =>
    rw [Ord.lastOf_snoc] at h
    split at h
    · injection h with h; subst h; simp
    · exact List.mem_append_left _ (ih h)
theorem last_mem {l : List SP} {n : ByteArray} {x : SP} (h : lastP l n = some x) : x ∈ l := by
  revert h
  induction l using Ord.snocRec with
  | nil => intro h; simp [Ord.lastOf] at h
  | snoc l y ih =>
    intro h
    unfold lastP at h
    rw [Ord.lastOf_snoc] at h
    split at h
    · injection h with h; subst h; simp
    · exact List.mem_append_left _ (ih h)
/-! ### a row of texts -/
end Go.Proofs.YtlncdacoefoldaaGreatDoor.U

/- Plain: a reference in a text, and the value with its dollars doubled in its place; whether a text occurs in a text. -/
namespace Go.Proofs.YtlncdacoefoldaaGreatDoor.U
set_option linter.unusedVariables false
set_option linter.unusedSimpArgs false
set_option linter.unusedSectionVars false
open Go.RowKit Go.Proofs.YtlncdacoefoldaaGreatDoorW.PrintWords Go.Proofs.YtlncdacoefoldaaGreatDoorW.PrintLast Go.Proofs.YtlncdacoefoldaaGreatDoor.PX Go.Proofs.YtlncdacoefoldaaGreatDoor.L Go.Proofs.YtlncdacoefoldaaGreatDoor.M

theorem parts_blank (b : Bs) : Parts (32 :: b) := fun c r h => by
  injection h with h1 h2
  subst h1
  decide
theorem subS_of_scan {E : Env} {m : Nat} {t r : Bs} (h : scanS (subS E m) E t 0 none = some (r, none)) : subS E (m + 1) t = some (r, none) := by
  rw [subS, h]; rfl
theorem bound_plain {E E' : Env} {m : Nat} {before after name V rb ra : Bs} (hN : Name name) (hV : E' name = some V) (hag : ∀ u, u ≠ name → E u = E' u) (h1 : ¬ name <:+: before) (h2 : ¬ name <:+: after)
    (hb : subS E (m + 1) before = some (rb, none)) (ha : subS E (m + 1) after = some (ra, none)) :
    subS E' (m + 1) (before ++ 32 :: 36 :: 123 :: (name ++ 125 :: 32 :: after)) = some (rb ++ 32 :: (V ++ 32 :: ra), none) ∧ subS E' (m + 1) (before ++ 32 :: (dbl V ++ 32 :: after)) = some (rb ++ 32 :: (V ++ 32 :: ra), none) := by
  have hb' := subS_scan (subS_env (env' := E') (m + 1) before (fun u hu => hag u (fun e => h1 (e ▸ hu))) rb hb)
  have ha' := subS_scan (subS_env (env' := E') (m + 1) after (fun u hu => hag u (fun e => h2 (e ▸ hu))) ra ha)
  have h3 : scanS (subS E' m) E' (32 :: after) 0 none = some (32 :: ra, none) := by
    rw [scanS, if_pos (by decide), ha']; rfl
  constructor
  · refine subS_of_scan (scanS_join (parts_blank _) ?_ before.length before (Nat.le_refl _) rb hb')
    have h4 : scanS (subS E' m) E' (36 :: 123 :: (name ++ 125 :: 32 :: after)) 0 none = some (V ++ 32 :: ra, none) := by
      rw [scanS, if_neg (by decide), oneS_var _ _ hN, hV]
      simp only [Option.getD_some]
      rw [if_neg (by simp), scanS_skip _ _ _ _ _ (by simp)]
      have e : (123 :: (name ++ 125 :: 32 :: after)).drop (name.length + 2) = 32 :: after := by
        rw [show name.length + 2 = (name.length + 1) + 1 by rfl, List.drop_succ_cons, ← List.drop_drop, List.drop_left]; rfl
      rw [e]
      show (scanS (subS E' m) E' (32 :: after) 0 none).map _ = _
      rw [h3]; rfl
    rw [scanS, if_pos (by decide), h4]; rfl
  · refine subS_of_scan (scanS_join (parts_blank _) ?_ before.length before (Nat.le_refl _) rb hb')
    have h4 := scanS_join (parts_blank after) h3 (dbl V).length (dbl V) (Nat.le_refl _) V (scanS_dbl (subS E' m) E' V)
    rw [scanS, if_pos (by decide), h4]; rfl
/-! ### the environment with one more pair -/
theorem last_fit (l : List SP) (n : ByteArray) : lastP (fitP l) n = lastP l n := by
  have key : ∀ p, lastP (fitP l) n = some p ↔ lastP l n = some p := fun p => by
    constructor
    · intro h
      have hk := Ord.lastOf_key h
      rw [← hk] at h ⊢
      exact (Ord.fit_mem l p).1 ((Ord.lastOf_asc (Ord.fit_asc l) p).1 h)
    · intro h
      have hk := Ord.lastOf_key h
      rw [← hk] at h ⊢
      exact (Ord.lastOf_asc (Ord.fit_asc l) p).2 ((Ord.fit_mem l p).2 h)
  cases h : lastP l n with
  | none =>
    cases h2 : lastP (fitP l) n with
    | none => rfl
    | some p => have := (key p).1 h2; rw [h] at this; cases this
  | some p => exact (key p).2 h
theorem env_more {E : Env} {b : List SP} (hE : ∀ n, E n = (lastP b (mk n)).map (fun x => x.f1.data.toList)) (nm : Bs) (v : ByteArray) (u : Bs) :
    envP ((fitP (b ++ [⟨mk nm, v⟩])).map sI) u = if u = nm then some v.data.toList else E u := by
  rw [envP_last, last_fit, lastP, Ord.lastOf_snoc]
  by_cases h : u = nm
  · subst h; rw [if_pos rfl, if_pos rfl]; rfl
  · have : ¬ mk nm = mk u := fun e => h (by have := congrArg (fun x => x.data.toList) e; simpa [mk_data] using this.symm)
    rw [if_neg (show ¬ (S59.f0 (⟨mk nm, v⟩ : SP)) = mk u from this), if_neg h, hE]
/-! ### whether a text occurs in a text -/
theorem substIn_l0 (s t : ByteArray) (hs : s.size ≤ 17592186044416) (ht : t.size ≤ 17592186044416) : ∀ (n x k : Nat), n = s.size - x → x ≤ s.size + 1 → n + 2 ≤ k + (if x = s.size + 1 then 1 else 0) → ∃ r, laws_substIn.l0 k s t (x : Int) = some r ∧ (r = false → ∀ y, x ≤ y → y + t.size ≤ s.size → ¬ (s.extract y (y + t.size)).toList = t.toList)
  | n, x, 0, _, hx, hk => by split at hk <;> omega
  | n, x, k + 1, hn, hx, hk => by
    have w1 : wrap64 ((x : Int) + (t.size : Int)) = ((x + t.size : Nat) : Int) := by unfold wrap64; omega
    have w2 := (wrB x (by omega)).1
    rw [laws_substIn.l0, w1]
    by_cases h : x + t.size ≤ s.size
    · rw [if_pos (by omega), if_pos (by omega), if_pos (by omega)]
      simp only [Int.toNat_natCast]
      by_cases e : (s.extract x (x + t.size)).toList = t.toList
      · rw [if_pos e]; exact ⟨true, rfl, fun h => by cases h⟩
      · rw [if_neg e, w2]
        obtain ⟨r, hr, hf⟩ := substIn_l0 s t hs ht (s.size - (x + 1)) (x + 1) k rfl (by omega) (by
          split at hk
          · omega
          · split <;> omega)
        refine ⟨r, hr, fun h0 y hy hyt => ?_⟩
        rcases Nat.lt_or_ge x y with q | q
        · exact hf h0 y q hyt
        · obtain rfl : y = x := by omega
          exact e
    · rw [if_neg (by omega)]
      exact ⟨false, rfl, fun _ y hy hyt => absurd hyt (by omega)⟩
theorem substIn_l (s t : ByteArray) (hs : s.size ≤ 17592186044416) (ht : t.size ≤ 17592186044416) : ∃ r, laws_substIn.f (s.size + 2) s t = some r ∧ (r = false → ¬ t.data.toList <:+: s.data.toList) := by
  obtain ⟨r, hr, hf⟩ := substIn_l0 s t hs ht s.size 0 (s.size + 2) rfl (by omega) (by omega)
  refine ⟨r, hr, fun h0 hi => ?_⟩
  obtain ⟨u, v, huv⟩ := hi
  have hl := congrArg List.length huv
  rw [List.length_append, List.length_append, show t.data.toList.length = t.size from Array.length_toList, show s.data.toList.length = s.size from Array.length_toList] at hl
  refine hf h0 u.length (Nat.zero_le _) (by omega) ?_
  rw [extract_mk, mk_toList, Lib.toList_data, ← huv, Nat.add_sub_cancel_left, List.append_assoc, List.drop_left]
  have : t.size = t.data.toList.length := Array.length_toList.symm
  rw [this, List.take_left]
end Go.Proofs.YtlncdacoefoldaaGreatDoor.U

/- Shared: what the laws that ask spec.Subst twice use. -/
namespace Go.Proofs.YtlncdacoefoldaaGreatDoor.U
set_option linter.unusedVariables false
set_option linter.unusedSimpArgs false
set_option linter.unusedSectionVars false
open Go.RowKit Go.Proofs.YtlncdacoefoldaaGreatDoorW.PrintWords Go.Proofs.YtlncdacoefoldaaGreatDoorW.PrintLast Go.Proofs.YtlncdacoefoldaaGreatDoor.PX Go.Proofs.YtlncdacoefoldaaGreatDoor.L Go.Proofs.YtlncdacoefoldaaGreatDoor.M

/-- what holds of an environment of pairs whose values are short -/
theorem env_bd {b : List SP} {B : Nat} {E : Env} (hE : ∀ n, E n = (lastP b (mk n)).map (fun x => x.f1.data.toList)) (h : ∀ x ∈ b, x.f1.size ≤ B) : ∀ u y, E u = some y → y.length ≤ B := fun n v hv => by
  rw [hE n] at hv
  cases e : lastP b (mk n) with
  | none => rw [e] at hv; cases hv
  | some x =>
    rw [e] at hv
    injection hv with hv
    rw [← hv, Array.length_toList]
    exact h x (last_mem e)
/-- a text without a fault, by the package -/
theorem sub_of_subS {env : Env} {B : Nat} (hB : 1 ≤ B) (he : ∀ u y, env u = some y → y.length ≤ B) {m n : Nat} {t r : Bs} (h : subS env m t = some (r, none)) (hn : t.length < n) (ht : t.length * B ≤ 17592186044416) : sub env n t = some (r, none) :=
  spec_fine env t.length t rfl n m r hn h (Nat.le_trans (subS_bd hB he m t r none h) (by unfold LIM; omega))
theorem fineC {c : Cls} : codeC (some c) ≠ 0 := by cases c <;> decide
theorem said_bad {o : Ans} {out : ByteArray} {cls : Int} {said : Bool} (h : SaidS o out cls said) (hn : ∀ r, o ≠ some (r, none)) : said = false ∨ (said = true ∧ ¬ cls = 0) := by
  cases o with
  | none => exact .inl h
  | some p =>
    obtain ⟨r, c⟩ := p
    cases c with
    | none => exact absurd rfl (hn r)
    | some c => obtain ⟨-, h2, h3⟩ := h; exact .inr ⟨h3, by rw [h2]; exact fineC⟩
theorem fine_dec (o : Ans) : (∃ r, o = some (r, none)) ∨ (∀ r, o ≠ some (r, none)) := by
  rcases o with _ | ⟨r, _ | c⟩
  · exact .inr (fun r h => by cases h)
  · exact .inl ⟨r, rfl⟩
  · exact .inr (fun r h => by cases h)
theorem below_size {w w1 w2 : World} (h1 : Below w.heap.size w w1) (h : Below w1.heap.size w1 w2) : Below w.heap.size w w2 := below_then h1 h1.size h

end Go.Proofs.YtlncdacoefoldaaGreatDoor.U

/- The walk of laws.substWith: an environment with one more pair. -/
namespace Go.Proofs.YtlncdacoefoldaaGreatDoor.U
set_option linter.unusedVariables false
set_option linter.unusedSimpArgs false
set_option linter.unusedSectionVars false
open Go.RowKit Go.Proofs.YtlncdacoefoldaaGreatDoorW.PrintWords Go.Proofs.YtlncdacoefoldaaGreatDoorW.PrintLast Go.Proofs.YtlncdacoefoldaaGreatDoorW.PrintMore Go.Proofs.YtlncdacoefoldaaGreatDoor.PX Go.Proofs.YtlncdacoefoldaaGreatDoor.L Go.Proofs.YtlncdacoefoldaaGreatDoor.M

set_option maxHeartbeats 4000000 in
set_option maxRecDepth 100000 in
theorem laws_substWith (A1 : Option Addr) (c1 : Nat) (b : List SP) (n v : ByteArray) (w : World) (hr1 : Kd.C k59 w A1 b.length b) (hc1 : b.length ≤ c1) (hb : b.length ≤ 2147483647) :
    Calls Tryz.prog 17 #[.slice A1 b.length c1, .string n, .string v] w fun e w' => ∃ A c, e = .returned (.slice A ((fitP (b ++ [⟨n, v⟩])).map sI).length c) ∧ ((fitP (b ++ [⟨n, v⟩])).map sI).length ≤ c ∧ Kd.C k44 w' A ((fitP (b ++ [⟨n, v⟩])).map sI).length ((fitP (b ++ [⟨n, v⟩])).map sI) ∧ Below w.heap.size w w' := by
  have HR1 := Aside0.mk hr1
  have HC1 := Aside0.mk hc1
  obtain ⟨l, hl⟩ : ∃ l, l = b ++ [(⟨n, v⟩ : SP)] := ⟨_, rfl⟩
  have hll : l.length = b.length + 1 := by rw [hl]; simp
  obtain ⟨fl, hfl⟩ : ∃ fl, fl = fitP l := ⟨_, rfl⟩
  have hfll : fl.length ≤ l.length := by rw [hfl]; exact Ord.fit_length l
  have HTO := Lib.hid (to_f fl (by omega))
  rw [← hl, ← hfl]
  obtain ⟨fi, hfi⟩ : ∃ fi, fi = fl.map sI := ⟨_, rfl⟩
  rw [← hfi] at HTO ⊢
  have HL := Lib.hid hl
  have HFL := Lib.hid hfl
  have HLB : Hid (l.length ≤ 1099511627776) := Lib.hid (by omega)
  have HBL := Lib.hid hb
  clear hr1 hc1 hl hfl hfi hll hfll hb
  go_enter Tryz.func17, Tryz.ntmps17
  go_wp2_with (first
    | (refine Kd.R_lit k59 (w0 := w) w.heap.size 59 rfl (N := 7) rfl (xs := []) (inner := []) (ok := fun _ => True) (okp := fun _ => True) ?hr ?hp (fun _ hk => hk) trivial ?hB ?hS (by simp) ?_; (case hr => first | (go_simp; done) | (go_simp; rfl)); (case hp => exact Reps.none _ _); (case hB => exact Below.refl _ _); (case hS => exact Nat.le_refl _); intro v7 w7 ho7 hb7 hg7 hn7; have HO7 := Aside0.mk ho7; have HB7 := Aside0.mk hb7; clear ho7 hb7 hg7 hn7)
    | (at_builtin; refine Kd.R_append_rows k59 (Rr := fun x_ cs_ => k59.K w7 x_ cs_) (w0 := w) w.heap.size rfl _ _ 22 59 (.agg #[.string ⟨#[]⟩, .string ⟨#[]⟩]) 32 rfl Tryz.underlying22 infoP rfl (by decide) (by decide) v7 [] b A1 _ c1 (fun _ => True) (fun _ => False) rfl rfl ?hO ?hR (fun x_ cs_ h_ => by rw [k59_open h_]; exact k59_mkM _ _ _ _) (fun _ h_ => h_.elim) (fun _ _ => trivial) ?hB ?hS ?hL ?_; (case hO => exact HO7.out); (case hR => exact Kd.C_below HR1.out HB7.out); (case hB => exact HB7.out); (case hS => exact HB7.out.size); (case hL => have := HBL.out; simp only [List.length_nil]; omega); intro v9 w9 ho9 hb9 hg9 hat9; have HO9 := Aside0.mk ho9; have HB9 := Aside0.mk hb9; clear ho9 hb9 hg9 hat9)
    | (refine Kd.R_lit k59 (w0 := w) w.heap.size 59 rfl (N := 13) rfl (xs := [⟨n, v⟩]) (inner := [.string n, .string v]) (ok := fun _ => True) (okp := fun _ => True) ?hr ?hp (fun _ hk => hk) trivial ?hB ?hS (by simp) ?_; (case hr => first | (go_simp; done) | (go_simp; rfl)); (case hp => exact Reps.snoc (ps := []) (cs := []) (Reps.none _ _) (k59_mkM _ _ _ _) rfl); (case hB => exact HB9.out); (case hS => exact HB9.out.size); intro v13 w13 ho13 hb13 hg13 hn13; obtain ⟨A13, c13, rfl, hc13, hC13⟩ := Kd.R_reads ho13; have HC13 := Aside0.mk hC13; have HB13 := Aside0.mk hb13; have HO13 := Aside0.mk (Kd.R_grown HO9.out hg13 (fun k hk e => by cases e)); clear ho13 hb13 hg13 hn13 hC13 hc13)
    | (at_builtin; refine Kd.R_append_rows k59 (Rr := fun x_ cs_ => k59.K w13 x_ cs_) (w0 := w) w.heap.size rfl _ _ 22 59 (.agg #[.string ⟨#[]⟩, .string ⟨#[]⟩]) 32 rfl Tryz.underlying22 infoP rfl (by decide) (by decide) v9 ([] ++ b) [⟨n, v⟩] A13 _ c13 (fun _ => True) (fun _ => False) rfl rfl ?hO ?hR (fun x_ cs_ h_ => by rw [k59_open h_]; exact k59_mkM _ _ _ _) (fun _ h_ => h_.elim) (fun _ _ => trivial) ?hB ?hS ?hL ?_; (case hO => exact HO13.out); (case hR => exact HC13.out); (case hB => exact HB13.out); (case hS => exact HB13.out.size); (case hL => have := HBL.out; simp only [List.length_append, List.length_nil, List.length_singleton]; omega); intro v14 w14 ho14 hb14 hg14 hat14; rw [List.nil_append, ← HL.out] at ho14; obtain ⟨A14, c14, rfl, hc14, hC14⟩ := Kd.R_reads ho14; have HC14 := Aside0.mk hC14; have HL14 := Aside0.mk hc14; have HB14 := Aside0.mk hb14; clear ho14 hb14 hg14 hat14 hC14 hc14)
    | (go_at_call 12; refine (spec_FitPairs A14 c14 l _ HC14.out HL14.out HLB.out).mono ?_; rw [← HFL.out]; rintro e w15 ⟨v, rfl, ho, hd⟩; obtain ⟨A15, c15, rfl, hc15, hC15⟩ := Kd.R_reads ho; have HC15 := Aside0.mk hC15; have HL15 := Aside0.mk hc15; have HB15 : Aside0 (Below w.heap.size w w15) := Aside0.mk (below_then HB14.out HB14.out.size hd); clear ho hd hC15 hc15)
    | (go_at_call 23; refine (laws_pairsTo.calls _ A15 c15 fl fi _ HC15.out HL15.out HTO.out).mono ?_; rintro e w16 ⟨v, rfl, ho, hd⟩; obtain ⟨A16, c16, rfl, hc16, hC16⟩ := Kd.R_reads ho; have HC16 := Aside0.mk hC16; have HL16 := Aside0.mk hc16; have HB16 : Aside0 (Below w.heap.size w w16) := Aside0.mk (below_then HB15.out HB15.out.size hd); clear ho hd hC16 hc16))
  go_ret
  exact ⟨A16, c16, rfl, HL16.out, HC16.out, HB16.out⟩
end Go.Proofs.YtlncdacoefoldaaGreatDoor.U

/- The walk of laws.FnSubstEscaped. -/
namespace Go.Proofs.YtlncdacoefoldaaGreatDoor.U
set_option linter.unusedVariables false
set_option linter.unusedSimpArgs false
set_option linter.unusedSectionVars false
open Go.RowKit Go.Proofs.YtlncdacoefoldaaGreatDoorW.PrintWords Go.Proofs.YtlncdacoefoldaaGreatDoorW.PrintLast Go.Proofs.YtlncdacoefoldaaGreatDoor.PX Go.Proofs.YtlncdacoefoldaaGreatDoor.L Go.Proofs.YtlncdacoefoldaaGreatDoor.M

theorem dbl_len : ∀ l : Bs, (dbl l).length ≤ 2 * l.length
  | [] => Nat.le_refl _
  | c :: r => by
    have := dbl_len r
    unfold dbl
    split <;> simp <;> omega
end Go.Proofs.YtlncdacoefoldaaGreatDoor.U

/- The walk of laws.FnSubstBound, of what is of bulk at most 1048576. -/
namespace Go.Proofs.YtlncdacoefoldaaGreatDoor.U
set_option linter.unusedVariables false
set_option linter.unusedSimpArgs false
set_option linter.unusedSectionVars false
open Go.RowKit Go.Proofs.YtlncdacoefoldaaGreatDoorW.PrintWords Go.Proofs.YtlncdacoefoldaaGreatDoorW.PrintLast Go.Proofs.YtlncdacoefoldaaGreatDoor.PX Go.Proofs.YtlncdacoefoldaaGreatDoor.L Go.Proofs.YtlncdacoefoldaaGreatDoor.M

theorem bd_mul {n : Nat} (h : n ≤ 4194307) : n * 1048576 ≤ 17592186044416 := Nat.le_trans (Nat.mul_le_mul_right 1048576 h) (by decide)
set_option maxHeartbeats 8000000 in
set_option maxRecDepth 100000 in
theorem law_bound_main (s t n v : ByteArray) (A1 : Option Addr) (c1 : Nat) (l1 : List SP) (w : World) (hr1 : Kd.C k59 w A1 l1.length l1) (hc1 : l1.length ≤ c1)
    (hs : s.size ≤ 1048576) (ht : t.size ≤ 1048576) (hn : n.size ≤ 1048576) (hvz : v.size ≤ 1048576) (hl1 : l1.length ≤ 1048576) (hv : ∀ x ∈ l1, x.f1.size ≤ 1048576) (hf1 : laws_zzFits3.f (l1.length + 1) l1 = some true) :
    Calls Tryz.prog 3 #[.string s, .string t, .string n, .string v, .slice A1 l1.length c1] w fun e w' => e = .returned (.bool true) ∧ Below w.heap.size w w' := by
  have HR1 := Aside0.mk hr1
  have HC1 := Aside0.mk hc1
  have HF1 := Lib.hid hf1
  have hs' : ¬ (2147483647 : Int) < (s.size : Int) := by omega
  have ht' : ¬ (2147483647 : Int) < (t.size : Int) := by omega
  have hn' : ¬ (2147483647 : Int) < (n.size : Int) := by omega
  have hv' : ¬ (2147483647 : Int) < (v.size : Int) := by omega
  have HL1 : Hid (l1.length ≤ 1099511627776) := Lib.hid (by omega)
  obtain ⟨b, hb⟩ : ∃ b, b = fitP l1 := ⟨_, rfl⟩
  have hbL : b.length ≤ 1048576 := by rw [hb]; exact Nat.le_trans (Ord.fit_length l1) hl1
  have hbv : ∀ x ∈ b, x.f1.size ≤ 1048576 := by rw [hb]; exact fun x hx => hv x (fitP_sub l1 x hx)
  obtain ⟨E, hE⟩ : ∃ E, E = envP (b.map sI) := ⟨_, rfl⟩
  have hEn : ∀ n, E n = (lastP b (mk n)).map (fun x => x.f1.data.toList) := fun n => by rw [hE]; exact envP_last b n
  have hEB := env_bd hEn hbv
  have hsl : s.data.toList.length = s.size := Array.length_toList
  have htl : t.data.toList.length = t.size := Array.length_toList
  have hnl : n.data.toList.length = n.size := Array.length_toList
  have hvl : v.data.toList.length = v.size := Array.length_toList
  obtain ⟨m, hm⟩ : ∃ m, m = s.size + t.size + 1 := ⟨_, rfl⟩
  have HSP := Lib.hid (fun (x : ByteArray) (A : Option Addr) (c : Nat) (W : World) (hc : b.length ≤ c) (hr : Kd.C k59 W A b.length b) (h1 : x.size < m + 1) (h2 : x.size ≤ 1048576) => spec_Subst E 1048576 (by decide) hEB A c b hc (by omega) hEn (m + 1) x W hr h1 (by omega) (Nat.le_trans (Nat.mul_le_mul_right 1048576 h2) (by decide)))
  have HNM := Lib.hid (subname_l n (by omega))
  have hnn := nameOf_len n.data.toList
  have hNN := nameOf_is n.data.toList
  obtain ⟨N, hN⟩ : ∃ N, N = nameOf n.data.toList := ⟨_, rfl⟩
  rw [← hN] at HNM hnn hNN
  have HNN := Lib.hid hNN
  have hNl : (mk N).size = N.length := mk_size N
  obtain ⟨f, hf⟩ : ∃ f, f = (fitP (b ++ [⟨mk N, v⟩])).map sI := ⟨_, rfl⟩
  have hfL : f.length ≤ 1099511627776 := by
    rw [hf, List.length_map]
    have := Ord.fit_length (key := S59.f0) (b ++ [⟨mk N, v⟩])
    rw [List.length_append, List.length_singleton] at this
    exact Nat.le_trans this (by omega)
  obtain ⟨E', hE'⟩ : ∃ E', E' = envP f := ⟨_, rfl⟩
  have hmore : ∀ u, E' u = if u = N then some v.data.toList else E u := fun u => by rw [hE', hf]; exact env_more hEn N v u
  have hEB' : ∀ u y, E' u = some y → y.length ≤ 1048576 := fun u y h => by
    rw [hmore] at h
    split at h
    · injection h with h; rw [← h, hvl]; exact hvz
    · exact hEB u y h
  have HMO := Lib.hid hmore
  have HWT := Lib.hid (fun (A : Option Addr) (c : Nat) (W : World) (hc : b.length ≤ c) (hr : Kd.C k59 W A b.length b) => laws_substWith A c b (mk N) v W hr hc (by omega))
  rw [← hf] at HWT
  have HSU := Lib.hid (fun (x r : Bs) (A : Option Addr) (c : Nat) (W : World) (hr0 : Kd.C k44 W A f.length f) (hc0 : f.length ≤ c) (hx : x.length ≤ 4194307) (h : subS E' (m + 1) x = some (r, none)) => impl_subst A c f x r (x.length + 1) W hr0 hc0 hfL (by omega) (by rw [← hE']; exact sub_of_subS (B := 1048576) (by decide) hEB' h (Nat.lt_succ_self _) (bd_mul hx)))
  have HDB := Lib.hid (double_l v (by omega))
  have hdl := dbl_len v.data.toList
  obtain ⟨V2, hV2⟩ : ∃ V2, V2 = dbl v.data.toList := ⟨_, rfl⟩
  rw [← hV2] at HDB hdl
  obtain ⟨q1, hq1, hi1⟩ := substIn_l s (mk N) (by omega) (by omega)
  obtain ⟨q2, hq2, hi2⟩ := substIn_l t (mk N) (by omega) (by omega)
  rw [mk_data] at hi1 hi2
  have HQ1 := Lib.hid hq1
  have HQ2 := Lib.hid hq2
  have HI1 := Lib.hid hi1
  have HI2 := Lib.hid hi2
  have HBE := Lib.hid hb
  have HSM : Hid (s.size < m + 1 ∧ s.size ≤ 1048576) := Lib.hid ⟨by omega, by omega⟩
  have HTM : Hid (t.size < m + 1 ∧ t.size ≤ 1048576) := Lib.hid ⟨by omega, by omega⟩
  have HV2 := Lib.hid hV2
  have HLN : Hid (s.data.toList.length ≤ 1048576 ∧ t.data.toList.length ≤ 1048576 ∧ N.length ≤ 1048577 ∧ V2.length ≤ 2097152) := Lib.hid ⟨by omega, by omega, by omega, by omega⟩
  have hDl : (mk V2).size = V2.length := mk_size V2
  have e3 : mk (s.data.toList ++ 32 :: 36 :: 123 :: (N ++ 125 :: 32 :: t.data.toList)) = s ++ ⟨#[32, 36, 123]⟩ ++ mk N ++ ⟨#[125, 32]⟩ ++ t := by
    apply data_inj; simp [mk_data]
  have e4 : mk (s.data.toList ++ 32 :: (V2 ++ 32 :: t.data.toList)) = s ++ ⟨#[32]⟩ ++ mk V2 ++ ⟨#[32]⟩ ++ t := by
    apply data_inj; simp [mk_data]
  have E3 := Lib.hid e3
  have E4 := Lib.hid e4
  have s1 : ¬ 9223372036854775807 < s.size + 3 := by omega
  have s2 : ¬ 9223372036854775807 < s.size + 3 + (mk N).size := by omega
  have s3 : ¬ 9223372036854775807 < s.size + 3 + (mk N).size + 2 := by omega
  have s4 : ¬ 9223372036854775807 < s.size + 3 + (mk N).size + 2 + t.size := by omega
  have u1 : ¬ 9223372036854775807 < s.size + 1 := by omega
  have u2 : ¬ 9223372036854775807 < s.size + 1 + (mk V2).size := by omega
  have u3 : ¬ 9223372036854775807 < s.size + 1 + (mk V2).size + 1 := by omega
  have u4 : ¬ 9223372036854775807 < s.size + 1 + (mk V2).size + 1 + t.size := by omega
  obtain ⟨xn, hxn⟩ : ∃ xn, xn = mk N := ⟨_, rfl⟩
  obtain ⟨xd, hxd⟩ : ∃ xd, xd = mk V2 := ⟨_, rfl⟩
  rw [← hxn] at HNM HWT HQ1 HQ2 E3 s2 s3 s4
  rw [← hxd] at HDB E4 u2 u3 u4
  clear hr1 hc1 hf1 hb hE hEn hEB hm hsl htl hs ht hv hbv hl1 hbL hn hvz hnl hvl hnn hNN hN hNl hf hfL hE' hmore hEB' hdl hV2 hq1 hi1 hq2 hi2 hDl e3 e4 hxn hxd
  go_enter Tryz.func3, Tryz.ntmps3
  go_wp2_with fail
  refine (laws_zzFits3.calls _ A1 c1 l1 true _ HR1.out HC1.out HF1.out).mono ?_
  rintro e W1 ⟨rfl, hd⟩
  have HB1 : Aside0 (Below w.heap.size w W1) := Aside0.mk (by first | exact hd | exact hd.below | exact below_unN hd)
  clear hd
  go_wp2_with fail
  refine (spec_FitPairs A1 c1 l1 _ (Kd.C_below HR1.out HB1.out) HC1.out HL1.out).mono ?_
  rw [← HBE.out]
  rintro e W2 ⟨x2, rfl, ho, hd⟩
  obtain ⟨A2, c2, rfl, hc2, hC2⟩ := Kd.R_reads ho
  have HCC2 := Aside0.mk hC2
  have HLL2 := Aside0.mk hc2
  have HB2 : Aside0 (Below w.heap.size w W2) := Aside0.mk (below_size HB1.out hd)
  clear ho hd hC2 hc2
  go_wp2_with fail
  refine (spec_SubstName.calls _ n _ _ HNM.out).mono ?_
  rintro e W3 ⟨rfl, hd⟩
  have HCC3 := Aside0.mk (Kd.C_below HCC2.out hd)
  have HB3 : Aside0 (Below w.heap.size w W3) := Aside0.mk (below_size HB2.out hd)
  clear hd
  go_wp2_with fail
  refine (HSP.out s A2 c2 W3 HLL2.out HCC3.out HSM.out.1 HSM.out.2).mono ?_
  rintro e W4 ⟨o1, k1, b1, rfl, hs1, hd⟩
  have HS1 := Lib.hid hs1
  have HB4 : Aside0 (Below w.heap.size w W4) := Aside0.mk (below_size HB3.out hd)
  have HCC4 := Aside0.mk (Kd.C_below HCC3.out hd)
  clear hd hs1
  go_wp2_with fail
  refine (HSP.out t A2 c2 W4 HLL2.out HCC4.out HTM.out.1 HTM.out.2).mono ?_
  rintro e W5 ⟨o2, k2, b2, rfl, hs2, hd⟩
  have HS2 := Lib.hid hs2
  have HB5 : Aside0 (Below w.heap.size w W5) := Aside0.mk (below_size HB4.out hd)
  have HCC5 := Aside0.mk (Kd.C_below HCC4.out hd)
  clear hd hs2
  have lives : ∀ (W : World), Below w.heap.size w W → Calls Tryz.prog 16 #[] W fun e w' => e = .returned (.bool true) ∧ Below w.heap.size w w' := fun W hW => (laws_lives W).mono fun e w' ⟨h1, h2⟩ => ⟨h1, below_size hW h2⟩
  have HLV := Lib.hid lives
  clear lives
  rcases fine_dec (subS E (m + 1) s.data.toList) with ⟨ra, hra⟩ | hbad
  · rcases fine_dec (subS E (m + 1) t.data.toList) with ⟨rb, hrb⟩ | hbad
    · have hs1 := HS1.out
      have hs2 := HS2.out
      rw [hra] at hs1
      rw [hrb] at hs2
      obtain ⟨-, rfl, rfl⟩ := hs1
      obtain ⟨-, rfl, rfl⟩ := hs2
      have HRA := Lib.hid hra
      have HRB := Lib.hid hrb
      clear hra hrb
      go_wp2_with fail
      refine (laws_substIn.calls _ s xn q1 _ HQ1.out).mono ?_
      rintro e W6 ⟨rfl, hd⟩
      have HB6 : Aside0 (Below w.heap.size w W6) := Aside0.mk (by first | exact below_size HB5.out hd | exact below_size HB5.out hd.below)
      have HCC6 := Aside0.mk (Kd.C_below HCC5.out (by first | exact hd | exact hd.below))
      clear hd
      cases q1 with
      | true =>
        go_wp2_with fail
        refine (HLV.out W6 HB6.out).mono ?_
        rintro e W7 ⟨rfl, hd⟩
        have HB7 := Aside0.mk hd
        clear hd
        go_wp2
        go_ret
        exact ⟨rfl, HB7.out⟩
      | false =>
        go_wp2_with fail
        refine (laws_substIn.calls _ t xn q2 _ HQ2.out).mono ?_
        rintro e W7 ⟨rfl, hd⟩
        have HB7 : Aside0 (Below w.heap.size w W7) := Aside0.mk (by first | exact below_size HB6.out hd | exact below_size HB6.out hd.below)
        have HCC7 := Aside0.mk (Kd.C_below HCC6.out (by first | exact hd | exact hd.below))
        clear hd
        cases q2 with
        | true =>
          go_wp2_with fail
          refine (HLV.out W7 HB7.out).mono ?_
          rintro e W8 ⟨rfl, hd⟩
          have HB8 := Aside0.mk hd
          clear hd
          go_wp2
          go_ret
          exact ⟨rfl, HB8.out⟩
        | false =>
          have hp := bound_plain (E' := E') (V := v.data.toList) HNN.out (by rw [HMO.out, if_pos rfl]) (fun u hu => by rw [HMO.out, if_neg hu]) (HI1.out (by first | rfl | trivial)) (HI2.out (by first | rfl | trivial)) HRA.out HRB.out
          rw [← HV2.out] at hp
          obtain ⟨hp1, hp2⟩ := hp
          have hX := fun A c W h1 h2 => HSU.out _ _ A c W h1 h2 (by have := HLN.out; simp only [List.length_append, List.length_cons]; omega) hp1
          have hY := fun A c W h1 h2 => HSU.out _ _ A c W h1 h2 (by have := HLN.out; simp only [List.length_append, List.length_cons]; omega) hp2
          rw [E3.out] at hX
          rw [E4.out] at hY
          have HX := Lib.hid hX
          have HY := Lib.hid hY
          clear hp1 hp2 hX hY
          generalize mk (ra ++ 32 :: (v.data.toList ++ 32 :: rb)) = res at *
          go_wp2_with fail
          refine (HWT.out A2 c2 W7 HLL2.out HCC7.out).mono ?_
          rintro e W8 ⟨A8, c8, rfl, hc8, hC8, hd⟩
          have HK8 := Aside0.mk hC8
          have HL8 := Aside0.mk hc8
          have HB8 : Aside0 (Below w.heap.size w W8) := Aside0.mk (below_size HB7.out hd)
          clear hd hC8 hc8
          go_wp2_with fail
          refine (HX.out A8 c8 W8 HK8.out HL8.out).mono ?_
          rintro e W9 ⟨rfl, hd⟩
          have HK9 := Aside0.mk (Kd.C_below HK8.out hd)
          have HB9 : Aside0 (Below w.heap.size w W9) := Aside0.mk (below_size HB8.out hd)
          clear hd
          go_wp2_with fail
          refine (spec_SubstDouble.calls _ v _ _ HDB.out).mono ?_
          rintro e W10 ⟨rfl, hd⟩
          have HK10 := Aside0.mk (Kd.C_below HK9.out hd)
          have HB10 : Aside0 (Below w.heap.size w W10) := Aside0.mk (below_size HB9.out hd)
          clear hd
          go_wp2_with fail
          refine (HY.out A8 c8 W10 HK10.out HL8.out).mono ?_
          rintro e W11 ⟨rfl, hd⟩
          have HB11 : Aside0 (Below w.heap.size w W11) := Aside0.mk (below_size HB10.out hd)
          clear hd
          go_wp2_with fail
          refine (HLV.out W11 HB11.out).mono ?_
          rintro e W12 ⟨rfl, hd⟩
          have HB12 := Aside0.mk hd
          clear hd
          go_wp2
          go_ret
          exact ⟨rfl, HB12.out⟩
    · have hs1 := HS1.out
      rw [hra] at hs1
      obtain ⟨-, rfl, rfl⟩ := hs1
      have hq := said_bad HS2.out hbad
      clear hra hbad
      rcases hq with rfl | ⟨rfl, hq⟩
      all_goals (
        go_wp2_with fail
        refine (HLV.out W5 HB5.out).mono ?_
        rintro e W6 ⟨rfl, hd⟩
        have HB6 := Aside0.mk hd
        clear hd
        go_wp2
        go_ret
        exact ⟨rfl, HB6.out⟩)
  · have hq := said_bad HS1.out hbad
    clear hbad
    rcases hq with rfl | ⟨rfl, hq⟩
    · go_wp2_with fail
      refine (HLV.out W5 HB5.out).mono ?_
      rintro e W6 ⟨rfl, hd⟩
      have HB6 := Aside0.mk hd
      clear hd
      go_wp2
      go_ret
      exact ⟨rfl, HB6.out⟩
    · cases b2
      all_goals (
        go_wp2_with fail
        refine (HLV.out W5 HB5.out).mono ?_
        rintro e W6 ⟨rfl, hd⟩
        have HB6 := Aside0.mk hd
        clear hd
        go_wp2
        go_ret
        exact ⟨rfl, HB6.out⟩)
theorem law_FnSubstBound_upto (s t n v : ByteArray) (A1 : Option Addr) (c1 : Nat) (l1 : List SP) (w : World) (hr1 : Kd.C k59 w A1 l1.length l1) (hc1 : l1.length ≤ c1)
    (hs : s.size ≤ 1048576) (ht : t.size ≤ 1048576) (hn : n.size ≤ 1048576) (hvz : v.size ≤ 1048576) (hl1 : l1.length ≤ 1048576) (hv : ∀ x ∈ l1, x.f1.size ≤ 1048576) :
    Calls Tryz.prog 3 #[.string s, .string t, .string n, .string v, .slice A1 l1.length c1] w fun e w' => e = .returned (.bool true) ∧ Below w.heap.size w w' := by
  obtain ⟨r1, hf1, hs1⟩ := fits3 l1
  cases r1 with
  | false =>
    have HF1 := Lib.hid hf1
    have HR1 := Aside0.mk hr1
    have HC1 := Aside0.mk hc1
    have hs' : ¬ (2147483647 : Int) < (s.size : Int) := by omega
    have ht' : ¬ (2147483647 : Int) < (t.size : Int) := by omega
    have hn' : ¬ (2147483647 : Int) < (n.size : Int) := by omega
    have hv' : ¬ (2147483647 : Int) < (v.size : Int) := by omega
    clear hf1 hs1 hr1 hc1 hs ht hv hl1 hn hvz
    go_enter Tryz.func3, Tryz.ntmps3
    go_wp2_with fail
    refine (laws_zzFits3.calls _ A1 c1 l1 false _ HR1.out HC1.out HF1.out).mono ?_
    rintro e W1 ⟨rfl, hd⟩
    have HB1 : Aside0 (Below w.heap.size w W1) := Aside0.mk (by first | exact hd | exact hd.below | exact below_unN hd)
    clear hd
    go_wp2
    go_ret
    exact ⟨rfl, HB1.out⟩
  | true => exact law_bound_main s t n v A1 c1 l1 w hr1 hc1 hs ht hn hvz hl1 hv hf1
end Go.Proofs.YtlncdacoefoldaaGreatDoor.U
