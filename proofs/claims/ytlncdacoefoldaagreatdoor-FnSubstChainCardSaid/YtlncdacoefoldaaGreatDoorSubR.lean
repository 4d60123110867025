/- Walks: each match of a text replaced, where there is no fault. -/
import Derived.Test.YtlncdacoefoldaaGreatDoorSubV
import Derived.Test.YtlncdacoefoldaaGreatDoorBytes
import Derived.Lib.AppendStr
namespace Go.Proofs.YtlncdacoefoldaaGreatDoor.U
set_option linter.unusedVariables false
set_option linter.unusedSimpArgs false
set_option linter.unusedSectionVars false
open Go.RowKit Go.Proofs.YtlncdacoefoldaaGreatDoorW.PrintWords Go.Proofs.YtlncdacoefoldaaGreatDoorW.PrintLast Go.Proofs.YtlncdacoefoldaaGreatDoor.PX Go.Proofs.YtlncdacoefoldaaGreatDoor.SM Go.Proofs.YtlncdacoefoldaaGreatDoor.L

abbrev clo (bc bm bx be : Nat) : Value := .func (.func 96) #[] #[.pointer (some ⟨bc, 0, none⟩), .pointer (some ⟨bm, 0, none⟩), .pointer (some ⟨bx, 0, none⟩), .pointer (some ⟨be, 0, none⟩)]
theorem add_zero_cell {w : World} {a : Addr} {v : Value} (h : w.cell? (a.add 0) = some v) : w.cell? a = some v := by simpa [Addr.add] using h
/-- where a match ends there is a byte of it at least -/
theorem atM_len (l : Bs) (m : M) (h : atM l = some m) : 0 < m.all.length ∧ m.all.length ≤ l.length := by
  match l, h with
  | c :: d :: r, h =>
    rw [atM] at h
    split at h
    · cases h
    · split at h
      · injection h with h; subst h; simp
      · split at h
        · injection h with h
          subst h
          have := nameN_le (d :: r)
          simp only [List.length_cons, List.length_take] at this ⊢
          omega
        · split at h
          · cases h
          · injection h with h
            subst h
            have hn := nameN_le r
            unfold bracedM
            split
            · simp [bad]
            · split
              · simp only [List.length_cons, List.length_take]; omega
              · split
                · simp [bad]
                · split
                  · simp [bad]
                  · simp only [List.length_cons, List.length_take]; omega
theorem scan_skip' (f : Bs → Ans) (env : Env) : ∀ (k : Nat) (r : Bs), k ≤ r.length → scan f env r k = scan f env (r.drop k) 0
  | 0, r, _ => by simp
  | k + 1, [], h => by simp at h
  | k + 1, c :: r, h => by rw [scan, scan_skip' f env k r (by simpa using h)]; rfl
/-- one step of it -/
theorem scan_step {f : Bs → Ans} {env : Env} {l r : Bs} (hl : l ≠ []) (h : scan f env l 0 = some (r, none)) :
    (atM l = none ∧ ∃ c q r', l = c :: q ∧ r = c :: r' ∧ scan f env q 0 = some (r', none)) ∨
    (∃ m v r', atM l = some m ∧ repl f env m.all = some (v, none) ∧ r = v ++ r' ∧ scan f env (l.drop m.all.length) 0 = some (r', none)) := by
  obtain ⟨c, q, rfl⟩ := List.exists_cons_of_ne_nil hl
  rw [scan] at h
  cases ha : atM (c :: q) with
  | none =>
    rw [ha] at h
    simp only [] at h
    cases hs : scan f env q 0 with
    | none => rw [hs] at h; cases h
    | some p =>
      rw [hs] at h
      obtain ⟨t, e⟩ := p
      injection h with h
      injection h with h1 h2
      exact .inl ⟨rfl, c, q, t, rfl, h1.symm, by rw [hs, h2]⟩
  | some m =>
    rw [ha] at h
    simp only [] at h
    obtain ⟨h1, h2⟩ := atM_len _ _ ha
    cases hr : repl f env m.all with
    | none => rw [hr] at h; cases h
    | some p =>
      obtain ⟨v, e⟩ := p
      rw [hr] at h
      simp only [] at h
      rw [scan_skip' f env _ q (by simp at h2; omega)] at h
      have ed : q.drop (m.all.length - 1) = (c :: q).drop m.all.length := by
        obtain ⟨k, hk⟩ : ∃ k, m.all.length = k + 1 := ⟨m.all.length - 1, by omega⟩
        rw [hk]; rfl
      rw [ed] at h
      cases hs : scan f env ((c :: q).drop m.all.length) 0 with
      | none => rw [hs] at h; cases h
      | some p =>
        obtain ⟨t, e'⟩ := p
        rw [hs] at h
        injection h with h
        injection h with h3 h4
        cases e with
        | some e => cases h4
        | none =>
          have : e' = none := by simpa using h4
          subst this
          exact .inr ⟨m, v, t, rfl, hr, h3.symm, hs⟩
set_option maxHeartbeats 4000000 in
set_option maxRecDepth 100000 in
theorem replace_fine (f : Bs → Ans) (env : Env) (bc bm bx be : Nat) (t r : Bs) (w : World) (ht : t.length < 1152921504606846976) (h : scan f env t 0 = some (r, none)) (hr : r.length ≤ LIM)
    (hc : ∀ (m0 v : Bs) (W : World), Below w.heap.size w W → repl f env m0 = some (v, none) → v.length ≤ LIM → m0.length < 1152921504606846976 →
      Calls Tryz.prog 96 #[.string (mk m0), .pointer (some ⟨bc, 0, none⟩), .pointer (some ⟨bm, 0, none⟩), .pointer (some ⟨bx, 0, none⟩), .pointer (some ⟨be, 0, none⟩)] W fun e w' => e = .returned (.string (mk v)) ∧ Below W.heap.size W w') :
    Calls Tryz.prog 95 #[.agg #[], .string (mk t), clo bc bm bx be] w fun e w' => e = .returned (.string (mk r)) ∧ Below w.heap.size w w' := by
  obtain ⟨b0, bi, bz0, bz1, bz2⟩ := info_parts (show (Tryz.prog.info? 5).map (fun i => (i.zero, i.size, i.bytes)) = some (some (.int .u8 0), 1, 1) by kernel_rfl)
  have hs := size_small t ht
  have HA := Lib.hid (fun i hi => at_l (mk t) i (2 * (mk t).size + 20) (by omega) hi (Nat.le_refl _))
  have HC := Lib.hid hc
  have HS := Lib.hid h
  have HSZ := Lib.hid (show (mk t).size = t.length from mk_size t)
  have hr1 : r.length ≤ 17592186044416 := hr
  clear h hc hr
  go_enter Tryz.func95, Tryz.ntmps95
  go_wp2
  go_loopw [7, 8] (fun v7 v8 wr => ∃ (i : Nat) (o q : Bs), i ≤ (mk t).size ∧ v8 = .int .i64 i ∧ Aside0 (wr.ownsRow w.heap.size 5 1 v7 o.length (o.map bv)) ∧ Hid (scan f env (t.drop i) 0 = some (q, none) ∧ o ++ q = r) ∧ Aside0 (Below w.heap.size w wr)) (fun _ v8 _ => (mk t).size - (intOf v8).toNat)
  case atStart => exact ⟨0, [], r, Nat.zero_le _, rfl, ⟨⟨rfl, .inl ⟨rfl, rfl⟩⟩⟩, ⟨by rw [List.drop_zero]; exact HS.out, rfl⟩, ⟨(Below.refl _ _).alloc (Nat.le_refl _) _⟩⟩
  case round =>
    obtain ⟨i, o, q, hi, rfl, HO, HQ, HB⟩ := hrel
    have hws : w.heap.size ≤ wr.heap.size := HB.out.size
    by_cases hlt : i < (mk t).size
    · have HD : Hid (D (mk t) i = t.drop i) := Lib.hid (by unfold D; rw [mk_data])
      have hne : t.drop i ≠ [] := fun e => by have := congrArg List.length e; rw [List.length_drop] at this; have := HSZ.out; simp at *; omega
      have hor : o.length + q.length = r.length := by rw [← HQ.out.2, List.length_append]
      rcases scan_step hne HQ.out.1 with ⟨h1, c, q1, r1, h2, h3, h4⟩ | ⟨m, v, r1, h1, h2, h3, h4⟩
      · have HK := Lib.hid (HA.out i hi)
        rw [HD.out, h1] at HK
        have hbt := D_cons (HD.out.trans h2)
        have HX := Lib.hid hbt.2.1
        have HN : Hid (scan f env (t.drop (i + 1)) 0 = some (r1, none) ∧ (o ++ [c]) ++ r1 = r) := Lib.hid ⟨by rw [← h4, ← List.drop_drop, h2]; rfl, by rw [← HQ.out.2, h3]; simp⟩
        have hle : o.length + 1 ≤ r.length := by rw [h3] at hor; simp at hor; omega
        have hg : (mk t)[i]'hlt = c := by
          have := HX.out
          unfold bt at this
          rw [dif_pos (by simpa using hlt)] at this
          exact (u8 _ _).2 (Int.natCast_inj.1 this)
        clear h1 h2 h3 h4 hbt hne hor HX
        go_wp2_with (first | (go_at_call 113; refine (template_zzAt.calls _ (mk t) (i : Int) [] 0 false _ HK.out).mono ?_; rintro e w1 ⟨v0, rfl, ho, hb⟩; have HB1 := Aside0.mk (HB.out.trans (hb.mono HB.out.size)); have HO1 := Aside0.mk (own_below HO.out hb); have hws1 := HB1.out.size; clear ho hb) | (at_builtin; refine wpList_append_own _ rfl _ _ 61 rfl w.heap.size 5 b0 (.int .u8 0) 1 1 Tryz.underlying61 bi bz0 bz1 bz2 rfl (by decide) _ _ _ rfl (HO1.out.alloc _) ⟨w1.heap.size, 0, none⟩ 1 1 [.int .u8 (c.toNat : Int)] rfl rfl ?c1 ?c2 ?c3 ?c4 ?c5 ?_; (case c1 => exact cell_one_new _ _ _); (case c2 => simp [Value.oneCell']); (case c3 => unfold maxLen; omega); (case c4 => omega); (case c5 => simp; omega); intro v' w2 hown' hgrow _))
        go_roundw
        case rel => exact ⟨i + 1, o ++ [c], r1, by omega, by go_num, ⟨by simpa [bv] using hown'⟩, HN.out, ⟨(HB1.out.alloc hws1 _).grown hgrow (by simp; omega) (fun k' hk' => (World.ownsRow.lt HO1.out k' hk').1)⟩⟩
        case measure => simp [intOf]; omega
      · have HK := Lib.hid (HA.out i hi)
        rw [HD.out, h1] at HK
        obtain ⟨g1, g2⟩ := atM_len _ _ h1
        rw [List.length_drop] at g2
        have HN : Hid (scan f env (t.drop (i + m.all.length)) 0 = some (r1, none) ∧ (o ++ v) ++ r1 = r) := Lib.hid ⟨by rw [← h4, List.drop_drop], by rw [← HQ.out.2, h3]; simp⟩
        have hle : o.length + v.length ≤ r.length := by rw [h3, List.length_append] at hor; omega
        have HV := Lib.hid (fun W hW => HC.out m.all v W hW h2 (by show v.length ≤ 17592186044416; omega) (by omega))
        have hil : i + m.all.length ≤ (mk t).size := by have := HSZ.out; omega
        have hvs : (mk v).size = v.length := mk_size v
        have HVS := Lib.hid hvs
        have hvs3 : o.length + (mk v).size ≤ 17592186044416 := by omega
        have hgl : (groups m).length = 6 := rfl
        clear h1 h2 h3 h4 hne hor g2 hvs
        go_wp2_with (first | (go_at_call 113; refine (template_zzAt.calls _ (mk t) (i : Int) (groups m) ((i + m.all.length : Nat) : Int) true _ HK.out).mono ?_; rintro e w1 ⟨v0, rfl, ho, hb⟩; have HB1 := Aside0.mk (HB.out.trans (hb.mono HB.out.size)); have HO1 := Aside0.mk (own_below HO.out hb); have hws1 := HB1.out.size; obtain ⟨A1, c1, rfl, hl1, hC1⟩ := Kd.R_reads ho; obtain ⟨ad1, rfl, hy0⟩ := Kd.at_string hC1 0 (Int.le_refl 0) (by simp [groups]); replace hy0 : w1.cell? ad1 = some (.string (mk m.all)) := add_zero_cell hy0; clear ho hb hC1) | (go_at_call 96; refine (HV.out _ HB1.out).mono ?_; rintro e w2 ⟨rfl, hb⟩; have HB2 := Aside0.mk (HB1.out.trans (hb.mono HB1.out.size)); have HO2 := Aside0.mk (own_below HO1.out hb); have hws2 := HB2.out.size; clear hb) | (at_builtin; refine Lib.wpList_append_own_string _ rfl _ _ 61 9 rfl w.heap.size 5 b0 Tryz.underlying61 Tryz.underlying9 bi bz0 bz1 bz2 _ _ _ rfl HO2.out (mk v) rfl ?c3 ?c4 ?c5 ?_; (case c3 => unfold maxLen; omega); (case c4 => omega); (case c5 => first | omega | (simp; omega)); intro v' w3 hown' hgrow _))
        go_roundw
        case rel => exact ⟨i + m.all.length, o ++ v, r1, hil, by go_num, ⟨by rw [List.length_append, ← HVS.out, List.map_append]; simpa [strCells_bv, mk_data] using hown'⟩, HN.out, ⟨HB2.out.grown hgrow hws2 (fun k' hk' => (World.ownsRow.lt HO2.out k' hk').1)⟩⟩
        case measure => simp [intOf]; omega
    · have he : t.drop i = [] := List.drop_of_length_le (by have := HSZ.out; omega)
      have hq := HQ.out.1
      rw [he, scan] at hq
      injection hq with hq
      injection hq with hq _
      have X : Hid (o = r) := Lib.hid (by rw [← HQ.out.2, ← hq, List.append_nil])
      clear he hq
      go_wp2_with (refine wpList_string_own rfl _ 61 5 9 rfl Tryz.underlying61 Tryz.underlying5 Tryz.underlying9 _ rfl _ _ (RdK.of_own HO.out) ?_)
      go_ret
      exact ⟨by rw [X.out]; rfl, HB.out⟩
end Go.Proofs.YtlncdacoefoldaaGreatDoor.U
