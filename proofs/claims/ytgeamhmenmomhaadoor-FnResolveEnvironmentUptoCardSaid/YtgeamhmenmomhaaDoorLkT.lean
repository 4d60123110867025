/- Joined texts. -/
import Derived.Test.YtgeamhmenmomhaaDoorPTx0
import Derived.Test.YtgeamhmenmomhaaDoorSM
import Derived.Lib.Hide
import Derived.Outline
import Derived.Test.YtgeamhmenmomhaaDoorPTx4
import Derived.Test.YtgeamhmenmomhaaDoorPTx7
import Derived.Test.YtgeamhmenmomhaaDoorFitPT
/- Walks: an environment: the map of its pairs, and the closure that asks it. -/
namespace Go.Proofs.YtgeamhmenmomhaaDoor.U
set_option linter.unusedVariables false
set_option linter.unusedSimpArgs false
set_option linter.unusedSectionVars false
open Go.RowKit Go.Proofs.YtgeamhmenmomhaaDoorW.PrintWords Go.Proofs.YtgeamhmenmomhaaDoorW.PrintLast Go.Proofs.YtgeamhmenmomhaaDoor.PT Go.Proofs.YtgeamhmenmomhaaDoor.SM

theorem zeroStr (w : World) : (zeroValue 9).run Tryd.prog w = .ok (.string ⟨#[]⟩) w := by kernel_rfl
def putsP (l : List S69) : List (ByteArray × ByteArray) := l.foldl (fun m p => put m p.f0 p.f1) []
theorem putsP_next {l : List S69} {i : Nat} (h : i < l.length) : putsP (l.take (i + 1)) = put (putsP (l.take i)) (rd_T69 l i).f0 (rd_T69 l i).f1 := by
  have e : rd_T69 l i = l[i] := by simp [rd_T69, List.getD_eq_getElem?_getD, List.getElem?_eq_getElem h]
  rw [List.take_succ_eq_append_getElem h, putsP, List.foldl_append, e]
  rfl
set_option maxHeartbeats 2000000 in
theorem impl_pairs (A0 : Option Addr) (c0 : Nat) (l0 : List S69) (w : World) (hr0 : Kd.C k69 w A0 l0.length l0) (hc0 : l0.length ≤ c0) (hl : l0.length ≤ 1099511627776) :
    Calls Tryd.prog 40 #[.slice A0 l0.length c0] w fun e w' => ∃ b, e = .returned (.map (some b)) ∧ TMap w' b Value.string (putsP l0) ∧ w.heap.size ≤ b ∧ Below w.heap.size w w' := by
  have HR0 := Aside0.mk hr0
  clear hr0 hc0
  have hmm := fun (W : World) (n : Int) => run_makeHint (P := Tryd.prog) Tryd.underlying76 .i64 n W
  go_enter Tryd.func40, Tryd.ntmps40
  go_wp2
  go_loopw [11] (fun v11 wr => ∃ i : Nat, i ≤ l0.length ∧ v11 = .int .i64 i ∧ Aside0 (TMap wr w.heap.size Value.string (putsP (l0.take i))) ∧ Aside0 (Below w.heap.size w wr)) (fun v11 _ => l0.length - (intOf v11).toNat)
  case atStart => exact ⟨0, Nat.zero_le _, rfl, ⟨TMap.made _ _⟩, ⟨(Below.refl _ _).alloc (Nat.le_refl _) _⟩⟩
  case round =>
    obtain ⟨i, hi, rfl, HM, HB⟩ := hrel
    by_cases hlt : i < l0.length
    · obtain ⟨ad0, rfl, hx0, hx1⟩ := at_T69 HR0.out (i : Int) (by omega) (by omega)
      replace hx0 := (HB.out.cell (World.block_lt_of_cell? w _ hx0)).trans hx0
      replace hx1 := (HB.out.cell (World.block_lt_of_cell? w _ hx1)).trans hx1
      obtain ⟨x, hx⟩ : ∃ x, x = rd_T69 l0 i := ⟨_, rfl⟩
      rw [← hx] at hx0 hx1
      simp only [Int.toNat_natCast] at hx0 hx1
      have HX := Lib.hid hx
      clear hx
      go_wp2_with (at_mapUpdate; refine wp_put rfl _ _ _ rfl Tryd.underlying76 Tryd.underlying9 rfl (HM.out.below ?b1) x.f0 x.f1 rfl rfl (w0 := w) (B := w.heap.size) ?b2 (Nat.le_refl _) ?_; (case b1 => repeat (first | exact Below.refl _ _ | apply below_alloc)); (case b2 => repeat (first | (with_reducible first | exact HB.out | apply below_alloc) | exact HB.out)); intro w1 hm1 hb1 _ _; have HM1 := Aside0.mk hm1; have HB1 := Aside0.mk hb1; clear hm1 hb1)
      go_roundw
      case rel =>
        refine ⟨i + 1, by omega, by go_num, ⟨?_⟩, HB1⟩
        rw [putsP_next hlt, ← HX.out]
        exact HM1.out
      case measure => simp [intOf]; omega
    · go_wp2
      go_ret
      obtain rfl : i = l0.length := by omega
      rw [List.take_length] at HM
      exact ⟨_, rfl, HM.out, Nat.le_refl _, HB.out⟩


/-- The environment stands behind the box p. -/
def EnvAt (w : World) (p : Nat) (E : List (ByteArray × ByteArray)) : Prop := ∃ b, w.heap[p]? = some (.cells #[.map (some b)] 76 (0, 0)) ∧ TMap w b Value.string E
theorem EnvAt.lt {w : World} {p : Nat} {E : List (ByteArray × ByteArray)} (h : EnvAt w p E) : p < w.heap.size := by
  obtain ⟨b, h1, _⟩ := h
  rcases Nat.lt_or_ge p w.heap.size with q | q
  · exact q
  · rw [Array.getElem?_eq_none q] at h1; cases h1
theorem EnvAt.below {w w' : World} {p : Nat} {E : List (ByteArray × ByteArray)} (h : EnvAt w p E) (hb : Below w.heap.size w w') : EnvAt w' p E := by
  have hp := h.lt
  obtain ⟨b, h1, h2⟩ := h
  exact ⟨b, (hb.block p hp).trans h1, h2.below hb⟩
/-- from an older world -/
theorem EnvAt.keep {B : Nat} {w w' : World} {p : Nat} {E : List (ByteArray × ByteArray)} (h : EnvAt w p E) (hB : w.heap.size ≤ B) (hb : Below B w w') : EnvAt w' p E := by
  have hp := h.lt
  obtain ⟨b, h1, h2⟩ := h
  have hbl := h2.lt
  exact ⟨b, (hb.block p (by omega)).trans h1, SMap.move h2 (hb.block b (by omega))⟩
theorem has_look {E : List (ByteArray × ByteArray)} {k : ByteArray} : has E k = (SM.look E k).isSome := by
  cases h : SM.look E k with
  | none => exact look_none.1 h
  | some v => exact (look_some h).2
theorem look1 (p : Nat) (E : List (ByteArray × ByteArray)) (k : ByteArray) (w : World) (h : EnvAt w p E) :
    Calls Tryd.prog 45 #[.string k, .pointer (some ⟨p, 0, none⟩)] w fun e w' => e = .returned (.tuple #[.string ((SM.look E k).getD ⟨#[]⟩), .bool (SM.look E k).isSome]) ∧ w = w' := by
  obtain ⟨b, h1, h2⟩ := h
  have hze := zeroStr w
  have hc : w.cell? ⟨p, 0, none⟩ = some (.map (some b)) := by simp [World.cell?, h1]
  have H2 := Aside0.mk h2
  clear h1 h2
  obtain ⟨o, ho⟩ : ∃ o, o = SM.look E k := ⟨_, rfl⟩
  have HO := Lib.hid ho
  rw [← ho]
  clear ho
  go_enter Tryd.func45, Tryd.ntmps45
  go_wp2_with (at_lookup; refine wp_look rfl _ _ true rfl Tryd.underlying76 Tryd.underlying9 rfl H2.out k rfl hze ?_; rw [if_pos rfl, has_look, ← HO.out]; simp only [Option.map_some, Option.map_none, Option.getD_some, Option.getD_none])
  go_ret2
  exact ⟨by cases o <;> rfl, rfl⟩
end Go.Proofs.YtgeamhmenmomhaaDoor.U
/- Plain: what spec.Look tells (the last pair of a name), what the thin package's map of pairs tells, the bounds on pairs. -/
namespace Go.Proofs.YtgeamhmenmomhaaDoor.U
set_option linter.unusedVariables false
set_option linter.unusedSimpArgs false
set_option linter.unusedSectionVars false
open Go.RowKit Go.Proofs.YtgeamhmenmomhaaDoorW.PrintWords Go.Proofs.YtgeamhmenmomhaaDoorW.PrintLast Go.Proofs.YtgeamhmenmomhaaDoor.PT Go.Proofs.YtgeamhmenmomhaaDoor.M Go.Proofs.YtgeamhmenmomhaaDoor.SM

abbrev SP := S51
abbrev lastP (l : List SP) (n : ByteArray) : Option SP := Ord.lastOf S51.f0 l n
theorem wrapS (i : Nat) (h : i < 4611686018427387904) : wrap64 ((i : Int) + 1) = ((i + 1 : Nat) : Int) := by unfold wrap64; omega
def lookAns (o : Option SP) : ByteArray × Bool := match o with
  | none => (⟨#[]⟩, false)
  | some x => (x.f1, true)
theorem look_l0 (l : List SP) (n : ByteArray) (hl : l.length ≤ 2147483647) : ∀ (i k : Nat), i ≤ l.length → i < k → spec_Look.l0 k l n ((i : Int) - 1) = some (lookAns (lastP (l.take i) n))
  | i, 0, _, h => by omega
  | 0, k + 1, _, _ => by
    rw [spec_Look.l0, if_neg (by omega)]
    rfl
  | i + 1, k + 1, hi, hk => by
    have hlt : i < l.length := by omega
    have e1 : ((i + 1 : Nat) : Int) - 1 = (i : Int) := by omega
    have w1 : wrap64 ((i : Int) - 1) = (i : Int) - 1 := by unfold wrap64; omega
    rw [spec_Look.l0, e1, if_pos (by omega), if_pos (by omega), if_pos (by omega), w1, look_l0 l n hl i k (by omega) (by omega), rd_get hlt, List.take_succ_eq_append_getElem hlt]
    unfold lastP
    rw [Ord.lastOf_snoc]
    by_cases h : l[i].f0 = n
    · rw [if_pos h, if_pos (by rw [h])]; rfl
    · rw [if_neg h, if_neg (fun e => h (Ord.toList_inj e))]
theorem look_l (l : List SP) (n : ByteArray) (hl : l.length ≤ 2147483647) : spec_Look.f (l.length + 1) l n = some (lookAns (lastP l n)) := by
  unfold spec_Look.f
  have w1 : wrap64 ((l.length : Int) - 1) = (l.length : Int) - 1 := by unfold wrap64; omega
  rw [w1, look_l0 l n hl l.length _ (Nat.le_refl _) (Nat.lt_succ_self _), List.take_length]
abbrev IP := S69
def sI (x : SP) : IP := ⟨x.f0, x.f1⟩
theorem to_l0 (l : List SP) (hl : l.length < 4398046511104) : ∀ n i, n = l.length - i → i ≤ l.length → laws_pairsTo.l0 (n + 1) l ((l.take i).map sI) (i : Int) = some (l.map sI)
  | 0, i, h, hi => by
    obtain rfl : i = l.length := by omega
    rw [List.take_length, laws_pairsTo.l0, if_neg (by omega)]
  | n + 1, i, h, hi => by
    have hlt : i < l.length := by omega
    rw [laws_pairsTo.l0, if_pos (by omega), if_pos (by omega), if_pos (by simp only [List.length_map, List.length_take]; omega), wrapS i (by omega)]
    have e : (l.take i).map sI ++ [(⟨(rd_T51 l i).f0, (rd_T51 l i).f1⟩ : IP)] = (l.take (i + 1)).map sI := by
      rw [List.take_succ_eq_append_getElem hlt, List.map_append, rd_get hlt]; rfl
    rw [e]
    exact to_l0 l hl n (i + 1) (by omega) (by omega)
theorem to_f (l : List SP) (hl : l.length < 4398046511104) : laws_pairsTo.f (l.length + 1) l = some (l.map sI) := by
  have := to_l0 l hl l.length 0 (by omega) (by omega)
  simpa [laws_pairsTo.f] using this
theorem look_put {β : Type} (m : List (ByteArray × β)) (k : ByteArray) (v : β) (n : ByteArray) : SM.look (put m k v) n = if k = n then some v else SM.look m n := by
  unfold put
  split
  · rename_i h
    induction m with
    | nil => simp [has] at h
    | cons p m ih =>
      by_cases hp : p.1 = k
      · by_cases hn : k = n
        · simp [SM.look, hp, hn]
        · have hpn : ¬ p.1 = n := fun e => hn (hp.symm.trans e)
          rw [if_neg hn]
          simp only [List.map_cons, hp, if_true, SM.look]
          rw [List.find?_cons, List.find?_cons]
          simp only [hn, decide_false, hpn]
          clear ih h
          induction m with
          | nil => rfl
          | cons q m ih2 =>
            rw [List.map_cons, List.find?_cons, List.find?_cons]
            by_cases hq : q.1 = k
            · have hqn : ¬ q.1 = n := fun e => hn (hq.symm.trans e)
              rw [if_pos hq]
              simp only [hn, decide_false, hqn]
              exact ih2
            · rw [if_neg hq]
              by_cases hqn : q.1 = n
              · simp [hqn]
              · simp only [hqn, decide_false]
                exact ih2
      · have h2 : has m k = true := by
          simp [has] at h ⊢
          rcases h with h | h
          · exact absurd h hp
          · exact h
        have ih := ih h2
        rw [List.map_cons, if_neg hp]
        unfold SM.look at ih ⊢
        rw [List.find?_cons, List.find?_cons]
        by_cases hpn : p.1 = n
        · have hkn : ¬ k = n := fun e => hp (hpn.trans e.symm)
          simp [hpn, hkn]
        · simp only [hpn, decide_false]
          exact ih
  · rename_i h
    unfold SM.look
    rw [List.find?_append]
    by_cases hk : k = n
    · subst hk
      have : m.find? (fun p => decide (p.1 = k)) = none := by
        rw [List.find?_eq_none]
        intro p hp
        simp only [has, Bool.not_eq_true, List.any_eq_false] at h
        rw [h p hp]; decide
      simp [this]
    · have h1 : List.find? (fun p : ByteArray × β => decide (p.1 = n)) [(k, v)] = none := by simp [hk]
      rw [h1, if_neg hk]
      simp
theorem look_puts (l : List SP) (n : ByteArray) : SM.look (putsP (l.map sI)) n = (lastP l n).map (·.f1) := by
  induction l using Ord.snocRec with
  | nil => rfl
  | snoc l x ih =>
    have e : putsP ((l ++ [x]).map sI) = put (putsP (l.map sI)) x.f0 x.f1 := by simp [putsP, sI]
    rw [e, look_put, lastP, Ord.lastOf_snoc, ih]
    by_cases h : x.f0 = n
    · rw [if_pos h, if_pos h]; rfl
    · rw [if_neg h, if_neg h]
theorem fits4_ok (a b : ByteArray) (h : laws_zzFits4.f a b = some true) : a.size ≤ 2147483647 ∧ b.size ≤ 2147483647 := by
  unfold laws_zzFits4.f at h
  split at h
  · cases h
  · split at h
    · cases h
    · constructor <;> omega
theorem fitP_sub (l : List SP) : ∀ x ∈ fitP l, x ∈ l := by
  intro x hx
  have := (Ord.fit_mem (key := S51.f0) l x).1 hx
  clear hx
  revert this
  generalize x.f0 = k
  intro h
  induction l using Ord.snocRec with
  | nil => simp [Ord.lastOf] at h
  | snoc l y ih =>
    rw [Ord.lastOf_snoc] at h
    split at h
    · injection h with h; subst h; simp
    · exact List.mem_append_left _ (ih h)
theorem last_mem {l : List SP} {n : ByteArray} {x : SP} (h : lastP l n = some x) : x ∈ l := by
  revert h
  induction l using Ord.snocRec with
  | nil => intro h; simp [Ord.lastOf] at h
  | snoc l y ih =>
    intro h
    unfold lastP at h
    rw [Ord.lastOf_snoc] at h
    split at h
    · injection h with h; subst h; simp
    · exact List.mem_append_left _ (ih h)
end Go.Proofs.YtgeamhmenmomhaaDoor.U
