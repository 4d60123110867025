/- Walks: a Matcher's answers; the reference's on some patterns. -/
import Derived.Test.YtageocibgakhmaaTreeE
namespace Go.Proofs.Ytageocibgakhmaa.L
open Go.RowKit

/-- any of some rows matches, at the same length -/
def anyM (a : List ByteArray) (ll : List (List ByteArray)) : Bool := ll.any fun p => decide (p.length = a.length) && matB a p
/-- any of some rows is longer, and begins with what matches -/
def mayM (a : List ByteArray) (ll : List (List ByteArray)) : Bool := ll.any fun p => decide (a.length < p.length) && matB a p
theorem drop_at' (l : List (List ByteArray)) (k : Nat) (h : k < l.length) : l.drop k = l.getD k [] :: l.drop (k + 1) := by
  rw [List.drop_eq_getElem_cons h, List.getD_eq_getElem?_getD, List.getElem?_eq_getElem h]
  rfl
/-- the k-th of a slice of slices -/
theorem SSS.get {w : World} {v : Value} {ll : List (List ByteArray)} (h : SSS w v ll) : ∃ A c, v = .slice A ll.length c ∧ ll.length ≤ c ∧ c ≤ maxLen ∧
    (0 < ll.length → ∃ b o, A = some ⟨b, o, none⟩ ∧ b < w.heap.size ∧ ∀ i, i < ll.length → ∃ pv, w.cell? ⟨b, o + i, none⟩ = some pv ∧ SS w pv (ll.getD i [])) := by
  obtain ⟨vs, ⟨A, c, rfl, h1, h0, h2, h3⟩, he⟩ := h
  refine ⟨A, c, rfl, h1, h0, fun hl => ?_⟩
  obtain ⟨b, o, e, _, hb, hc⟩ := h3 (by rw [h2]; omega)
  exact ⟨b, o, e, hb, fun i hi => ⟨vs.getD i undef, hc i (by rw [h2]; omega), he.2 i hi⟩⟩

theorem matB_take : ∀ (a b : List ByteArray), matB a (b.take a.length) = matB a b
  | [], b => by cases b <;> rfl
  | x :: a, [] => rfl
  | x :: a, y :: b => by
    show matB (x :: a) (y :: b.take a.length) = _
    unfold matB
    rw [matB_take a b]

set_option maxHeartbeats 2000000 in
set_option maxRecDepth 100000 in
theorem matcher_Matches (s : ByteArray) (ll : List (List ByteArray)) (m : Value) (w : World) (hm : IsM w m ll) (hs : s.size ≤ 2147483647) :
    Calls Try.prog 55 #[m, .string s] w fun e w' => e = .returned (.bool (anyM (parts s) ll)) ∧ Below w.heap.size w w' := by
  obtain ⟨B, sv, rfl, hB, hc, hS⟩ := hm
  obtain ⟨A, c, rfl, h1, h2, h3⟩ := hS.get
  have HV := Lib.hid h3
  clear h3 hS
  unfold maxLen at h2
  go_enter Try.func55, Try.ntmps55
  go_wp2_with fail
  refine (tree_Parts s _ hs).mono ?_
  rintro e w1 ⟨vp, rfl, sp1, hb1⟩
  have hc1 := (hb1.cell (p := ⟨B, 0, none⟩) hB).trans hc
  have hl1 := parts_len s
  replace sp1 := sp1.any
  change SS w1 vp (parts s) at sp1
  obtain ⟨a, ha⟩ : ∃ a, a = parts s := ⟨_, rfl⟩
  rw [← ha] at sp1 hl1
  have EA : Hid (parts s = a) := ha.symm
  clear ha
  have SA := Lib.hid sp1
  obtain ⟨PA, pc, rfl, hp1, hp2, _⟩ := sp1.get
  clear sp1
  unfold maxLen at hp2
  go_wp2
  go_loopw [15] (fun i wr => ∃ k : Nat, i = .int .i64 k ∧ k ≤ ll.length ∧ Hid (anyM a ll = anyM a (ll.drop k)) ∧ w1 = wr) (fun i _ => ll.length - (intOf i).toNat)
  case atStart => exact ⟨0, rfl, Nat.zero_le _, rfl, rfl⟩
  case round =>
    obtain ⟨k, rfl, hk, hH, rfl⟩ := hrel
    by_cases hlt : k < ll.length
    · obtain ⟨b, o, rfl, hb, hcell⟩ := HV.out (by omega)
      obtain ⟨pv, hcell, hps⟩ := hcell k hlt
      have hcell1 := (hb1.cell (p := ⟨b, o + k, none⟩) hb).trans hcell
      have st : Hid (anyM a (ll.drop k) = ((decide ((ll.getD k []).length = a.length) && matB a (ll.getD k [])) || anyM a (ll.drop (k + 1)))) := by
        refine Lib.hid ?_
        rw [drop_at' ll k hlt]
        rfl
      have hps1 := hps.below hb1
      clear hcell hps
      generalize ll.getD k [] = q at *
      have SQ := Lib.hid hps1
      obtain ⟨QA, qc, rfl, hq1, hq2, _⟩ := hps1.get
      clear hps1
      unfold maxLen at hq2
      by_cases hle : q.length = a.length
      · have hn : ((q.length : Int) == (a.length : Int)) = true := by rw [beq_iff_eq]; omega
        rw [decide_eq_true hle, Bool.true_and] at st
        have HL := Lib.hid hle
        clear hle
        by_cases hmt : matB a q = true
        · rw [hmt] at st
          go_wp2_with (first | (go_at_call 72; refine (tree_matchParts a q _ _ _ SA.out SQ.out (by have := HL.out; omega)).mono ?_; rintro e w' ⟨rfl, rfl⟩))
          go_ret
          exact ⟨by rw [EA.out, hH.out, st.out]; rfl, hb1⟩
        · have hmt' : matB a q = false := by simpa using hmt
          rw [hmt', Bool.false_or] at st
          clear hmt
          go_wp2_with (first | (go_at_call 72; refine (tree_matchParts a q _ _ _ SA.out SQ.out (by have := HL.out; omega)).mono ?_; rintro e w' ⟨rfl, rfl⟩))
          go_roundw
          case rel => exact ⟨k + 1, by go_num, hlt, hH.out.trans st.out, by trivial⟩
          case measure => simp [intOf]; omega
      · have hn : ((q.length : Int) == (a.length : Int)) = false := by rw [beq_eq_false_iff_ne]; omega
        rw [decide_eq_false hle, Bool.false_and, Bool.false_or] at st
        clear hle
        go_wp2
        go_roundw
        case rel => exact ⟨k + 1, by go_num, hlt, hH.out.trans st.out, by trivial⟩
        case measure => simp [intOf]; omega
    · have st : Hid (anyM a (ll.drop k) = false) := by unfold Hid; rw [List.drop_of_length_le (by omega)]; rfl
      go_wp2
      go_ret
      exact ⟨by rw [EA.out, hH.out, st.out]; rfl, hb1⟩

/-- a slice cut at its end -/
theorem SS.cut {w : World} {A : Option Addr} {c : Nat} {l : List ByteArray} (h : SS w (.slice A l.length c) l) (n : Nat) (hn : n ≤ l.length) : SS w (.slice A n c) (l.take n) := by
  obtain ⟨A', c', e, h1, h0, h2, h3⟩ := h
  injection e with e1 _ e2
  subst e1
  subst e2
  have hl : (l.take n).length = n := by rw [List.length_take]; omega
  refine ⟨A, c, by rw [hl], by rw [hl]; omega, h0, by simp, fun hp => ?_⟩
  obtain ⟨b, o, e, ok, hb, hc⟩ := h3 (by simp at hp ⊢; omega)
  refine ⟨b, o, e, ok, hb, fun i hi => ?_⟩
  rw [List.length_map, hl] at hi
  rw [hc i (by simp; omega), List.getD_eq_getElem?_getD, List.getD_eq_getElem?_getD, List.getElem?_map, List.getElem?_map, List.getElem?_take_of_lt hi]

set_option maxHeartbeats 2000000 in
set_option maxRecDepth 100000 in
theorem matcher_MayContain (s : ByteArray) (ll : List (List ByteArray)) (m : Value) (w : World) (hm : IsM w m ll) (hs : s.size ≤ 2147483647) :
    Calls Try.prog 56 #[m, .string s] w fun e w' => e = .returned (.bool (mayM (parts s) ll)) ∧ Below w.heap.size w w' := by
  obtain ⟨B, sv, rfl, hB, hc, hS⟩ := hm
  obtain ⟨A, c, rfl, h1, h2, h3⟩ := hS.get
  have HV := Lib.hid h3
  clear h3 hS
  unfold maxLen at h2
  go_enter Try.func56, Try.ntmps56
  go_wp2_with fail
  refine (tree_Parts s _ hs).mono ?_
  rintro e w1 ⟨vp, rfl, sp1, hb1⟩
  have hc1 := (hb1.cell (p := ⟨B, 0, none⟩) hB).trans hc
  have hl1 := parts_len s
  replace sp1 := sp1.any
  change SS w1 vp (parts s) at sp1
  obtain ⟨a, ha⟩ : ∃ a, a = parts s := ⟨_, rfl⟩
  rw [← ha] at sp1 hl1
  have EA : Hid (parts s = a) := ha.symm
  clear ha
  have SA := Lib.hid sp1
  obtain ⟨PA, pc, rfl, hp1, hp2, _⟩ := sp1.get
  clear sp1
  unfold maxLen at hp2
  go_wp2
  go_loopw [15] (fun i wr => ∃ k : Nat, i = .int .i64 k ∧ k ≤ ll.length ∧ Hid (mayM a ll = mayM a (ll.drop k)) ∧ w1 = wr) (fun i _ => ll.length - (intOf i).toNat)
  case atStart => exact ⟨0, rfl, Nat.zero_le _, rfl, rfl⟩
  case round =>
    obtain ⟨k, rfl, hk, hH, rfl⟩ := hrel
    by_cases hlt : k < ll.length
    · obtain ⟨b, o, rfl, hb, hcell⟩ := HV.out (by omega)
      obtain ⟨pv, hcell, hps⟩ := hcell k hlt
      have hcell1 := (hb1.cell (p := ⟨b, o + k, none⟩) hb).trans hcell
      have st : Hid (mayM a (ll.drop k) = ((decide (a.length < (ll.getD k []).length) && matB a (ll.getD k [])) || mayM a (ll.drop (k + 1)))) := by
        refine Lib.hid ?_
        rw [drop_at' ll k hlt]
        rfl
      have hps1 := hps.below hb1
      clear hcell hps
      generalize ll.getD k [] = q at *
      obtain ⟨QA, qc, rfl, hq1, hq2, _⟩ := hps1.get
      unfold maxLen at hq2
      by_cases hle : a.length < q.length
      · have SQ := Lib.hid (SS.cut hps1 a.length (by omega))
        clear hps1
        rw [decide_eq_true hle, Bool.true_and, ← matB_take] at st
        by_cases hmt : matB a (q.take a.length) = true
        · rw [hmt] at st
          go_wp2_with (first | (go_at_call 72; refine (tree_matchParts a (q.take a.length) _ _ _ SA.out SQ.out (by rw [List.length_take]; omega)).mono ?_; rintro e w' ⟨rfl, rfl⟩))
          go_ret
          exact ⟨by rw [EA.out, hH.out, st.out]; rfl, hb1⟩
        · have hmt' : matB a (q.take a.length) = false := by simpa using hmt
          rw [hmt', Bool.false_or] at st
          clear hmt
          go_wp2_with (first | (go_at_call 72; refine (tree_matchParts a (q.take a.length) _ _ _ SA.out SQ.out (by rw [List.length_take]; omega)).mono ?_; rintro e w' ⟨rfl, rfl⟩))
          go_roundw
          case rel => exact ⟨k + 1, by go_num, hlt, hH.out.trans st.out, by trivial⟩
          case measure => simp [intOf]; omega
      · rw [decide_eq_false hle, Bool.false_and, Bool.false_or] at st
        clear hps1
        go_wp2
        go_roundw
        case rel => exact ⟨k + 1, by go_num, hlt, hH.out.trans st.out, by trivial⟩
        case measure => simp [intOf]; omega
    · have st : Hid (mayM a (ll.drop k) = false) := by unfold Hid; rw [List.drop_of_length_le (by omega)]; rfl
      go_wp2
      go_ret
      exact ⟨by rw [EA.out, hH.out, st.out]; rfl, hb1⟩

theorem impl_matcher (l : List ByteArray) (v : Value) (w : World) (hv : SS w v l) (hl : l.length ≤ 4294967296) (hs : ∀ i, i < l.length → (l.getD i ByteArray.empty).size ≤ 2147483647) :
    Calls Try.prog 54 #[v] w fun e w' => MadeM w (l.map parts) e w' := by
  obtain ⟨i0, hi, hz0, hz1, hz2⟩ := info_parts pathInfo
  obtain ⟨A, c, rfl, h1, h2, h3⟩ := hv.get
  have HV := Lib.hid h3
  have HS := Lib.hid hs
  clear h3 hs hv
  unfold maxLen at h2
  go_enter Try.func54, Try.ntmps54
  go_wp2
  go_loopw [3, 8] (fun v i wr => ∃ k : Nat, i = .int .i64 k ∧ k ≤ l.length ∧ wr.ownsRow w.heap.size 58 1 v k ((l.take k).map Value.string) ∧ Below w.heap.size w wr) (fun _ i _ => l.length - (intOf i).toNat)
  case atStart => exact ⟨0, rfl, Nat.zero_le _, ⟨by simp, .inl ⟨rfl, rfl⟩⟩, Below.refl _ _⟩
  case round =>
    obtain ⟨k, rfl, hk, hown, hb⟩ := hrel
    have hws : w.heap.size ≤ wr.heap.size := hb.size
    by_cases hlt : k < l.length
    · obtain ⟨pb, po, rfl, hpb, hpc⟩ := HV.out (by omega)
      have hp := (hb.cell (p := ⟨pb, po + k, none⟩) hpb).trans (hpc k hlt)
      clear hpc
      have hx : Hid ((l.take (k + 1)).map Value.string = (l.take k).map Value.string ++ [.string (l.getD k ByteArray.empty)]) := by
        refine Lib.hid ?_
        rw [List.take_succ_eq_append_getElem hlt, List.map_append, List.getD_eq_getElem?_getD, List.getElem?_eq_getElem hlt]
        rfl
      generalize l.getD k ByteArray.empty = x at *
      go_wp2_with (first | (at_builtin; refine wpList_append_own _ rfl _ _ 81 rfl w.heap.size 58 i0 (.string ByteArray.empty) 1 16 Try.underlying81 hi hz0 hz1 hz2 rfl (by decide) _ _ _ rfl (hown.alloc _) ⟨wr.heap.size, 0, none⟩ 1 1 [.string x] rfl rfl ?c1 ?c2 ?c3 ?c4 ?c5 ?_; (case c1 => exact cell_one_new _ _ _); (case c2 => simp [Value.oneCell']); (case c3 => unfold maxLen; omega); (case c4 => omega); (case c5 => simp; omega); intro v' w1 hown' hgrow _))
      go_roundw
      case rel => exact ⟨k + 1, by go_num, hlt, by rw [hx.out]; exact hown', (hb.alloc hws _).grown hgrow (by simp; omega) (fun k hk => (World.ownsRow.lt hown k hk).1)⟩
      case measure => simp [intOf]; omega
    · have hkl : k = l.length := by omega
      have HO : Hid (SS wr u3 l) := by
        refine Lib.hid (SS.of_own (n := k) (base := w.heap.size) (e := 58) ?_)
        rw [hkl, List.take_length] at hown
        rw [hkl]
        exact hown
      clear hown hkl
      go_wp2_with fail
      refine (tree_NewMatcher l _ _ HO.out (by omega) HS.out).mono ?_
      rintro e w1 ⟨mv, rfl, hM, hb1⟩
      go_wp2
      go_ret
      exact ⟨_, rfl, hM, hb.trans (hb1.mono hws)⟩

theorem impl_MatchesAny (l : List ByteArray) (v : Value) (s : ByteArray) (w : World) (hv : SS w v l) (hl : l.length ≤ 4294967296) (hs : ∀ i, i < l.length → (l.getD i ByteArray.empty).size ≤ 2147483647) (hp : s.size ≤ 2147483647) :
    Calls Try.prog 28 #[v, .string s] w fun e w' => e = .returned (.bool (anyM (parts s) (l.map parts))) ∧ Below w.heap.size w w' := by
  go_enter Try.func28, Try.ntmps28
  go_wp2_with fail
  refine (impl_matcher l v _ hv hl hs).mono ?_
  rintro e w1 ⟨mv, rfl, hM, hb1⟩
  go_wp2_with (first | (go_at_call 55; refine (matcher_Matches s _ _ _ hM hp).mono ?_; rintro e w2 ⟨rfl, hb2⟩))
  go_ret
  exact ⟨rfl, hb1.trans (hb2.mono hb1.size)⟩

theorem impl_MayContain (l : List ByteArray) (v : Value) (s : ByteArray) (w : World) (hv : SS w v l) (hl : l.length ≤ 4294967296) (hs : ∀ i, i < l.length → (l.getD i ByteArray.empty).size ≤ 2147483647) (hp : s.size ≤ 2147483647) :
    Calls Try.prog 30 #[v, .string s] w fun e w' => e = .returned (.bool (mayM (parts s) (l.map parts))) ∧ Below w.heap.size w w' := by
  go_enter Try.func30, Try.ntmps30
  go_wp2_with fail
  refine (impl_matcher l v _ hv hl hs).mono ?_
  rintro e w1 ⟨mv, rfl, hM, hb1⟩
  go_wp2_with (first | (go_at_call 56; refine (matcher_MayContain s _ _ _ hM hp).mono ?_; rintro e w2 ⟨rfl, hb2⟩))
  go_ret
  exact ⟨rfl, hb1.trans (hb2.mono hb1.size)⟩

/-- how long a row and its texts are -/
def fitsB (l : List ByteArray) : Bool := l.all fun x => decide (x.size ≤ 2147483647)
theorem fitsB_at {l : List ByteArray} (h : fitsB l = true) : ∀ i, i < l.length → (l.getD i ByteArray.empty).size ≤ 2147483647 := fun i hi => by
  have := List.all_eq_true.1 h _ (List.getElem_mem hi)
  rw [List.getD_eq_getElem?_getD, List.getElem?_eq_getElem hi]
  simpa using this

set_option maxRecDepth 100000 in
theorem laws_zzFits2 (l : List ByteArray) (v : Value) (w : World) (hv : SS w v l) :
    Calls Try.prog 26 #[v] w fun e w' => e = .returned (.bool (decide (l.length ≤ 2147483647) && fitsB l)) ∧ w = w' := by
  obtain ⟨A, c, rfl, h1, h2, h3⟩ := hv.get
  have HV := Lib.hid h3
  clear h3 hv
  unfold maxLen at h2
  by_cases hle : l.length ≤ 2147483647
  · rw [decide_eq_true hle, Bool.true_and]
    have hle' : ¬ 2147483647 < (l.length : Int) := by omega
    go_enter Try.func26, Try.ntmps26
    go_wp2
    go_loop [10] (fun i => ∃ k : Nat, i = .int .i64 k ∧ k ≤ l.length ∧ Hid (fitsB l = fitsB (l.drop k))) (fun i => l.length - (intOf i).toNat)
    case atStart => exact ⟨0, rfl, Nat.zero_le _, rfl⟩
    case round =>
      obtain ⟨k, rfl, hk, hH⟩ := hrel
      by_cases hlt : k < l.length
      · obtain ⟨pb, po, rfl, hpb, hpc⟩ := HV.out (by omega)
        have hp := hpc k hlt
        clear hpc
        have st : Hid (fitsB (l.drop k) = (decide ((l.getD k ByteArray.empty).size ≤ 2147483647) && fitsB (l.drop (k + 1)))) := by
          refine Lib.hid ?_
          rw [drop_at l k hlt]
          rfl
        generalize l.getD k ByteArray.empty = x at *
        by_cases hx : x.size ≤ 2147483647
        · have hx' : ¬ 2147483647 < (x.size : Int) := by omega
          rw [decide_eq_true hx, Bool.true_and] at st
          clear hx
          go_wp2
          go_round
          case rel => exact ⟨k + 1, by go_num, hlt, hH.out.trans st.out⟩
          case measure => simp [intOf]; omega
        · have hx' : 2147483647 < (x.size : Int) := by omega
          rw [decide_eq_false hx, Bool.false_and] at st
          clear hx
          go_wp2
          go_ret
          exact ⟨by rw [hH.out, st.out]; rfl, rfl⟩
      · have st : Hid (fitsB (l.drop k) = true) := by unfold Hid; rw [List.drop_of_length_le (by omega)]; rfl
        go_wp2
        go_ret
        exact ⟨by rw [hH.out, st.out]; rfl, rfl⟩
  · rw [decide_eq_false hle, Bool.false_and]
    have hle' : 2147483647 < (l.length : Int) := by omega
    go_enter Try.func26, Try.ntmps26
    go_wp2
    go_ret
    exact ⟨rfl, rfl⟩
end Go.Proofs.Ytageocibgakhmaa.L
