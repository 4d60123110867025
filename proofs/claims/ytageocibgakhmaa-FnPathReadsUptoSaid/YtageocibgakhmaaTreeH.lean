/- Walks: the reference on what may lie below a path; the law on the order of patterns. -/
import Derived.Test.YtageocibgakhmaaTreeG
namespace Go.Proofs.Ytageocibgakhmaa.L
open Go.RowKit

def SomeTwo (e : Ending) : Prop := ∃ a b, e = .returned (.tuple #[.bool a, .bool b])

set_option maxHeartbeats 4000000 in
set_option maxRecDepth 100000 in
theorem spec_PathMay (l : List ByteArray) (v : Value) (s : ByteArray) (w : World) (hv : SS w v l) (hs : ∀ i, i < l.length → (l.getD i ByteArray.empty).size ≤ 2147483647) (hp : s.size ≤ 2147483647) :
    Calls Try.prog 29 #[v, .string s] w fun e w' => SomeTwo e ∧ Below w.heap.size w w' := by
  obtain ⟨A, c, rfl, h1, h2, h3⟩ := hv.get
  have HV := Lib.hid h3
  have HS := Lib.hid hs
  clear h3 hv hs
  unfold maxLen at h2
  go_enter Try.func29, Try.ntmps29
  go_wp2_with fail
  refine (spec_PathParts s _ hp).mono ?_
  rintro e w1 ⟨pv, ba, rfl, eba, sp1, hb1⟩
  have E := Lib.hid eba
  clear eba
  rcases ba with _ | _
  · go_wp2_with fail
    go_ret2
    exact ⟨⟨_, _, rfl⟩, hb1⟩
  · change SS w1 pv (parts s) at sp1
    have hl1 := parts_len s
    generalize parts s = a at *
    have SA := Lib.hid sp1
    obtain ⟨PA, pc, rfl, hp1, hp2, _⟩ := sp1.get
    clear sp1
    unfold maxLen at hp2
    go_wp2_with fail
    go_loopw [4, 8] (fun x i wr => ∃ (k : Nat) (b : Bool), x = .bool b ∧ i = .int .i64 k ∧ k ≤ l.length ∧ Below w.heap.size w wr ∧ Below w1.heap.size w1 wr) (fun _ i _ => l.length - (intOf i).toNat)
    case atStart => exact ⟨0, false, rfl, rfl, Nat.zero_le _, hb1, Below.refl _ _⟩
    case round =>
      obtain ⟨k, b, rfl, rfl, hk, hb, hbw⟩ := hrel
      by_cases hlt : k < l.length
      · obtain ⟨pb, po, rfl, hpb, hp'⟩ := str_at hb hlt HV
        have hsz := HS.out k hlt
        have hlx := parts_len (l.getD k ByteArray.empty)
        generalize l.getD k ByteArray.empty = x at *
        go_wp2_with fail
        refine (spec_PathParts x _ hsz).mono ?_
        rintro e w2 ⟨qv, bx, rfl, ebx, sq, hb2⟩
        have EX := Lib.hid ebx
        clear ebx
        have hbb := hb.trans (hb2.mono hb.size)
        have hbw2 := hbw.trans (hb2.mono hbw.size)
        rcases bx with _ | _
        · go_wp2_with fail
          go_ret2
          exact ⟨⟨_, _, rfl⟩, hbb⟩
        · change SS w2 qv (parts x) at sq
          generalize parts x = q at *
          have SQ := Lib.hid sq
          have SA2 := Lib.hid (SA.out.below hbw2)
          obtain ⟨QA, qc, rfl, hq1, hq2, _⟩ := sq.get
          clear sq
          unfold maxLen at hq2
          rcases hst : starB a q with _ | _
          · have HST := Lib.hid hst
            clear hst
            rcases b with _ | _
            · by_cases hle : a.length < q.length
              · go_wp2_with (first | (go_at_call 48; refine (spec_treeStar a q _ _ _ SA2.out SQ.out).mono ?_; rintro e w' ⟨rfl, rfl⟩; rw [HST.out]) | (go_at_call 49; refine (spec_treeBegins a q _ _ _ SA2.out SQ.out).mono ?_; rintro e w' ⟨rfl, n1, rfl⟩))
                go_roundw
                case rel => exact ⟨k + 1, _, by first | rfl | simp, by go_num, hlt, L.below_drewN hbb _, L.below_drewN hbw2 _⟩
                case measure => simp [intOf]; omega
              · go_wp2_with (first | (go_at_call 48; refine (spec_treeStar a q _ _ _ SA2.out SQ.out).mono ?_; rintro e w' ⟨rfl, rfl⟩; rw [HST.out]))
                go_roundw
                case rel => exact ⟨k + 1, _, by first | rfl | simp, by go_num, hlt, hbb, hbw2⟩
                case measure => simp [intOf]; omega
            · go_wp2_with (first | (go_at_call 48; refine (spec_treeStar a q _ _ _ SA2.out SQ.out).mono ?_; rintro e w' ⟨rfl, rfl⟩; rw [HST.out]))
              go_roundw
              case rel => exact ⟨k + 1, _, by first | rfl | simp, by go_num, hlt, hbb, hbw2⟩
              case measure => simp [intOf]; omega
          · have HST := Lib.hid hst
            clear hst
            go_wp2_with (first | (go_at_call 48; refine (spec_treeStar a q _ _ _ SA2.out SQ.out).mono ?_; rintro e w' ⟨rfl, rfl⟩; rw [HST.out]))
            go_ret2
            exact ⟨⟨_, _, rfl⟩, hbb⟩
      · go_wp2_with fail
        go_ret2
        exact ⟨⟨_, _, rfl⟩, hb⟩

/-! ### the order of patterns -/
def dup (l : List ByteArray) : List ByteArray := l.reverse.flatMap fun x => [x, x]
theorem dup_cons (x : ByteArray) (l : List ByteArray) : dup (x :: l) = dup l ++ [x, x] := by simp [dup]
theorem dup_length : ∀ l : List ByteArray, (dup l).length = 2 * l.length
  | [] => rfl
  | x :: l => by rw [dup_cons, List.length_append, dup_length l]; simp; omega
theorem dup_mem {l : List ByteArray} {x : ByteArray} (h : x ∈ dup l) : x ∈ l := by
  unfold dup at h
  obtain ⟨y, hy, hx⟩ := List.mem_flatMap.1 h
  have : x = y := by simpa using hx
  rw [this]
  exact List.mem_reverse.1 hy
theorem any_dup (f : ByteArray → Bool) : ∀ l : List ByteArray, (dup l).any f = l.any f
  | [] => rfl
  | x :: l => by rw [dup_cons, List.any_append, any_dup f l]; simp [Bool.or_comm]
theorem anyM_dup (a : List ByteArray) (l : List ByteArray) : anyM a ((dup l).map parts) = anyM a (l.map parts) := by
  unfold anyM
  rw [List.any_map, List.any_map, any_dup]
theorem mayM_dup (a : List ByteArray) (l : List ByteArray) : mayM a ((dup l).map parts) = mayM a (l.map parts) := by
  unfold mayM
  rw [List.any_map, List.any_map, any_dup]

theorem two_cells {w : World} {g : Nat} {x y : Value} {t : TypeId} (h : w.heap[g]? = some (.cells #[x, y] t (0, 0))) : ∀ j u, [x, y][j]? = some u → w.cell? ((⟨g, 0, none⟩ : Addr).add j) = some u := fun j u hu => by
  rw [addr_add _ _ rfl]
  simp only [World.cell?, h]
  match j, hu with
  | 0, hu => simpa using hu
  | 1, hu => simpa using hu
theorem heap_new (w : World) (o : Obj) : (w.alloc o).heap[w.heap.size]? = some o := by
  show (w.heap.push o)[w.heap.size]? = _
  simp
set_option maxHeartbeats 4000000 in
set_option maxRecDepth 100000 in
theorem law_PathOrder (l : List ByteArray) (v : Value) (s : ByteArray) (w : World) (hv : SS w v l) :
    Calls Try.prog 9 #[v, .string s] w fun e w' => e = .returned (.bool true) ∧ Below w.heap.size w w' := by
  obtain ⟨i0, hi, hz0, hz1, hz2⟩ := info_parts strInfo
  have HV := Lib.hid hv
  clear hv
  by_cases hf : (decide (l.length ≤ 2147483647) && fitsB l) = true
  · have hf' := hf
    simp only [Bool.and_eq_true, decide_eq_true_eq] at hf'
    obtain ⟨hl, hfb⟩ := hf'
    have HS := Lib.hid (fitsB_at hfb)
    have HF := Lib.hid hfb
    clear hfb
    by_cases hp : s.size ≤ 2147483647
    · have hp' : ¬ 2147483647 < (s.size : Int) := by omega
      go_enter Try.func9, Try.ntmps9
      go_wp2_with fail
      refine (laws_zzFits2 l v _ HV.out).mono ?_
      rintro e w1 ⟨rfl, rfl⟩
      rw [hf]
      clear hf
      go_wp2_with fail
      refine (spec_PathAny l v s _ HV.out HS.out hp).mono ?_
      rintro e w1 ⟨rfl, hb1⟩
      have HV1 := Lib.hid (HV.out.below hb1)
      rcases hsaid : saidAny l s with _ | _
      · clear hsaid
        rw [Bool.false_and]
        go_wp2_with (first | (go_at_call 22; refine (treeLives _).mono ?_; rintro e w3 ⟨rfl, hb3⟩))
        go_ret
        exact ⟨rfl, hb1.trans (hb3.mono hb1.size)⟩
      · clear hsaid
        rw [Bool.true_and]
        go_wp2_with fail
        refine (spec_PathMay l v s _ HV1.out HS.out hp).mono ?_
        rintro e w2 ⟨⟨ba, bb, rfl⟩, hb2⟩
        have HV2 := Lib.hid (HV1.out.below hb2)
        have hbb := hb1.trans (hb2.mono hb1.size)
        rcases bb with _ | _
        · go_wp2_with (first | (go_at_call 22; refine (treeLives _).mono ?_; rintro e w3 ⟨rfl, hb3⟩))
          go_ret
          exact ⟨rfl, hbb.trans (hb3.mono hbb.size)⟩
        · obtain ⟨A, c, rfl, h1, h2, h3⟩ := HV2.out.get
          have HC := Lib.hid h3
          clear h3
          unfold maxLen at h2
          go_wp2_with fail
          go_loopw [9, 10] (fun bk i wr => ∃ (k : Nat), i = .int .i64 ((k : Int) - 1) ∧ k ≤ l.length ∧ wr.ownsRow w2.heap.size 9 1 bk (dup (l.drop k)).length ((dup (l.drop k)).map Value.string) ∧ Below w2.heap.size w2 wr) (fun _ i _ => (intOf i + 1).toNat)
          case atStart => exact ⟨l.length, rfl, Nat.le_refl _, by rw [List.drop_length]; exact ⟨by simp [dup], .inl ⟨rfl, rfl⟩⟩, Below.refl _ _⟩
          case round =>
            obtain ⟨k, rfl, hk, hown, hb⟩ := hrel
            have hws : w2.heap.size ≤ wr.heap.size := hb.size
            by_cases h0 : 0 < k
            · obtain ⟨pb, po, rfl, hpb, hp'⟩ := str_at (k := k - 1) hb (by omega) HC
              have hx : Hid (dup (l.drop (k - 1)) = dup (l.drop k) ++ [l.getD (k - 1) ByteArray.empty, l.getD (k - 1) ByteArray.empty]) := by
                refine Lib.hid ?_
                rw [drop_at l (k - 1) (by omega), dup_cons, show k - 1 + 1 = k from by omega]
              have hln : (dup (l.drop k)).length ≤ 4294967294 := by rw [dup_length, List.length_drop]; omega
              generalize l.getD (k - 1) ByteArray.empty = x at *
              have e1 : ((k : Int) - 1).toNat = k - 1 := by omega
              have e2 : (0 : Int) ≤ (k : Int) - 1 := by omega
              have e3 : (k : Int) - 1 < (l.length : Int) := by omega
              generalize dup (l.drop k) = D at *
              go_wp2_with fail
              go_region_law (first | (refine step_append_lies _ (by rfl) _ _ 28 (by rfl) w2.heap.size 9 i0 (.string ByteArray.empty) 1 16 Try.underlying28 hi hz0 hz1 hz2 rfl (by decide) _ D.length (D.map Value.string) (by rfl) (hown.drew.alloc _) ⟨wr.heap.size, 0, none⟩ 2 2 [.string x, .string x] (by rfl) rfl (two_cells (heap_new _ _)) (by simp [Value.oneCell']) (by decide) (by unfold maxLen; omega) (by omega) (by simp; omega) _ rfl ?_; intro g cap w3 hown3 hgrow3 hat3 hlt3))
              all_goals
                go_wp2
                go_roundw
                case rel =>
                  refine ⟨k - 1, by congr 1; omega, by omega, ?_, (hb.drew.alloc hws _).grown hgrow3 (by simp; omega) (fun k' hk' => (World.ownsRow.lt hown k' hk').1)⟩
                  rw [hx.out]
                  simpa using hown3
                case measure => simp [intOf]; omega
            · obtain rfl : k = 0 := by omega
              have hbw := hbb.trans (hb.mono hbb.size)
              have HB := Lib.hid (SS.of_own hown)
              have HVr := Lib.hid (HV2.out.below hb)
              have hdl : (dup l).length ≤ 4294967296 := by rw [dup_length]; omega
              have HSd : Hid (∀ i, i < (dup l).length → ((dup l).getD i ByteArray.empty).size ≤ 2147483647) := Lib.hid fun i hi => by
                rw [List.getD_eq_getElem?_getD, List.getElem?_eq_getElem hi]
                have hm := dup_mem (List.getElem_mem hi)
                have := List.all_eq_true.1 HF.out _ hm
                simpa using this
              have HA := Lib.hid (anyM_dup (parts s) l)
              have HM := Lib.hid (mayM_dup (parts s) l)
              rw [List.drop_zero] at HB
              clear hown
              go_wp2_with fail
              refine (impl_MatchesAny l _ s _ HVr.out (by omega) HS.out hp).mono ?_
              rintro e w4 ⟨rfl, hb4⟩
              have HB4 := Lib.hid (HB.out.below hb4)
              have HV4 := Lib.hid (HVr.out.below hb4)
              have hb4' := hbw.trans (hb4.mono hbw.size)
              go_wp2_with fail
              refine (impl_MatchesAny (dup l) _ s _ HB4.out hdl HSd.out hp).mono ?_
              rintro e w5 ⟨rfl, hb5⟩
              rw [HA.out]
              have HB5 := Lib.hid (HB4.out.below hb5)
              have HV5 := Lib.hid (HV4.out.below hb5)
              have hb5' := hb4'.trans (hb5.mono hb4'.size)
              go_wp2_with fail
              refine (impl_MayContain l _ s _ HV5.out (by omega) HS.out hp).mono ?_
              rintro e w6 ⟨rfl, hb6⟩
              have HB6 := Lib.hid (HB5.out.below hb6)
              have hb6' := hb5'.trans (hb6.mono hb5'.size)
              go_wp2_with fail
              refine (impl_MayContain (dup l) _ s _ HB6.out hdl HSd.out hp).mono ?_
              rintro e w7 ⟨rfl, hb7⟩
              rw [HM.out]
              have hb7' := hb6'.trans (hb7.mono hb6'.size)
              go_wp2_with (first | (go_at_call 22; refine (treeLives _).mono ?_; rintro e w8 ⟨rfl, hb8⟩))
              go_ret
              exact ⟨by simp, hb7'.trans (hb8.mono hb7'.size)⟩
    · have hp' : 2147483647 < (s.size : Int) := by omega
      go_enter Try.func9, Try.ntmps9
      go_wp2_with fail
      refine (laws_zzFits2 l v _ HV.out).mono ?_
      rintro e w1 ⟨rfl, rfl⟩
      rw [hf]
      clear hf
      go_wp2_with fail
      go_ret
      exact ⟨rfl, Below.refl _ _⟩
  · have hf' : (decide (l.length ≤ 2147483647) && fitsB l) = false := by simpa using hf
    clear hf
    go_enter Try.func9, Try.ntmps9
    go_wp2_with fail
    refine (laws_zzFits2 l v _ HV.out).mono ?_
    rintro e w1 ⟨rfl, rfl⟩
    rw [hf']
    clear hf'
    go_wp2_with fail
    go_ret
    exact ⟨rfl, Below.refl _ _⟩
end Go.Proofs.Ytageocibgakhmaa.L
