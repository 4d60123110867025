/- Walks: the reference on several patterns, and the laws on them. -/
import Derived.Test.YtageocibgakhmaaTreeF
namespace Go.Proofs.Ytageocibgakhmaa.L
open Go.RowKit

def saidAny (l : List ByteArray) (s : ByteArray) : Bool := l.all (fun p => saidB s p) && okS s
def anyB (l : List ByteArray) (s : ByteArray) : Bool := l.any (fun p => matchesB s p)

/-- the k-th string of a slice, in a later world -/
theorem str_at {w wr : World} {A : Option Addr} {l : List ByteArray} {k : Nat} (hb : Below w.heap.size w wr) (hlt : k < l.length)
    (HV : Hid (0 < l.length → ∃ b o, A = some ⟨b, o, none⟩ ∧ b < w.heap.size ∧ ∀ i, i < l.length → w.cell? ⟨b, o + i, none⟩ = some (.string (l.getD i ByteArray.empty)))) :
    ∃ b o, A = some ⟨b, o, none⟩ ∧ b < w.heap.size ∧ wr.cell? ⟨b, o + k, none⟩ = some (.string (l.getD k ByteArray.empty)) := by
  obtain ⟨b, o, e, hlt', hc⟩ := HV.out (by omega)
  exact ⟨b, o, e, hlt', (hb.cell (p := ⟨b, o + k, none⟩) hlt').trans (hc k hlt)⟩

set_option maxHeartbeats 2000000 in
set_option maxRecDepth 100000 in
theorem spec_PathAny (l : List ByteArray) (v : Value) (s : ByteArray) (w : World) (hv : SS w v l) (hs : ∀ i, i < l.length → (l.getD i ByteArray.empty).size ≤ 2147483647) (hp : s.size ≤ 2147483647) :
    Calls Try.prog 27 #[v, .string s] w fun e w' => e = .returned (.tuple #[.bool (saidAny l s && anyB l s), .bool (saidAny l s)]) ∧ Below w.heap.size w w' := by
  obtain ⟨A, c, rfl, h1, h2, h3⟩ := hv.get
  have HV := Lib.hid h3
  have HS := Lib.hid hs
  clear h3 hv hs
  unfold maxLen at h2
  go_enter Try.func27, Try.ntmps27
  go_wp2
  go_loopw [4, 6] (fun x i wr => ∃ (k : Nat) (b : Bool), x = .bool b ∧ i = .int .i64 k ∧ k ≤ l.length ∧ Hid (l.all (fun p => saidB s p) = (l.drop k).all (fun p => saidB s p)) ∧ Hid (anyB l s = (b || anyB (l.drop k) s)) ∧ Hid (l ≠ [] → 0 < k → okS s = true) ∧ Below w.heap.size w wr) (fun _ i _ => l.length - (intOf i).toNat)
  case atStart => exact ⟨0, false, rfl, rfl, Nat.zero_le _, rfl, rfl, fun _ h => absurd h (by omega), Below.refl _ _⟩
  case round =>
    obtain ⟨k, b, rfl, rfl, hk, hA, hB, hO, hb⟩ := hrel
    by_cases hlt : k < l.length
    · obtain ⟨pb, po, rfl, hpb, hp'⟩ := str_at hb hlt HV
      have hsz := HS.out k hlt
      have st1 : Hid ((l.drop k).all (fun p => saidB s p) = (saidB s (l.getD k ByteArray.empty) && (l.drop (k + 1)).all (fun p => saidB s p))) := by
        refine Lib.hid ?_
        rw [drop_at l k hlt]
        rfl
      have st2 : Hid (anyB (l.drop k) s = (matchesB s (l.getD k ByteArray.empty) || anyB (l.drop (k + 1)) s)) := by
        refine Lib.hid ?_
        rw [drop_at l k hlt]
        rfl
      generalize l.getD k ByteArray.empty = x at *
      go_wp2_with fail
      refine (spec_PathMatches s x _ hp hsz).mono ?_
      rintro e w1 ⟨rfl, hb1⟩
      have hbb := hb.trans (hb1.mono hb.size)
      by_cases hsaid : saidB s x = true
      · have hok : Hid (l ≠ [] → 0 < k + 1 → okS s = true) := Lib.hid fun _ _ => by
          unfold saidB at hsaid
          simp only [Bool.and_eq_true] at hsaid
          exact hsaid.1.1
        rw [hsaid] at st1 ⊢
        rw [Bool.true_and] at st1
        rw [Bool.true_and]
        clear hsaid
        have hnew : Hid (anyB l s = ((b || matchesB s x) || anyB (l.drop (k + 1)) s)) := Lib.hid (by rw [hB.out, st2.out, Bool.or_assoc])
        clear hB st2
        rcases b with _ | _
        · go_wp2_with fail
          go_roundw
          case rel => exact ⟨k + 1, _, by first | rfl | simp, by go_num, hlt, hA.out.trans st1.out, hnew, hok, hbb⟩
          case measure => simp [intOf]; omega
        · go_wp2_with fail
          go_roundw
          case rel => exact ⟨k + 1, _, by first | rfl | simp, by go_num, hlt, hA.out.trans st1.out, hnew, hok, hbb⟩
          case measure => simp [intOf]; omega
      · have hs' : saidB s x = false := by simpa using hsaid
        rw [hs'] at st1 ⊢
        rw [Bool.false_and] at st1
        clear hsaid
        have X : Hid (saidAny l s = false) := Lib.hid (by unfold saidAny; rw [hA.out, st1.out]; rfl)
        go_wp2_with fail
        go_ret2
        exact ⟨by rw [X.out]; rfl, hbb⟩
    · have hd : l.drop k = [] := List.drop_of_length_le (by omega)
      have X : Hid (saidAny l s = okS s) := Lib.hid (by unfold saidAny; rw [hA.out, hd]; rfl)
      have Y : Hid (anyB l s = b) := Lib.hid (by rw [hB.out, hd]; simp [anyB])
      have Z : Hid (okS s = false → b = false) := Lib.hid fun h => by
        rcases Nat.eq_zero_or_pos k with h0 | h0
        · have hl : l = [] := List.length_eq_zero_iff.1 (by omega)
          rw [← Y.out, hl]
          rfl
        · have := hO.out (by intro e; rw [e] at hk; simp at hk; omega) h0
          rw [this] at h
          cases h
      clear hd hA hB hO
      go_wp2_with fail
      refine (spec_PathParts s _ hp).mono ?_
      rintro e w1 ⟨pv, bo, rfl, ebo, _, hb1⟩
      have E : Hid (okS s = bo) := ebo.symm
      clear ebo
      have hbb := hb.trans (hb1.mono hb.size)
      go_wp2_with fail
      go_ret2
      refine ⟨?_, hbb⟩
      rw [X.out, Y.out]
      have z := Z.out
      rw [E.out] at z ⊢
      rcases bo with _ | _
      · rw [z rfl]; rfl
      · simp

theorem anyM_any (s : ByteArray) : ∀ (l : List ByteArray), anyM (parts s) (l.map parts) = anyB l s
  | [] => rfl
  | x :: l => by
    have ih := anyM_any s l
    show (decide ((parts x).length = (parts s).length) && matB (parts s) (parts x) || anyM (parts s) (l.map parts)) = (matchesB s x || anyB l s)
    rw [ih]
    unfold matchesB
    congr 2
    by_cases h : (parts x).length = (parts s).length
    · rw [decide_eq_true h, decide_eq_true h.symm]
    · rw [decide_eq_false h, decide_eq_false (Ne.symm h)]

set_option maxHeartbeats 1000000 in
set_option maxRecDepth 100000 in
theorem law_PathAny (l : List ByteArray) (v : Value) (s : ByteArray) (w : World) (hv : SS w v l) :
    Calls Try.prog 8 #[v, .string s] w fun e w' => e = .returned (.bool true) ∧ Below w.heap.size w w' := by
  have HV := Lib.hid hv
  clear hv
  by_cases hf : (decide (l.length ≤ 2147483647) && fitsB l) = true
  · have hf' := hf
    simp only [Bool.and_eq_true, decide_eq_true_eq] at hf'
    obtain ⟨hl, hfb⟩ := hf'
    have HS := Lib.hid (fitsB_at hfb)
    clear hfb
    by_cases hp : s.size ≤ 2147483647
    · have hp' : ¬ 2147483647 < (s.size : Int) := by omega
      go_enter Try.func8, Try.ntmps8
      go_wp2_with fail
      refine (laws_zzFits2 l v _ HV.out).mono ?_
      rintro e w1 ⟨rfl, rfl⟩
      rw [hf]
      clear hf
      go_wp2_with fail
      refine (spec_PathAny l v s _ HV.out HS.out hp).mono ?_
      rintro e w1 ⟨rfl, hb1⟩
      have HV1 := Lib.hid (HV.out.below hb1)
      by_cases hsaid : saidAny l s = true
      · rw [hsaid]
        rw [Bool.true_and]
        clear hsaid
        have HA := Lib.hid (anyM_any s l)
        go_wp2_with fail
        refine (impl_MatchesAny l v s _ HV1.out (by omega) HS.out hp).mono ?_
        rintro e w2 ⟨rfl, hb2⟩
        rw [HA.out]
        have hbb := hb1.trans (hb2.mono hb1.size)
        go_wp2_with (first | (go_at_call 22; refine (treeLives _).mono ?_; rintro e w3 ⟨rfl, hb3⟩))
        go_ret
        exact ⟨by simp, hbb.trans (hb3.mono hbb.size)⟩
      · have hs' : saidAny l s = false := by simpa using hsaid
        rw [hs']
        rw [Bool.false_and]
        clear hsaid
        go_wp2_with (first | (go_at_call 22; refine (treeLives _).mono ?_; rintro e w3 ⟨rfl, hb3⟩))
        go_ret
        exact ⟨by simp, hb1.trans (hb3.mono hb1.size)⟩
    · have hp' : 2147483647 < (s.size : Int) := by omega
      go_enter Try.func8, Try.ntmps8
      go_wp2_with fail
      refine (laws_zzFits2 l v _ HV.out).mono ?_
      rintro e w1 ⟨rfl, rfl⟩
      rw [hf]
      clear hf
      go_wp2_with fail
      go_ret
      exact ⟨rfl, Below.refl _ _⟩
  · have hf' : (decide (l.length ≤ 2147483647) && fitsB l) = false := by simpa using hf
    clear hf
    go_enter Try.func8, Try.ntmps8
    go_wp2_with fail
    refine (laws_zzFits2 l v _ HV.out).mono ?_
    rintro e w1 ⟨rfl, rfl⟩
    rw [hf']
    clear hf'
    go_wp2_with fail
    go_ret
    exact ⟨rfl, Below.refl _ _⟩
end Go.Proofs.Ytageocibgakhmaa.L
