/- Joined texts. -/
import Derived.Test.YtiamiagjkfioiaaGreatDoorRows
import Derived.Test.YtiamiagjkfioiaaGreatDoorL
import Derived.Test.YtiamiagjkfioiaaGreatDoorUqP
import Derived.Test.YtiamiagjkfioiaaGreatDoorTwin
import Derived.Test.YtiamiagjkfioiaaGreatDoorPTx4
import Derived.Test.YtiamiagjkfioiaaGreatDoorPTx5
import Derived.Test.YtiamiagjkfioiaaGreatDoorPTx6
import Derived.Test.YtiamiagjkfioiaaGreatDoorPTx7
/- A text as a value of a configuration. -/
namespace Go.Proofs.YtiamiagjkfioiaaGreatDoor.L
set_option linter.unusedVariables false
set_option linter.unusedSimpArgs false
set_option linter.unusedSectionVars false
open Go.RowKit

def valT (s : ByteArray) : Value := .agg #[.int .i64 3, .int .i64 0, .string s, .slice none 0 0, .slice none 0 0]

theorem spec_T_at (s : ByteArray) (w : World) :
    Calls Tryz.prog 26 #[.string s] w fun e w' => e = .returned (valT s) ∧ w' = w.alloc (Obj.cells #[.int .i64 3, .int .i64 0, .string s, .slice none 0 0, .slice none 0 0] 26) := by
  go_enter Tryz.func26, Tryz.ntmps26
  go_wp2
  refine bodyPost_ret (v := valT s) (by simp [results, Tryz.results26, go_sem]; rfl) rfl ?_
  exact ⟨rfl, rfl⟩
theorem spec_T (s : ByteArray) (w : World) :
    Calls Tryz.prog 26 #[.string s] w fun e w' => e = .returned (valT s) ∧ Below w.heap.size w w' := by
  refine (spec_T_at s w).mono ?_
  rintro e w' ⟨rfl, rfl⟩
  exact ⟨rfl, (Below.refl _ _).alloc (Nat.le_refl _) _⟩

end Go.Proofs.YtiamiagjkfioiaaGreatDoor.L
/- Plain: what the printed functions mergeSplit, UniqueNamed, Texts answer; sayName, sayPairs answer at all. -/
namespace Go.Proofs.YtiamiagjkfioiaaGreatDoor.A
set_option linter.unusedVariables false
set_option linter.unusedSimpArgs false
set_option linter.unusedSectionVars false
open Go.RowKit Go.Proofs.YtiamiagjkfioiaaGreatDoorW.PrintWords Go.Proofs.YtiamiagjkfioiaaGreatDoorW.PrintLast Go.Proofs.YtiamiagjkfioiaaGreatDoorW.PrintMore Go.Proofs.YtiamiagjkfioiaaGreatDoor.PT Go.Proofs.YtiamiagjkfioiaaGreatDoor.L Go.Proofs.YtiamiagjkfioiaaGreatDoor.SM

def Evn (P : Nat → Prop) : Prop := ∃ N, ∀ K, N ≤ K → P K
theorem Evn.imp {P Q : Nat → Prop} (h : Evn P) (hi : ∀ K, P K → Q K) : Evn Q := by
  obtain ⟨N, h⟩ := h
  exact ⟨N, fun K hK => hi K (h K hK)⟩
theorem Evn.and {P Q : Nat → Prop} (h : Evn P) (k : Evn Q) : Evn (fun K => P K ∧ Q K) := by
  obtain ⟨N, h⟩ := h
  obtain ⟨M, k⟩ := k
  exact ⟨N + M, fun K hK => ⟨h K (by omega), k K (by omega)⟩⟩
theorem Evn.up {P Q : Nat → Prop} (h : Evn P) (hi : ∀ K, P K → Q (K + 1)) : Evn Q := by
  obtain ⟨N, h⟩ := h
  refine ⟨N + 1, fun K hK => ?_⟩
  obtain ⟨K, rfl⟩ : ∃ k, K = k + 1 := ⟨K - 1, by omega⟩
  exact hi K (h K (by omega))
theorem Evn.tt : Evn (fun _ => True) := ⟨0, fun _ _ => trivial⟩
theorem Evn.get {P : Nat → Prop} (h : Evn P) : ∃ K, P K := by
  obtain ⟨N, h⟩ := h
  exact ⟨N, h N (Nat.le_refl _)⟩
theorem wrS {i : Nat} (h : i < 4611686018427387904) : wrap64 ((i : Int) + 1) = ((i + 1 : Nat) : Int) := by unfold wrap64; omega
theorem nameE (s : ByteArray) (hs : s.size ≤ 1099511627776) : ∀ n i, n = s.size - i → i ≤ s.size → Evn fun K => ∃ r, spec_sayName.l0 K s (i : Int) = some r
  | 0, i, h, hi => Evn.tt.up fun K _ => by
    rw [spec_sayName.l0, if_neg (by omega)]
    exact ⟨_, rfl⟩
  | n + 1, i, h, hi => (nameE s hs n (i + 1) (by omega) (by omega)).up fun K ⟨r, hr⟩ => by
    rw [spec_sayName.l0, if_pos (by omega), if_pos (by omega), wrS (by omega), hr]
    repeat' split
    all_goals first | exact ⟨r, rfl⟩ | exact ⟨false, rfl⟩
theorem nameF (s : ByteArray) (hs : s.size ≤ 1099511627776) : Evn fun K => ∃ r, spec_sayName.f K s = some r := nameE s hs s.size 0 (by omega) (by omega)
theorem bt_at {s : ByteArray} {i : Nat} (h : i < s.size) : bt s (i : Int) = (s[i].toNat : Int) := by
  unfold bt
  rw [dif_pos (by simpa using h)]
  simp
theorem splitE (s : ByteArray) (hs : s.size ≤ 1099511627776) : ∀ n i, n = s.size - i → i ≤ s.size → (∀ j (h : j < s.size), j < i → s[j] ≠ 61) → Evn fun K => ∃ y : Int × Int × ByteArray × List ByteArray × List SV, spec_mergeSplit.l0 K s (i : Int) = some (L.keyOf s, y)
  | 0, i, h, hi, hno => Evn.tt.up fun K _ => by
    rw [spec_mergeSplit.l0, if_neg (by omega)]
    have hm : Lib.index s.data.toList [61] = -1 := by
      refine Lib.index_past (s := s.data.toList) (sub := [61]) (i := s.size) (by intro e; cases e) ?_ (by rw [← Lib.size_eq]; simp)
      intro j hj
      rw [occ61]
      simp only [decide_eq_false_iff_not]
      intro hc
      have hjs : j < s.size := hj
      rw [getElem_data s j hjs] at hc
      injection hc with hc
      exact hno j hjs (by omega) hc
    exact ⟨_, by rw [keyOf_miss s hm]⟩
  | n + 1, i, h, hi, hno => by
    have his : i < s.size := by omega
    by_cases hb : s[i] = 61
    · refine Evn.tt.up fun K _ => ?_
      have hhit : Lib.index s.data.toList [61] = i := by
        refine Lib.index_hit (s := s.data.toList) (sub := [61]) (i := i) ?_ (by rw [← Lib.size_eq]; omega) (by rw [occ61, getElem_data s i his, hb]; simp)
        intro j hj
        rw [occ61]
        simp only [decide_eq_false_iff_not]
        intro hc
        have hjs : j < s.size := by omega
        rw [getElem_data s j hjs] at hc
        injection hc with hc
        exact hno j hjs hj hc
      rw [spec_mergeSplit.l0, if_pos (by omega), if_pos (by omega), bt_at his, if_pos (by rw [hb]; rfl), if_pos (by omega), wrS (by omega), if_pos (by omega), if_pos (by omega)]
      simp only [spec_T.f, Option.bind_some, Int.toNat_natCast]
      exact ⟨(_, _, _, _, _), by rw [keyOf_hit s i hhit]⟩
    · refine (splitE s hs n (i + 1) (by omega) (by omega) (fun j hj hlt => ?_)).up fun K ⟨y, hy⟩ => ?_
      · by_cases e : j = i
        · subst e; exact hb
        · exact hno j hj (by omega)
      · rw [spec_mergeSplit.l0, if_pos (by omega), if_pos (by omega), bt_at his, if_neg (fun e => hb (by
          have : s[i].toNat = 61 := by omega
          exact UInt8.toNat_inj.1 this)), wrS (by omega)]
        exact ⟨y, hy⟩
theorem splitF (s : ByteArray) (hs : s.size ≤ 1099511627776) : Evn fun K => ∃ y : Int × Int × ByteArray × List ByteArray × List SV, spec_mergeSplit.f K s = some (L.keyOf s, y) := splitE s hs s.size 0 (by omega) (by omega) (fun j _ h => absurd h (Nat.not_lt_zero _))
/-- what is left of the inner loop, from place i on, with 'at' so far -/
theorem uniqIn (ss out : List ByteArray) (x : Nat) (s : ByteArray) (hx : x < ss.length) (hxb : x < 1099511627776) (hsx : ss[x]'hx = s) (ho : out.length ≤ 1048576) (hs : ∀ q ∈ out, q.size ≤ 1099511627776) (hn : (out.map L.keyOf).Nodup) (r : List ByteArray)
    (hnx : Evn fun K => spec_UniqueNamed.l0 K ss (upd out s) ((x + 1 : Nat) : Int) = some r) :
    ∀ n i a, n = out.length - i → i ≤ out.length → ((a = out.length ∧ ∀ j (h : j < out.length), j < i → L.keyOf (out[j]'h) ≠ L.keyOf s) ∨ ∃ h : a < out.length, a < i ∧ L.keyOf (out[a]'h) = L.keyOf s) → Evn fun K => spec_UniqueNamed.l1 K ss out (x : Int) (L.keyOf s) (a : Int) (i : Int) = some r
  | 0, i, a, h, hi, hcase => hnx.up fun K hK => by
    rw [spec_UniqueNamed.l1, if_neg (by omega)]
    have hrd : rdOf ByteArray.empty ss (x : Int) = s := by rw [← hsx]; simp [rdOf, List.getD_eq_getElem?_getD, List.getElem?_eq_getElem hx]
    rcases hcase with ⟨ha, hno⟩ | ⟨ha, hai, hk⟩
    · have hu : upd out s = out ++ [s] := upd_new (fun hm => by
        obtain ⟨q, hq, e⟩ := List.mem_map.1 hm
        obtain ⟨j, hj, rfl⟩ := List.mem_iff_getElem.1 hq
        exact hno j hj (by omega) e)
      rw [if_pos (by omega), if_pos (by omega), Option.bind_some, if_pos (by omega), if_pos (by omega), if_pos (by omega), if_pos (by rw [List.length_append, List.length_singleton]; omega), hrd, wrS (by omega)]
      have e : (out ++ [(⟨#[]⟩ : ByteArray)]).set (a : Int).toNat s = upd out s := by
        rw [hu, ha, Int.toNat_natCast]
        simp [List.set_append]
      rw [e]
      exact hK
    · rw [if_neg (by omega), if_pos (by omega), if_pos (by omega), if_pos (by omega), if_pos (by omega), hrd, wrS (by omega), Int.toNat_natCast, ← upd_at hn ha hk]
      exact hK
  | n + 1, i, a, h, hi, hcase => by
    have hio : i < out.length := by omega
    by_cases hk : L.keyOf (out[i]'hio) = L.keyOf s
    · refine ((uniqIn ss out x s hx hxb hsx ho hs hn r hnx n (i + 1) i (by omega) (by omega) (.inr ⟨hio, by omega, hk⟩)).and (splitF (out[i]'hio) (hs _ (List.getElem_mem hio)))).up fun K ⟨h1, y, hy⟩ => ?_
      have hrd : rdOf ByteArray.empty out (i : Int) = out[i]'hio := by simp [rdOf, List.getD_eq_getElem?_getD, List.getElem?_eq_getElem hio]
      rw [spec_UniqueNamed.l1, if_pos (by omega), if_pos (by omega), hrd, hy, Option.bind_some, if_pos (by rw [hk]), wrS (by omega)]
      exact h1
    · refine ((uniqIn ss out x s hx hxb hsx ho hs hn r hnx n (i + 1) a (by omega) (by omega) ?_).and (splitF (out[i]'hio) (hs _ (List.getElem_mem hio)))).up fun K ⟨h1, y, hy⟩ => ?_
      · rcases hcase with ⟨ha, hno⟩ | ⟨ha, hai, hka⟩
        · refine .inl ⟨ha, fun j hj hlt => ?_⟩
          by_cases e : j = i
          · subst e; exact hk
          · exact hno j hj (by omega)
        · exact .inr ⟨ha, by omega, hka⟩
      · have hrd : rdOf ByteArray.empty out (i : Int) = out[i]'hio := by simp [rdOf, List.getD_eq_getElem?_getD, List.getElem?_eq_getElem hio]
        rw [spec_UniqueNamed.l1, if_pos (by omega), if_pos (by omega), hrd, hy, Option.bind_some, if_neg (fun e => hk (Ord.toList_inj e)), wrS (by omega)]
        exact h1
theorem uniqOut (ss : List ByteArray) (hl : ss.length ≤ 1048576) (hs : ∀ s ∈ ss, s.size ≤ 1099511627776) : ∀ n x, n = ss.length - x → x ≤ ss.length → Evn fun K => spec_UniqueNamed.l0 K ss (uniqL (ss.take x)) (x : Int) = some (uniqL ss)
  | 0, x, h, hx => Evn.tt.up fun K _ => by
    rw [spec_UniqueNamed.l0, if_neg (by omega), List.take_of_length_le (by omega)]
  | n + 1, x, h, hx => by
    have hxs : x < ss.length := by omega
    have hnx := uniqOut ss hl hs n (x + 1) (by omega) (by omega)
    have e1 : uniqL (ss.take (x + 1)) = upd (uniqL (ss.take x)) (ss[x]'hxs) := by rw [List.take_succ_eq_append_getElem hxs, uniqL_snoc]
    rw [e1] at hnx
    have hol : (uniqL (ss.take x)).length ≤ 1048576 := Nat.le_trans (uniqL_len _) (by rw [List.length_take]; omega)
    have hin := uniqIn ss (uniqL (ss.take x)) x (ss[x]'hxs) hxs (by omega) rfl hol (fun q hq => hs _ (List.mem_of_mem_take (uniqL_mem hq))) (uniqL_nodup _) (uniqL ss) hnx (uniqL (ss.take x)).length 0 (uniqL (ss.take x)).length (by omega) (Nat.zero_le _) (.inl ⟨rfl, fun j _ h => absurd h (Nat.not_lt_zero _)⟩)
    refine (hin.and (splitF (ss[x]'hxs) (hs _ (List.getElem_mem hxs)))).up fun K ⟨h1, y, hy⟩ => ?_
    have hrd : rdOf ByteArray.empty ss (x : Int) = ss[x]'hxs := by simp [rdOf, List.getD_eq_getElem?_getD, List.getElem?_eq_getElem hxs]
    rw [spec_UniqueNamed.l0, if_pos (by omega), if_pos (by omega), hrd, hy, Option.bind_some]
    exact h1
theorem uniqF (ss : List ByteArray) (hl : ss.length ≤ 1048576) (hs : ∀ s ∈ ss, s.size ≤ 1099511627776) : Evn fun K => spec_UniqueNamed.f K ss = some (uniqL ss) := uniqOut ss hl hs ss.length 0 (by omega) (by omega)
theorem textsE (ss : List ByteArray) (hl : ss.length ≤ 1048576) : ∀ n i, n = ss.length - i → i ≤ ss.length → Evn fun K => spec_Texts.l0 K ss (i : Int) 4 0 be ((ss.take i).map tS) = some (4, 0, be, [], ss.map tS)
  | 0, i, h, hi => Evn.tt.up fun K _ => by
    rw [spec_Texts.l0, if_neg (by omega), List.take_of_length_le (by omega)]
  | n + 1, i, h, hi => (textsE ss hl n (i + 1) (by omega) (by omega)).up fun K hK => by
    have his : i < ss.length := by omega
    have hrd : rdOf ByteArray.empty ss (i : Int) = ss[i]'his := by simp [rdOf, List.getD_eq_getElem?_getD, List.getElem?_eq_getElem his]
    rw [spec_Texts.l0, if_pos (by omega), if_pos (by omega), hrd]
    rw [List.take_succ_eq_append_getElem his, List.map_append] at hK
    show (Option.bind (spec_T.f (ss[i]'his)) _) = _
    simp only [spec_T.f, Option.bind_some]
    rw [if_pos (by rw [List.length_map, List.length_take]; omega), wrS (by omega)]
    exact hK
theorem textsF (ss : List ByteArray) (hl : ss.length ≤ 1048576) : Evn fun K => spec_Texts.f K ss = some (4, 0, be, [], ss.map tS) := textsE ss hl ss.length 0 (by omega) (by omega)
theorem pairsE (ss : List ByteArray) (hl : ss.length ≤ 1048576) (hs : ∀ s ∈ ss, s.size ≤ 1099511627776) : ∀ n i, n = ss.length - i → i ≤ ss.length → Evn fun K => ∃ r, spec_sayPairs.l0 K (i : Int) 4 0 be [] (ss.map tS) = some r
  | 0, i, h, hi => Evn.tt.up fun K _ => by
    rw [spec_sayPairs.l0, if_neg (by rw [List.length_map]; omega), if_neg (by decide), if_pos rfl]
    exact ⟨_, rfl⟩
  | n + 1, i, h, hi => by
    have his : i < ss.length := by omega
    have hss := hs _ (List.getElem_mem his)
    have hk : (L.keyOf (ss[i]'his)).size ≤ 1099511627776 := Nat.le_trans (keyOf_size _) hss
    refine Evn.up (P := fun K => ∃ r, spec_sayPairs.j1 K (i : Int) false 4 0 be [] (ss.map tS) 3 0 (ss[i]'his) [] [] = some r) ?_ (fun K ⟨r, hr⟩ => ?_)
    · refine ((pairsE ss hl hs n (i + 1) (by omega) (by omega)).and ((splitF (ss[i]'his) hss).and (nameF (L.keyOf (ss[i]'his)) hk))).up fun K ⟨⟨r, hr⟩, ⟨y, hy⟩, q, hq⟩ => ?_
      rw [spec_sayPairs.j1, if_neg (by decide), if_pos rfl, hy, Option.bind_some, if_pos rfl, hq, Option.bind_some, wrS (by omega), hr]
      split
      · exact ⟨r, rfl⟩
      · exact ⟨false, rfl⟩
    · have hrd : rd_T26 (ss.map tS) (i : Int) = tS (ss[i]'his) := by rw [rdSV (show i < (ss.map tS).length by simpa using his)]; simp
      rw [spec_sayPairs.l0, if_pos (by rw [List.length_map]; omega), if_pos (by omega), if_neg (by decide), hrd]
      exact ⟨r, hr⟩
theorem pairsF (ss : List ByteArray) (hl : ss.length ≤ 1048576) (hs : ∀ s ∈ ss, s.size ≤ 1099511627776) : Evn fun K => ∃ r, spec_sayPairs.f K 4 0 be [] (ss.map tS) = some r := pairsE ss hl hs ss.length 0 (by omega) (by omega)
end Go.Proofs.YtiamiagjkfioiaaGreatDoor.A
