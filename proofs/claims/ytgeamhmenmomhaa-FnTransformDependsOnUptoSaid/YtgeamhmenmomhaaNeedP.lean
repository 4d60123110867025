/- Plain: what spec.sayNeeds says of a value, in all large rounds of the printed functions. -/
import Derived.Test.YtgeamhmenmomhaaNeedG
import Derived.Test.YtgeamhmenmomhaaTwin
import Derived.Test.YtgeamhmenmomhaaPTx5
import Derived.Test.YtgeamhmenmomhaaPTx6
import Derived.Test.YtgeamhmenmomhaaPTx7
namespace Go.Proofs.Ytgeamhmenmomhaa.A
set_option linter.unusedVariables false
set_option linter.unusedSimpArgs false
set_option linter.unusedSectionVars false
open Go.RowKit Go.Proofs.YtgeamhmenmomhaaW.PrintWords Go.Proofs.YtgeamhmenmomhaaW.PrintLast Go.Proofs.YtgeamhmenmomhaaW.PrintMore Go.Proofs.Ytgeamhmenmomhaa.PT Go.Proofs.Ytgeamhmenmomhaa.L Go.Proofs.Ytgeamhmenmomhaa.SM

def Evn (P : Nat → Prop) : Prop := ∃ N, ∀ K, N ≤ K → P K
theorem Evn.imp {P Q : Nat → Prop} (h : Evn P) (hi : ∀ K, P K → Q K) : Evn Q := by
  obtain ⟨N, h⟩ := h
  exact ⟨N, fun K hK => hi K (h K hK)⟩
theorem Evn.and {P Q : Nat → Prop} (h : Evn P) (k : Evn Q) : Evn (fun K => P K ∧ Q K) := by
  obtain ⟨N, h⟩ := h
  obtain ⟨M, k⟩ := k
  exact ⟨N + M, fun K hK => ⟨h K (by omega), k K (by omega)⟩⟩
theorem Evn.up {P Q : Nat → Prop} (h : Evn P) (hi : ∀ K, P K → Q (K + 1)) : Evn Q := by
  obtain ⟨N, h⟩ := h
  refine ⟨N + 1, fun K hK => ?_⟩
  obtain ⟨K, rfl⟩ : ∃ k, K = k + 1 := ⟨K - 1, by omega⟩
  exact hi K (h K (by omega))
theorem Evn.tt : Evn (fun _ => True) := ⟨0, fun _ _ => trivial⟩
theorem inE (s : ByteArray) (l : List ByteArray) (hl : l.length ≤ 1099511627776) : ∀ n i, n = l.length - i → i ≤ l.length → Evn fun K => ∃ r, spec_sayIn.l0 K s l (i : Int) = some r
  | 0, i, h, hi => Evn.tt.up fun K _ => by
    rw [spec_sayIn.l0, if_neg (by omega)]
    exact ⟨_, rfl⟩
  | n + 1, i, h, hi => (inE s l hl n (i + 1) (by omega) (by omega)).up fun K ⟨r, hr⟩ => by
    rw [spec_sayIn.l0, if_pos (by omega), if_pos (by omega), wrapT1 i (by omega)]
    split
    · exact ⟨_, rfl⟩
    · exact ⟨r, hr⟩
theorem inF (s : ByteArray) (l : List ByteArray) (hl : l.length ≤ 1099511627776) : Evn fun K => ∃ r, spec_sayIn.f K s l = some r := inE s l hl l.length 0 (by omega) (by omega)
theorem inNE : Evn fun K => ∀ s : ByteArray, ∃ r, spec_sayIn.f K s [(⟨#[115, 101, 114, 118, 105, 99, 101, 95, 115, 116, 97, 114, 116, 101, 100]⟩ : ByteArray), (⟨#[115, 101, 114, 118, 105, 99, 101, 95, 104, 101, 97, 108, 116, 104, 121]⟩ : ByteArray), (⟨#[115, 101, 114, 118, 105, 99, 101, 95, 99, 111, 109, 112, 108, 101, 116, 101, 100, 95, 115, 117, 99, 99, 101, 115, 115, 102, 117, 108, 108, 121]⟩ : ByteArray)] = some r := by
  refine ⟨4, fun K hK s => ?_⟩
  obtain ⟨K, rfl⟩ : ∃ k, K = k + 4 := ⟨K - 4, by omega⟩
  unfold spec_sayIn.f
  rw [spec_sayIn.l0]
  rw [if_pos (by simp), if_pos (by simp)]
  split
  · exact ⟨_, rfl⟩
  rw [show wrap64 (0 + 1) = 1 by decide +kernel, spec_sayIn.l0, if_pos (by simp), if_pos (by simp)]
  split
  · exact ⟨_, rfl⟩
  rw [show wrap64 (1 + 1) = 2 by decide +kernel, spec_sayIn.l0, if_pos (by simp), if_pos (by simp)]
  split
  · exact ⟨_, rfl⟩
  rw [show wrap64 (2 + 1) = 3 by decide +kernel, spec_sayIn.l0, if_neg (by simp)]
  exact ⟨_, rfl⟩
theorem nameE (s : ByteArray) (hs : s.size ≤ 1099511627776) : ∀ n i, n = s.size - i → i ≤ s.size → Evn fun K => ∃ r, spec_sayName.l0 K s (i : Int) = some r
  | 0, i, h, hi => Evn.tt.up fun K _ => by
    rw [spec_sayName.l0, if_neg (by omega)]
    exact ⟨_, rfl⟩
  | n + 1, i, h, hi => (nameE s hs n (i + 1) (by omega) (by omega)).up fun K ⟨r, hr⟩ => by
    rw [spec_sayName.l0, if_pos (by omega), if_pos (by omega), wrapT1 i (by omega), hr]
    repeat' split
    all_goals first | exact ⟨r, rfl⟩ | exact ⟨false, rfl⟩
theorem nameF (s : ByteArray) (hs : s.size ≤ 1099511627776) : Evn fun K => ∃ r, spec_sayName.f K s = some r := nameE s hs s.size 0 (by omega) (by omega)
theorem wordE (s : ByteArray) (hs : s.size ≤ 1099511627776) : ∀ n i, n = s.size - i → i ≤ s.size → Evn fun K => ∃ r, spec_sayWord.l0 K s (i : Int) = some r
  | 0, i, h, hi => Evn.tt.up fun K _ => by
    rw [spec_sayWord.l0, if_neg (by omega)]
    exact ⟨_, rfl⟩
  | n + 1, i, h, hi => ((wordE s hs n (i + 1) (by omega) (by omega)).and (inF (strOfNums [bt s (i : Int)]) [(⟨#[61]⟩ : ByteArray), (⟨#[36]⟩ : ByteArray), (⟨#[58]⟩ : ByteArray), (⟨#[34]⟩ : ByteArray), (⟨#[39]⟩ : ByteArray), (⟨#[92]⟩ : ByteArray), (⟨#[126]⟩ : ByteArray)] (by simp))).up fun K ⟨⟨r, hr⟩, ⟨q, hq⟩⟩ => by
    rw [spec_sayWord.l0, if_pos (by omega), if_pos (by omega), wrapT1 i (by omega), hr, hq, Option.bind_some]
    repeat' split
    all_goals first | exact ⟨r, rfl⟩ | exact ⟨false, rfl⟩
theorem textF (x : SV) (hs : x.f2.size ≤ 1099511627776) : Evn fun K => ∃ r, spec_sayText.f K x.f0 x.f1 x.f2 x.f3 x.f4 = some r := (wordE x.f2 hs x.f2.size 0 (by omega) (by omega)).imp fun K ⟨r, hr⟩ => by
  unfold spec_sayText.f
  split
  · rw [show spec_sayWord.f K x.f2 = some r from hr, Option.bind_some]; exact ⟨_, rfl⟩
  · exact ⟨_, rfl⟩
theorem knownE (x : SV) (l1 l2 : List ByteArray) (h1 : l1.length ≤ 1099511627776) (h2 : l2.length ≤ 1099511627776) (hl : x.f3.length ≤ x.f4.length) (hb : x.f4.length ≤ 1099511627776) (hs : ∀ y ∈ x.f4, y.f2.size ≤ 1099511627776) :
    ∀ n i, n = x.f3.length - i → i ≤ x.f3.length → Evn fun K => ∃ r, spec_sayKnown.l0 K l1 l2 (i : Int) x.f0 x.f1 x.f2 x.f3 x.f4 = some r ∧ (r = true → x.f0 = 5)
  | 0, i, h, hi => Evn.tt.up fun K _ => by
    rw [spec_sayKnown.l0, if_neg (by omega)]
    split
    · rename_i e; exact ⟨_, rfl, fun _ => e⟩
    · exact ⟨_, rfl, fun h => by cases h⟩
  | n + 1, i, h, hi => (((knownE x l1 l2 h1 h2 hl hb hs n (i + 1) (by omega) (by omega)).and (inF (rdOf ByteArray.empty x.f3 (i : Int)) l1 h1)).and ((inF (rdOf ByteArray.empty x.f3 (i : Int)) l2 h2).and (textF (rd_T25 x.f4 (i : Int)) (by rw [rdSV (show i < x.f4.length by omega)]; exact hs _ (List.getElem_mem _))))).up fun K ⟨⟨⟨r, hr, h5⟩, ⟨q, hq⟩⟩, ⟨q2, hq2⟩, ⟨q3, hq3⟩⟩ => by
    rw [spec_sayKnown.l0, if_pos (by omega), if_pos (by omega), wrapT1 i (by omega), hr, hq, hq2, hq3]
    simp only [Option.bind_some]
    repeat' split
    all_goals first | exact ⟨r, rfl, h5⟩ | exact ⟨false, rfl, fun h => by cases h⟩ | (exfalso; omega)
theorem knownF (x : SV) (l1 l2 : List ByteArray) (h1 : l1.length ≤ 1099511627776) (h2 : l2.length ≤ 1099511627776) (hl : x.f3.length ≤ x.f4.length) (hb : x.f4.length ≤ 1099511627776) (hs : ∀ y ∈ x.f4, y.f2.size ≤ 1099511627776) :
    Evn fun K => ∃ r, spec_sayKnown.f K x.f0 x.f1 x.f2 x.f3 x.f4 l1 l2 = some r ∧ (r = true → x.f0 = 5) := knownE x l1 l2 h1 h2 hl hb hs x.f3.length 0 (by omega) (by omega)
theorem namesE (x : SV) (hb : x.f4.length ≤ 1099511627776) (hs : ∀ y ∈ x.f4, y.f2.size ≤ 1099511627776) :
    ∀ n i, n = x.f4.length - i → i ≤ x.f4.length → Evn fun K => ∃ r, spec_sayNames.l0 K (i : Int) x.f0 x.f1 x.f2 x.f3 x.f4 = some r ∧ (r = true → x.f0 = 4 ∧ ∀ (j : Nat) (hj : j < x.f4.length), i ≤ j → (x.f4[j]'hj).f0 = 3)
  | 0, i, h, hi => Evn.tt.up fun K _ => by
    rw [spec_sayNames.l0, if_neg (by omega)]
    split
    · rename_i e; exact ⟨_, rfl, fun _ => ⟨e, fun j hj hij => by omega⟩⟩
    · exact ⟨_, rfl, fun h => by cases h⟩
  | n + 1, i, h, hi => ((namesE x hb hs n (i + 1) (by omega) (by omega)).and (nameF (rd_T25 x.f4 (i : Int)).f2 (by rw [rdSV (show i < x.f4.length by omega)]; exact hs _ (List.getElem_mem _)))).up fun K ⟨⟨r, hr, h5⟩, ⟨q, hq⟩⟩ => by
    rw [spec_sayNames.l0, if_pos (by omega), if_pos (by omega), wrapT1 i (by omega), hr, hq]
    simp only [Option.bind_some]
    have hlt : i < x.f4.length := by omega
    by_cases e3 : (rd_T25 x.f4 (i : Int)).f0 = 3
    · rw [if_pos e3]
      split
      · refine ⟨r, rfl, fun h => ⟨(h5 h).1, fun j hj hij => ?_⟩⟩
        rcases Nat.lt_or_ge i j with c | c
        · exact (h5 h).2 j hj c
        · obtain rfl : j = i := by omega
          rw [rdSV hj] at e3
          exact e3
      · exact ⟨_, rfl, fun h => by cases h⟩
    · rw [if_neg e3]
      exact ⟨_, rfl, fun h => by cases h⟩
theorem placeE (x : SV) (key : ByteArray) (hb : x.f3.length ≤ 1099511627776) : ∀ n i, n = x.f3.length - i → i ≤ x.f3.length → Evn fun K => ∃ p : Int × Bool, spec_place.l0 K key (i : Int) x.f0 x.f1 x.f2 x.f3 x.f4 = some p ∧ 0 ≤ p.1 ∧ (p.2 = true → p.1 < (x.f3.length : Int) ∧ key ∈ x.f3)
  | 0, i, h, hi => Evn.tt.up fun K _ => by
    rw [spec_place.l0, if_neg (by omega)]
    exact ⟨_, rfl, Int.natCast_nonneg _, fun h => by cases h⟩
  | n + 1, i, h, hi => (placeE x key hb n (i + 1) (by omega) (by omega)).up fun K ⟨p, hp, h1, h2⟩ => by
    rw [spec_place.l0, if_pos (by omega), if_pos (by omega), wrapT1 i (by omega)]
    split
    · exact ⟨p, hp, h1, h2⟩
    · refine ⟨_, rfl, Int.natCast_nonneg _, fun h => ⟨by show (i : Int) < _; omega, ?_⟩⟩
      have hlt : i < x.f3.length := by omega
      have e : (rdOf ByteArray.empty x.f3 (i : Int)).toList = key.toList := by simpa using h
      rw [rdK hlt] at e
      rw [← Ord.toList_inj e]
      exact List.getElem_mem hlt
theorem getF (x : SV) (key : ByteArray) (hb : x.f3.length ≤ 1099511627776) (hl : x.f0 = 5 → x.f4.length = x.f3.length) : Evn fun K => ∃ r, spec_Get.f K x.f0 x.f1 x.f2 x.f3 x.f4 key = some r ∧ (r.2.2.2.2.2 = true → x.f0 = 5 ∧ key ∈ x.f3) := (placeE x key hb x.f3.length 0 (by omega) (by omega)).imp fun K ⟨p, hp, h1, h2⟩ => by
  unfold spec_Get.f
  by_cases h5 : x.f0 = 5
  · rw [if_pos h5, show spec_place.f K x.f0 x.f1 x.f2 x.f3 x.f4 key = some p from hp, Option.bind_some]
    by_cases hb' : p.2 = true
    · obtain ⟨q1, q2⟩ := h2 hb'
      rw [if_pos hb', if_pos h1, if_pos (by rw [hl h5]; exact q1)]
      exact ⟨_, rfl, fun _ => ⟨h5, q2⟩⟩
    · rw [if_neg hb']
      exact ⟨_, rfl, fun h => by cases h⟩
  · rw [if_neg h5]
    exact ⟨_, rfl, fun h => by cases h⟩
/-! ### sizes -/
theorem sum_memN {l : List Nat} {a : Nat} (h : a ∈ l) : a ≤ l.sum := by
  induction l with
  | nil => cases h
  | cons b l ih =>
    rcases List.mem_cons.1 h with rfl | h
    · simp
    · have := ih h; simp; omega
theorem wt_sub {x y : SV} (h : y ∈ x.f4) : wt y ≤ wt x := by
  have h1 : wt y ≤ (x.f4.map wt).sum := sum_memN (List.mem_map_of_mem h)
  have h2 := wt_eq x
  omega
theorem wt_text (x : SV) : x.f2.size ≤ wt x := by
  have h2 := wt_eq x
  omega
theorem wt_key {x : SV} {k : ByteArray} (h : k ∈ x.f3) : k.size ≤ wt x := by
  have h1 : k.size + 1 ≤ ksum x.f3 := sum_memN (List.mem_map_of_mem (f := fun k : ByteArray => k.size + 1) h)
  have h2 := wt_eq x
  omega
theorem fineS_lens {x : SV} (h : FineS x) : x.f3.length ≤ x.f4.length ∧ (x.f0 = 5 → x.f4.length = x.f3.length) := by
  cases h with
  | map ha hl hb he => exact ⟨by show _ ≤ _; rw [hl]; exact Nat.le_refl _, fun _ => hl⟩
  | nil => exact ⟨Nat.le_refl _, fun h => by cases h⟩
  | bool _ => exact ⟨Nat.le_refl _, fun h => by cases h⟩
  | int _ => exact ⟨Nat.le_refl _, fun h => by cases h⟩
  | text _ => exact ⟨Nat.le_refl _, fun h => by cases h⟩
  | list _ _ => exact ⟨Nat.zero_le _, fun h => by cases h⟩
theorem fineS_kid {x : SV} (h : FineS x) {y : SV} (hy : y ∈ x.f4) : FineS y := by
  obtain ⟨i, hi, rfl⟩ := List.mem_iff_getElem.1 hy
  cases h with
  | map ha hl hb he => exact he i hi
  | list hb he => exact he i hi
  | nil => cases hy
  | bool _ => cases hy
  | int _ => cases hy
  | text _ => cases hy
abbrev kCond : ByteArray := ⟨#[99, 111, 110, 100, 105, 116, 105, 111, 110]⟩
abbrev kReq : ByteArray := ⟨#[114, 101, 113, 117, 105, 114, 101, 100]⟩
/-- what is spoken of: a list of texts, or a map of maps with a condition -/
def NeedsS (x : SV) : Prop := (x.f0 = 4 ∧ ∀ y ∈ x.f4, y.f0 = 3) ∨ (x.f0 = 5 ∧ ∀ y ∈ x.f4, y.f0 = 5 ∧ kCond ∈ y.f3)
theorem needsE (x : SV) (hf : FineS x) (hw : wt x ≤ 1048576) (hl : x.f3.length = x.f4.length) :
    ∀ n i, n = x.f3.length - i → i ≤ x.f3.length → Evn fun K => ∃ r, spec_sayNeeds.l0 K (i : Int) x.f0 x.f1 x.f2 x.f3 x.f4 = some r ∧ (r = true → x.f0 = 5 ∧ ∀ (j : Nat) (hj : j < x.f4.length), i ≤ j → (x.f4[j]'hj).f0 = 5 ∧ kCond ∈ (x.f4[j]'hj).f3)
  | 0, i, h, hi => Evn.tt.up fun K _ => by
    rw [spec_sayNeeds.l0, if_neg (by omega)]
    split
    · rename_i e; exact ⟨_, rfl, fun _ => ⟨e, fun j hj hij => by omega⟩⟩
    · exact ⟨_, rfl, fun h => by cases h⟩
  | n + 1, i, h, hi => by
    have h4 : i < x.f4.length := by omega
    have h3 : i < x.f3.length := by omega
    have hb := (fineS_bnd hf).1
    obtain ⟨y, hy⟩ : ∃ y, y = x.f4[i]'h4 := ⟨_, rfl⟩
    have hym : y ∈ x.f4 := by rw [hy]; exact List.getElem_mem h4
    have hyf := fineS_kid hf hym
    have hyw : wt y ≤ 1048576 := Nat.le_trans (wt_sub hym) hw
    have hys : ∀ z ∈ y.f4, z.f2.size ≤ 1099511627776 := fun z hz => by
      have h1 := wt_text z
      have h2 := wt_sub hz
      omega
    have hks : (x.f3[i]'h3).size ≤ 1099511627776 := by have := wt_key (x := x) (List.getElem_mem h3); omega
    refine (((needsE x hf hw hl n (i + 1) (by omega) (by omega)).and (getF y kCond (fineS_bnd hyf).1 (fineS_lens hyf).2)).and ((nameF (x.f3[i]'h3) hks).and (knownF y [kCond] [kReq, (⟨#[114, 101, 115, 116, 97, 114, 116]⟩ : ByteArray)] (by simp) (by simp) (fineS_lens hyf).1 (fineS_bnd hyf).2 hys))).and (inNE) |>.up fun K ⟨⟨⟨⟨r, hr, h5⟩, ⟨g, hg, hgc⟩⟩, ⟨q, hq⟩, ⟨q2, hq2, hk5⟩⟩, hin⟩ => ?_
    obtain ⟨q3, hq3⟩ := hin g.2.2.1
    rw [spec_sayNeeds.l0, if_pos (by omega), if_pos (by omega), if_pos (by omega), wrapT1 i (by omega), rdK h3, rdSV h4, ← hy, hr, hg, Option.bind_some, hq, Option.bind_some]
    split
    · rw [hq2, Option.bind_some]
      split
      · rename_i c2
        split
        · rename_i c3
          rw [hq3, Option.bind_some]
          split
          · refine ⟨r, rfl, fun h => ⟨(h5 h).1, fun j hj hij => ?_⟩⟩
            rcases Nat.lt_or_ge i j with c | c
            · exact (h5 h).2 j hj c
            · obtain rfl : j = i := by omega
              rw [← hy]
              exact hgc c3
          · exact ⟨_, rfl, fun h => by cases h⟩
        · exact ⟨_, rfl, fun h => by cases h⟩
      · exact ⟨_, rfl, fun h => by cases h⟩
    · exact ⟨_, rfl, fun h => by cases h⟩
theorem needsF (x : SV) (hf : FineS x) (hw : wt x ≤ 1048576) : Evn fun K => ∃ r, spec_sayNeeds.f K x.f0 x.f1 x.f2 x.f3 x.f4 = some r ∧ (r = true → NeedsS x) := by
  have hs : ∀ z ∈ x.f4, z.f2.size ≤ 1099511627776 := fun z hz => by
    have h1 := wt_text z
    have h2 := wt_sub hz
    omega
  by_cases h4 : x.f0 = 4
  · refine (namesE x (fineS_bnd hf).2 hs x.f4.length 0 (by omega) (by omega)).imp fun K ⟨r, hr, h⟩ => ?_
    unfold spec_sayNeeds.f
    rw [if_pos h4, show spec_sayNames.f K x.f0 x.f1 x.f2 x.f3 x.f4 = some r from hr, Option.bind_some]
    refine ⟨r, rfl, fun hr => .inl ⟨h4, fun y hy => ?_⟩⟩
    obtain ⟨j, hj, rfl⟩ := List.mem_iff_getElem.1 hy
    exact (h hr).2 j hj (Nat.zero_le _)
  · have hl : x.f3.length = x.f4.length := by
      cases hf with
      | map ha hl hb he => exact hl.symm
      | nil => rfl
      | bool _ => rfl
      | int _ => rfl
      | text _ => rfl
      | list _ _ => exact absurd rfl h4
    refine (needsE x hf hw hl x.f3.length 0 (by omega) (by omega)).imp fun K ⟨r, hr, h⟩ => ?_
    unfold spec_sayNeeds.f
    rw [if_neg h4, show spec_sayNeeds.l0 K 0 x.f0 x.f1 x.f2 x.f3 x.f4 = some r from hr]
    refine ⟨r, rfl, fun hr => .inr ⟨(h hr).1, fun y hy => ?_⟩⟩
    obtain ⟨j, hj, rfl⟩ := List.mem_iff_getElem.1 hy
    exact (h hr).2 j hj (Nat.zero_le _)
theorem law_sayNeeds {x : SV} (hf : FineS x) (hw : wt x ≤ 1048576) {v : Value} {w : World} (hv : MadeS x w v) : Calls Try.prog 15 #[v] w fun e w' => (∃ r, e = .returned (.bool r) ∧ (r = true → NeedsS x)) ∧ Below w.heap.size w w' := by
  obtain ⟨A3, c3, A4, c4, rfl, h3, g3, h4, g4⟩ := hv
  obtain ⟨N, hN⟩ := needsF x hf hw
  obtain ⟨r, hr, hq⟩ := hN N (Nat.le_refl _)
  refine (spec_sayNeeds.calls N x.f0 x.f1 x.f2 A3 c3 x.f3 A4 c4 x.f4 r w g3 h3 g4 h4 hr).mono ?_
  rintro e w' ⟨rfl, hb⟩
  exact ⟨⟨r, rfl, hq⟩, hb⟩
end Go.Proofs.Ytgeamhmenmomhaa.A
