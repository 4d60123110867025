/- Plain: what depends_on is in canonical form, as the specification and as the thin package have it (printed by gen_need.py). -/
import Derived.Test.YtgeamhmenmomhaaNeedN
import Derived.Test.YtgeamhmenmomhaaOnly
namespace Go.Proofs.Ytgeamhmenmomhaa.A
set_option linter.unusedVariables false
set_option linter.unusedSimpArgs false
set_option linter.unusedSectionVars false
open Go.RowKit Go.Proofs.YtgeamhmenmomhaaW.PrintWords Go.Proofs.YtgeamhmenmomhaaW.PrintLast Go.Proofs.YtgeamhmenmomhaaW.PrintMore Go.Proofs.Ytgeamhmenmomhaa.PT Go.Proofs.Ytgeamhmenmomhaa.L Go.Proofs.Ytgeamhmenmomhaa.SM

def allI (f : IV → IV) (x : IV) : IV := ⟨x.f0, x.f1, x.f2, x.f3, x.f4.map f⟩
def allS (f : SV → SV) (x : SV) : SV := ⟨x.f0, x.f1, x.f2, x.f3, x.f4.map f⟩
theorem fine_lens {x : IV} (h : Fine x) (h5 : x.f0 = 5) : x.f4.length = x.f3.length := by
  cases h with
  | map _ hl _ _ => exact hl
  | nil => cases h5
  | bool _ => cases h5
  | int _ => cases h5
  | text _ => cases h5
  | list _ _ => cases h5
theorem fine_asc {x : IV} (h : Fine x) (h5 : x.f0 = 5) : Ord.Asc id x.f3 := by
  cases h with
  | map ha _ _ _ => exact ha
  | nil => cases h5
  | bool _ => cases h5
  | int _ => cases h5
  | text _ => cases h5
  | list _ _ => cases h5
theorem fine_sub {x y : IV} (h : Fine x) (hy : y ∈ x.f4) : Fine y := by
  cases h with
  | map _ _ _ he => exact he y hy
  | list _ he => exact he y hy
  | nil => cases hy
  | bool _ => cases hy
  | int _ => cases hy
  | text _ => cases hy
theorem fine_all {f : IV → IV} {x : IV} (h : Fine x) (h5 : x.f0 = 5) (hf : ∀ y ∈ x.f4, Fine (f y)) : Fine (allI f x) := by
  have hall : ∀ y ∈ x.f4.map f, Fine y := fun y hy => by obtain ⟨z, hz, rfl⟩ := List.mem_map.1 hy; exact hf z hz
  cases h with
  | map ha hl hb he => exact .map ha (by simpa using hl) (by simpa using hb) hall
  | nil => cases h5
  | bool _ => cases h5
  | int _ => cases h5
  | text _ => cases h5
  | list _ _ => cases h5
theorem twin_all {f : SV → SV} {g : IV → IV} {x : SV} {y : IV} (h : Twin x y) (hf : ∀ (i : Nat) (h1 : i < x.f4.length) (h2 : i < y.f4.length), Twin (f (x.f4[i]'h1)) (g (y.f4[i]'h2))) : Twin (allS f x) (allI g y) := by
  cases h with
  | mk e0 e1 e2 e3 el hb3 hb4 he =>
    refine .mk e0 e1 e2 e3 (by simpa [allS, allI] using el) hb3 (by simpa [allS] using hb4) (fun i q1 q2 => ?_)
    simp only [allS, allI, List.getElem_map]
    exact hf i _ _
theorem twin_get {x : SV} {y : IV} (h : Twin x y) {i : Nat} (h1 : i < x.f4.length) (h2 : i < y.f4.length) : Twin (x.f4[i]'h1) (y.f4[i]'h2) := by
  cases h with
  | mk e0 e1 e2 e3 el hb3 hb4 he => exact he i h1 h2
theorem ins_get {γ : Type} (l : List γ) (z : γ) (n : Nat) (hn : n ≤ l.length) (i : Nat) : (l.take n ++ z :: l.drop n)[i]? = if i < n then l[i]? else if i = n then some z else l[i - 1]? := by
  by_cases c1 : i < n
  · rw [if_pos c1, List.getElem?_append_left (by simp; omega), List.getElem?_take, if_pos c1]
  · rw [if_neg c1, List.getElem?_append_right (by simp; omega), List.length_take, Nat.min_eq_left hn]
    by_cases c2 : i = n
    · rw [if_pos c2, c2]; simp
    · rw [if_neg c2]
      obtain ⟨q, hq⟩ : ∃ q, i - n = q + 1 := ⟨i - n - 1, by omega⟩
      rw [hq, List.getElem?_cons_succ, List.getElem?_drop]
      congr 1
      omega
/-- what spec.With of a new key has at a place: the new one, or what was there -/
theorem with_pair {α : Type} {key : ByteArray} {ks : List ByteArray} {vs : List α} {x : α} (h : placeB key ks = false) (hl : vs.length = ks.length) {i : Nat} (h1 : i < (withKs key ks).length) (h2 : i < (withL key ks vs x).length) :
    ((withKs key ks)[i]'h1 = key ∧ (withL key ks vs x)[i]'h2 = x) ∨ ∃ (j : Nat) (h3 : j < ks.length) (h4 : j < vs.length), ks[j]'h3 = (withKs key ks)[i]'h1 ∧ vs[j]'h4 = (withL key ks vs x)[i]'h2 := by
  have hn := placeN_le key ks
  have e1 : (withKs key ks)[i]? = some ((withKs key ks)[i]'h1) := List.getElem?_eq_getElem h1
  have e2 : (withL key ks vs x)[i]? = some ((withL key ks vs x)[i]'h2) := List.getElem?_eq_getElem h2
  generalize (withKs key ks)[i]'h1 = a at e1 ⊢
  generalize (withL key ks vs x)[i]'h2 = b at e2 ⊢
  unfold withKs at e1
  unfold withL at e2
  rw [if_neg (by rw [h]; decide), ins_get _ _ _ hn] at e1
  rw [if_neg (by rw [h]; decide), ins_get _ _ _ (by rw [hl]; exact hn)] at e2
  have fin : ∀ j, ks[j]? = some a → vs[j]? = some b → ∃ (j : Nat) (h3 : j < ks.length) (h4 : j < vs.length), ks[j]'h3 = a ∧ vs[j]'h4 = b := fun j q1 q2 => by
    obtain ⟨h3, q1⟩ := List.getElem?_eq_some_iff.1 q1
    obtain ⟨h4, q2⟩ := List.getElem?_eq_some_iff.1 q2
    exact ⟨j, h3, h4, q1, q2⟩
  by_cases c1 : i < placeN key ks
  · rw [if_pos c1] at e1 e2
    exact .inr (fin i e1 e2)
  · rw [if_neg c1] at e1 e2
    by_cases c2 : i = placeN key ks
    · rw [if_pos c2] at e1 e2
      injection e1 with e1
      injection e2 with e2
      exact .inl ⟨e1.symm, e2.symm⟩
    · rw [if_neg c2] at e1 e2
      exact .inr (fin (i - 1) e1 e2)
theorem withKs_perm {key : ByteArray} {ks : List ByteArray} (h : placeB key ks = false) : (withKs key ks).Perm (ks ++ [key]) := by
  unfold withKs
  rw [if_neg (by rw [h]; decide)]
  refine (List.perm_middle).trans ?_
  rw [List.take_append_drop]
  exact (List.perm_append_comm (l₁ := [key]) (l₂ := ks))
theorem place_mem {key : ByteArray} {ks : List ByteArray} (ha : Ord.Asc id ks) : placeB key ks = true ↔ key ∈ ks := by
  constructor
  · intro h
    obtain ⟨h1, h2⟩ := place_in h
    rw [← h2]; exact List.getElem_mem h1
  · intro h
    cases hb : placeB key ks with
    | true => rfl
    | false => exact absurd h (place_not ha hb)
theorem withKs_iff {key k : ByteArray} {ks : List ByteArray} (ha : Ord.Asc id ks) : k ∈ withKs key ks ↔ k = key ∨ k ∈ ks := by
  refine ⟨withKs_mem, fun h => ?_⟩
  cases hb : placeB key ks with
  | true =>
    unfold withKs
    rw [if_pos hb]
    rcases h with rfl | h
    · exact (place_mem ha).1 hb
    · exact h
  | false =>
    rw [(withKs_perm hb).mem_iff]
    rcases h with rfl | h
    · simp
    · simp [h]
theorem const_with {α : Type} (key : ByteArray) (ks : List ByteArray) (s : α) : withL key ks (ks.map fun _ => s) s = (withKs key ks).map fun _ => s := by
  have h1 := withL_len key ks (ks.map fun _ => s) s (by simp)
  have e : List.map (fun _ => s) (withKs key ks) = List.replicate (withKs key ks).length s := List.map_const'
  rw [e]
  refine List.eq_replicate_iff.2 ⟨h1, fun b hb => ?_⟩
  rcases withL_mem hb with h | h
  · exact h
  · obtain ⟨_, _, rfl⟩ := List.mem_map.1 h; rfl
/-! ### names -/
def namesK (ns : List ByteArray) : List ByteArray := ns.foldl (fun a k => withKs k a) []
theorem namesK_snoc (l : List ByteArray) (k : ByteArray) : namesK (l ++ [k]) = withKs k (namesK l) := by simp [namesK, List.foldl_append]
theorem namesK_spec (ns : List ByteArray) : Ord.Asc id (namesK ns) ∧ ∀ k, k ∈ namesK ns ↔ k ∈ ns := by
  refine Ord.snocRec (motive := fun ns => Ord.Asc id (namesK ns) ∧ ∀ k, k ∈ namesK ns ↔ k ∈ ns) ⟨List.Pairwise.nil, fun k => Iff.rfl⟩ (fun l x h => ?_) ns
  rw [namesK_snoc]
  refine ⟨withKs_asc h.1, fun k => ?_⟩
  rw [withKs_iff h.1, h.2]
  simp [or_comm]
theorem namesK_len (ns : List ByteArray) : (namesK ns).length ≤ ns.length := by
  refine Ord.snocRec (motive := fun ns => (namesK ns).length ≤ ns.length) (Nat.le_refl _) (fun l x h => ?_) ns
  rw [namesK_snoc]
  have := withKs_len x (namesK l)
  simp; omega
/-! ### what is needed is required -/
abbrev startB : ByteArray := ⟨#[115, 101, 114, 118, 105, 99, 101, 95, 115, 116, 97, 114, 116, 101, 100]⟩
abbrev trueS : SV := ⟨1, 1, be, [], []⟩
abbrev trueI : IV := ⟨1, 1, be, [], []⟩
abbrev tIx (s : ByteArray) : IV := ⟨3, 0, s, [], []⟩
def stdS : SV := ⟨5, 0, be, [kCond, kReq], [tS startB, trueS]⟩
def stdI : IV := ⟨5, 0, be, [kCond, kReq], [tIx startB, trueI]⟩
def reqS (y : SV) : SV := if placeB kReq y.f3 then y else ⟨5, 0, be, withKs kReq y.f3, withL kReq y.f3 y.f4 trueS⟩
def reqI (y : IV) : IV := if placeB kReq y.f3 then y else ⟨5, 0, be, withKs kReq y.f3, withL kReq y.f3 y.f4 trueI⟩
theorem reqS_std : reqS stdS = stdS := by unfold reqS; rw [if_pos (by kernel_rfl)]
theorem reqI_std : reqI stdI = stdI := by unfold reqI; rw [if_pos (by kernel_rfl)]
theorem reqI_5 {y : IV} (h5 : y.f0 = 5) : (reqI y).f0 = 5 := by unfold reqI; split; exact h5; rfl
theorem reqI_asc {y : IV} (ha : Ord.Asc id y.f3) : Ord.Asc id (reqI y).f3 ∧ ∀ k, k ∈ (reqI y).f3 ↔ k = kReq ∨ k ∈ y.f3 := by
  unfold reqI
  split
  · rename_i h
    exact ⟨ha, fun k => ⟨.inr, fun h' => by rcases h' with rfl | h'; exact (place_mem ha).1 h; exact h'⟩⟩
  · exact ⟨withKs_asc ha, fun k => withKs_iff ha⟩
theorem reqI_has {y : IV} (h : placeB kReq y.f3 = true) : reqI y = y := by unfold reqI; rw [if_pos h]
theorem reqI_twice {y : IV} (ha : Ord.Asc id y.f3) : reqI (reqI y) = reqI y := by
  have h := reqI_asc ha
  exact reqI_has ((place_mem h.1).2 ((h.2 _).2 (.inl rfl)))
theorem fine_req {y : IV} (hf : Fine y) (h5 : y.f0 = 5) (hb : y.f4.length ≤ 1048576) : Fine (reqI y) := by
  have hl := fine_lens hf h5
  have ha := fine_asc hf h5
  unfold reqI
  split
  · exact hf
  · have h1 := withL_len kReq y.f3 y.f4 trueI hl
    have h2 := withKs_len kReq y.f3
    refine .map (withKs_asc ha) h1 (by rw [h1]; omega) (fun z hz => ?_)
    rcases withL_mem hz with rfl | hz
    · exact Fine.bool true
    · exact fine_sub hf hz
theorem twin_true : Twin trueS trueI := .mk rfl rfl rfl rfl rfl (Nat.zero_le _) (Nat.zero_le _) (fun i q _ => absurd q (Nat.not_lt_zero _))
theorem twin_tx (s : ByteArray) : Twin (tS s) (tIx s) := .mk rfl rfl rfl rfl rfl (Nat.zero_le _) (Nat.zero_le _) (fun i q _ => absurd q (Nat.not_lt_zero _))
theorem twin_std : Twin stdS stdI := by
  refine .mk rfl rfl rfl rfl rfl (by simp [stdS]) (by simp [stdS]) (fun i q1 q2 => ?_)
  rcases i with _ | _ | i
  · exact twin_tx _
  · exact twin_true
  · exact absurd q1 (by simp [stdS])
theorem twin_req {x : SV} {y : IV} (h : Twin x y) (hl : y.f4.length = y.f3.length) (hb : y.f4.length ≤ 1048576) : Twin (reqS x) (reqI y) := by
  cases h with
  | mk h0 h1 h2 h3 h4 hb3 hb4 he =>
    unfold reqS reqI
    rw [h3]
    split
    · exact .mk h0 h1 h2 h3 h4 hb3 hb4 he
    · have ha : All2 Twin (withL kReq y.f3 x.f4 trueS) (withL kReq y.f3 y.f4 trueI) := All2.withL kReq y.f3 ⟨h4, he⟩ twin_true
      have l1 := withKs_len kReq y.f3
      have l2 := withL_len kReq y.f3 y.f4 trueI hl
      exact .mk rfl rfl rfl rfl ha.1 (by show (withKs kReq y.f3).length ≤ _; omega) (by rw [ha.1, l2]; omega) ha.2
def mergeS (x : SV) : SV := if x.f0 = 5 then x else ⟨5, 0, be, namesK (x.f4.map (·.f2)), (namesK (x.f4.map (·.f2))).map fun _ => stdS⟩
def needsS (x : SV) : SV := allS reqS (mergeS x)
/-- a map whose children are maps with a condition -/
structure NeedI (y : IV) : Prop where
  map : y.f0 = 5
  fine : Fine y
  kid : ∀ c ∈ y.f4, c.f0 = 5 ∧ kCond ∈ c.f3 ∧ c.f4.length ≤ 1048577
/-- what the transform makes of the one is the other -/
inductive NeedC : IV → IV → Prop
  | map {y : IV} (h : NeedI y) : NeedC y (allI reqI y)
  | list {ss : List ByteArray} (hb : ss.length ≤ 1048576) : NeedC ⟨4, 0, be, [], ss.map tIx⟩ ⟨5, 0, be, namesK ss, (namesK ss).map fun _ => stdI⟩
theorem fine_std : Fine stdI := by
  refine .map ?_ rfl (by simp) (fun y hy => ?_)
  · exact List.pairwise_cons.2 ⟨fun k hk => by rw [List.mem_singleton.1 hk]; decide +kernel, List.pairwise_singleton _ _⟩
  · rcases List.mem_cons.1 hy with rfl | hy
    · exact .text _
    · rw [List.mem_singleton.1 hy]; exact Fine.bool true
theorem texts_eq {ys : List IV} (hf : ∀ c ∈ ys, Fine c) (h3 : ∀ c ∈ ys, c.f0 = 3) : ys = (ys.map (·.f2)).map tIx := by
  rw [List.map_map]
  conv => lhs; rw [← List.map_id ys]
  apply List.map_congr_left
  intro c hc
  have h := hf c hc
  have h3' := h3 c hc
  cases h with
  | text s => rfl
  | nil => cases h3'
  | bool _ => cases h3'
  | int _ => cases h3'
  | list _ _ => cases h3'
  | map _ _ _ _ => cases h3'
theorem need_facts {x : SV} (hf : FineS x) (hw : wt x ≤ 1048576) (hn : NeedsS x) : ∃ y z, Twin x y ∧ Twin (needsS x) z ∧ Canon y ∧ NeedC y z ∧ NeedC z z := by
  obtain ⟨y, ht, hfy⟩ := hf.twin
  have hlen : ∀ {q : SV}, q.f4.length ≤ wt q := fun {q} => by
    have h1 : q.f4.length ≤ (q.f4.map wt).sum := by
      have : ∀ l : List SV, l.length ≤ (l.map wt).sum := fun l => by
        induction l with
        | nil => exact Nat.le_refl _
        | cons a l ih =>
          have := wt_eq a
          simp; omega
      exact this _
    have h2 := wt_eq q
    omega
  rcases hn with ⟨h4, hk⟩ | ⟨h5, hk⟩
  · cases ht with
    | mk e0 e1 e2 e3 el hb3 hb4 he =>
      have h4y : y.f0 = 4 := by rw [← e0]; exact h4
      have hky : ∀ c ∈ y.f4, c.f0 = 3 := fun c hc => by
        obtain ⟨i, hi, rfl⟩ := List.mem_iff_getElem.1 hc
        have i1 : i < x.f4.length := by omega
        have := he i i1 hi
        cases this with
        | mk q0 _ => rw [← q0]; exact hk _ (List.getElem_mem i1)
      have hsx : x.f4.map (·.f2) = y.f4.map (·.f2) := by
        apply List.ext_getElem (by simpa using el)
        intro i i1 i2
        simp only [List.getElem_map]
        have := he i (by simpa using i1) (by simpa using i2)
        cases this with
        | mk _ _ q2 => exact q2
      have hte := texts_eq (fun c hc => fine_sub hfy hc) hky
      obtain ⟨ss, hss⟩ : ∃ ss, ss = y.f4.map (·.f2) := ⟨_, rfl⟩
      have hlen2 : ss.length ≤ 1048576 := by
        have := hlen (q := x)
        rw [hss, List.length_map]; omega
      have ey : y = ⟨4, 0, be, [], ss.map tIx⟩ := by
        rw [← hss] at hte
        cases hfy with
        | list hb he => rw [← hte]
        | nil => cases h4y
        | bool _ => cases h4y
        | int _ => cases h4y
        | text _ => cases h4y
        | map _ _ _ _ => cases h4y
      have ez : needsS x = ⟨5, 0, be, namesK ss, (namesK ss).map fun _ => stdS⟩ := by
        unfold needsS mergeS
        rw [if_neg (by omega), hsx, ← hss]
        simp only [allS, List.map_map]
        congr 1
        apply List.map_congr_left
        intro k _
        exact reqS_std
      have hnl := namesK_len ss
      have tz : Twin (⟨5, 0, be, namesK ss, (namesK ss).map fun _ => stdS⟩ : SV) (⟨5, 0, be, namesK ss, (namesK ss).map fun _ => stdI⟩ : IV) := by
        refine .mk rfl rfl rfl rfl (by simp) (by show (namesK ss).length ≤ _; omega) (by show (List.map _ _).length ≤ _; rw [List.length_map]; omega) (fun i q1 q2 => ?_)
        simp only [List.getElem_map]
        exact twin_std
      have hzn : NeedI (⟨5, 0, be, namesK ss, (namesK ss).map fun _ => stdI⟩ : IV) := by
        refine ⟨rfl, .map (namesK_spec ss).1 (by simp) (by rw [List.length_map]; omega) (fun c hc => ?_), fun c hc => ?_⟩
        · obtain ⟨_, _, rfl⟩ := List.mem_map.1 hc; exact fine_std
        · obtain ⟨_, _, rfl⟩ := List.mem_map.1 hc; exact ⟨rfl, by simp [stdI], by simp [stdI]⟩
      have hzz : allI reqI (⟨5, 0, be, namesK ss, (namesK ss).map fun _ => stdI⟩ : IV) = ⟨5, 0, be, namesK ss, (namesK ss).map fun _ => stdI⟩ := by
        simp only [allI, List.map_map]
        congr 1
        apply List.map_congr_left
        intro k _
        exact reqI_std
      refine ⟨y, ⟨5, 0, be, namesK ss, (namesK ss).map fun _ => stdI⟩, .mk e0 e1 e2 e3 el hb3 hb4 he, by rw [ez]; exact tz, hfy.canon, by rw [ey]; exact .list hlen2, ?_⟩
      have := NeedC.map hzn
      rwa [hzz] at this
  · have h5y : y.f0 = 5 := by cases ht with | mk e0 => rw [← e0]; exact h5
    have el : x.f4.length = y.f4.length := by cases ht with | mk _ _ _ _ el => exact el
    have hkid : ∀ c ∈ y.f4, c.f0 = 5 ∧ kCond ∈ c.f3 ∧ c.f4.length ≤ 1048576 := fun c hc => by
      obtain ⟨i, hi, rfl⟩ := List.mem_iff_getElem.1 hc
      have i1 : i < x.f4.length := by omega
      have htc := twin_get ht i1 hi
      obtain ⟨q5, qk⟩ := hk _ (List.getElem_mem i1)
      have h1 := hlen (q := x.f4[i]'i1)
      have h2 := wt_sub (List.getElem_mem i1)
      cases htc with
      | mk e0 _ _ e3 el' => exact ⟨by rw [← e0]; exact q5, by rw [← e3]; exact qk, by rw [← el']; omega⟩
    have hfr : ∀ c ∈ y.f4, Fine (reqI c) := fun c hc => fine_req (fine_sub hfy hc) (hkid c hc).1 (hkid c hc).2.2
    have hzn : NeedI (allI reqI y) := by
      refine ⟨h5y, fine_all hfy h5y hfr, fun c hc => ?_⟩
      obtain ⟨q, hq, rfl⟩ := List.mem_map.1 hc
      obtain ⟨k1, k2, k3⟩ := hkid q hq
      have hq5 := fine_asc (fine_sub hfy hq) k1
      refine ⟨reqI_5 k1, ((reqI_asc hq5).2 _).2 (.inr k2), ?_⟩
      unfold reqI
      split
      · omega
      · have l1 := withKs_len kReq q.f3
        have l2 := withL_len kReq q.f3 q.f4 trueI (fine_lens (fine_sub hfy hq) k1)
        have l3 := fine_lens (fine_sub hfy hq) k1
        show (withL kReq q.f3 q.f4 trueI).length ≤ _
        omega
    have hzz : allI reqI (allI reqI y) = allI reqI y := by
      simp only [allI, List.map_map]
      congr 1
      apply List.map_congr_left
      intro c hc
      exact reqI_twice (fine_asc (fine_sub hfy hc) (hkid c hc).1)
    refine ⟨y, allI reqI y, ht, ?_, hfy.canon, .map ⟨h5y, hfy, fun c hc => ⟨(hkid c hc).1, (hkid c hc).2.1, by have := (hkid c hc).2.2; omega⟩⟩, ?_⟩
    · unfold needsS mergeS
      rw [if_pos h5]
      exact twin_all ht (fun i h1 h2 => twin_req (twin_get ht h1 h2) (fine_lens (fine_sub hfy (List.getElem_mem h2)) (hkid _ (List.getElem_mem h2)).1) (hkid _ (List.getElem_mem h2)).2.2)
    · have := NeedC.map hzn
      rwa [hzz] at this
end Go.Proofs.Ytgeamhmenmomhaa.A
