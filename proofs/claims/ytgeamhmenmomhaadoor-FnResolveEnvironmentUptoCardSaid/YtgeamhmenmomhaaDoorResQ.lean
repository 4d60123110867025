/- Joined texts. -/
import Derived.Test.YtgeamhmenmomhaaDoorFit
import Derived.Test.YtgeamhmenmomhaaDoorLkT
import Derived.Test.YtgeamhmenmomhaaDoorPTx4
import Derived.Test.YtgeamhmenmomhaaDoorPTx7
/- Plain: what ResolveOne answers: of a text, a list of texts, a map of texts and nulls. -/
namespace Go.Proofs.YtgeamhmenmomhaaDoor.A
set_option linter.unusedVariables false
set_option linter.unusedSimpArgs false
set_option linter.unusedSectionVars false
open Go.RowKit Go.Proofs.YtgeamhmenmomhaaDoorW.PrintWords Go.Proofs.YtgeamhmenmomhaaDoorW.PrintLast Go.Proofs.YtgeamhmenmomhaaDoorW.PrintMore Go.Proofs.YtgeamhmenmomhaaDoor.PT Go.Proofs.YtgeamhmenmomhaaDoor.L Go.Proofs.YtgeamhmenmomhaaDoor.SM

abbrev Env := ByteArray → Option ByteArray
/-- what is said of -/
inductive RD where
  | text (s : ByteArray)
  | list (ss : List ByteArray)
  | map (es : List (ByteArray × Option ByteArray))
def oS : Option ByteArray → SV
  | some s => ⟨3, 0, s, [], []⟩
  | none => ⟨0, 0, be, [], []⟩
def oI : Option ByteArray → IV
  | some s => ⟨3, 0, s, [], []⟩
  | none => ⟨0, 0, be, [], []⟩
def RD.S : RD → SV
  | .text s => tS s
  | .list ss => ⟨4, 0, be, [], ss.map tS⟩
  | .map es => ⟨5, 0, be, es.map (·.1), es.map (fun q => oS q.2)⟩
def RD.I : RD → IV
  | .text s => tI s
  | .list ss => ⟨4, 0, be, [], ss.map tI⟩
  | .map es => ⟨5, 0, be, es.map (·.1), es.map (fun q => oI q.2)⟩
def RD.len : RD → Nat
  | .text _ => 0
  | .list ss => ss.length
  | .map es => es.length
theorem twin_o (o : Option ByteArray) : Twin (oS o) (oI o) := by cases o <;> exact .mk rfl rfl rfl rfl rfl (Nat.zero_le _) (Nat.zero_le _) (fun i q1 _ => absurd q1 (Nat.not_lt_zero _))
theorem RD.twin {rd : RD} (h : rd.len ≤ 1099511627776) : Twin rd.S rd.I := by
  cases rd with
  | text s => exact twin_text s
  | list ss =>
    have h' : ss.length ≤ 1099511627776 := h
    refine .mk rfl rfl rfl rfl (by simp [RD.S, RD.I]) (Nat.zero_le _) (by simpa [RD.S] using h') (fun i q1 q2 => ?_)
    simp only [RD.S, RD.I, List.getElem_map]
    exact twin_text _
  | map es =>
    have h' : es.length ≤ 1099511627776 := h
    refine .mk rfl rfl rfl rfl (by simp [RD.S, RD.I]) (by simpa [RD.S] using h') (by simpa [RD.S] using h') (fun i q1 q2 => ?_)
    simp only [RD.S, RD.I, List.getElem_map]
    exact twin_o _
abbrev eqB : ByteArray := ⟨#[61]⟩
def q61 (s : ByteArray) : Nat → Nat → Bool
  | 0, _ => false
  | n + 1, i => if bt s (i : Int) = 61 then true else q61 s n (i + 1)
/-- has a text an equals sign? -/
def hasQ (s : ByteArray) : Bool := q61 s s.size 0
def resV (q : Bool) (ev : Option ByteArray) (keep : Bool) (s : ByteArray) : Option ByteArray := if q then some s else match ev with
  | some v => some (s ++ eqB ++ v)
  | none => if keep then some s else none
def resT (E : Env) (keep : Bool) (s : ByteArray) : Option ByteArray := resV (hasQ s) (E s) keep s
def entV (ov : Option ByteArray) (keep : Bool) (q : ByteArray × Option ByteArray) : Option (ByteArray × Option ByteArray) := match q.2 with
  | some _ => some q
  | none => match ov with
    | some v => some (q.1, some v)
    | none => if keep then some q else none
def entR (E : Env) (keep : Bool) (q : ByteArray × Option ByteArray) : Option (ByteArray × Option ByteArray) := entV (E q.1) keep q
def RD.res (E : Env) (keep : Bool) : RD → Option RD
  | .text s => (resT E keep s).map .text
  | .list ss => some (.list (ss.filterMap (resT E keep)))
  | .map es => some (.map (es.filterMap (entR E keep)))
/-- of the form, and small -/
def RD.ok : RD → Prop
  | .text s => s.size ≤ 1048576
  | .list ss => ss.length ≤ 1048576 ∧ ∀ s ∈ ss, s.size ≤ 1048576
  | .map es => es.length ≤ 1048576 ∧ Ord.Asc id (es.map (·.1)) ∧ ∀ q ∈ es, q.1.size ≤ 1048576
theorem RD.ok.len {rd : RD} (h : rd.ok) : rd.len ≤ 1048576 := by
  cases rd with
  | text s => exact Nat.zero_le _
  | list ss => exact h.1
  | map es => exact h.1
theorem o_fine (o : Option ByteArray) : Fine (oI o) := by cases o; exact .nil; exact .text _
theorem RD.fine {rd : RD} (h : rd.ok) : Fine rd.I := by
  cases rd with
  | text s => exact .text s
  | list ss =>
    refine .list (by have := h.1; simp; omega) (fun y hy => ?_)
    obtain ⟨s, _, rfl⟩ := List.mem_map.1 hy
    exact .text s
  | map es =>
    refine .map h.2.1 (by simp) (by have := h.1; simp; omega) (fun y hy => ?_)
    obtain ⟨q, _, rfl⟩ := List.mem_map.1 hy
    exact o_fine _
def fO (y : SV) : Option ByteArray := if y.f0 = 3 then some y.f2 else none
def allT (vs : List SV) : Bool := vs.all (fun y => decide (y.f0 = 3))
def allO (vs : List SV) : Bool := vs.all (fun y => decide (y.f0 = 3 ∨ y.f0 = 0))
/-- what a value is described by: nothing, of the values that nothing is said of -/
def descr (x : SV) : Option RD := if x.f0 = 3 then some (.text x.f2) else if x.f0 = 4 then (if allT x.f4 then some (.list (x.f4.map (·.f2))) else none) else if x.f0 = 5 then (if allO x.f4 then some (.map (x.f3.zip (x.f4.map fO))) else none) else none
theorem fineS_text {y : SV} (h : FineS y) (h3 : y.f0 = 3) : y = tS y.f2 := by
  cases h with
  | text s => rfl
  | nil => cases h3
  | bool b => cases h3
  | int i => cases h3
  | list _ _ => cases h3
  | map _ _ _ _ => cases h3
theorem fineS_o {y : SV} (h : FineS y) (h3 : y.f0 = 3 ∨ y.f0 = 0) : y = oS (fO y) := by
  cases h with
  | text s => rfl
  | nil => rfl
  | bool b => rcases h3 with h | h <;> cases h
  | int i => rcases h3 with h | h <;> cases h
  | list _ _ => rcases h3 with h | h <;> cases h
  | map _ _ _ _ => rcases h3 with h | h <;> cases h
theorem map_of {ys : List SV} (f : SV → SV) (h : ∀ (i : Nat) (q : i < ys.length), ys[i]'q = f (ys[i]'q)) : ys = ys.map f := by
  apply List.ext_getElem (by simp)
  intro i h1 h2
  rw [List.getElem_map]
  exact h i h1
theorem descr_tree {x : SV} (hf : FineS x) {rd : RD} (h : descr x = some rd) : x = rd.S := by
  unfold descr at h
  cases hf with
  | nil => rw [if_neg (by simp), if_neg (by simp), if_neg (by simp)] at h; cases h
  | bool b => rw [if_neg (by simp), if_neg (by simp), if_neg (by simp)] at h; cases h
  | int i => rw [if_neg (by simp), if_neg (by simp), if_neg (by simp)] at h; cases h
  | text s => rw [if_pos rfl] at h; injection h with h; subst h; rfl
  | @list ys hb he =>
    rw [if_neg (by simp), if_pos rfl] at h
    split at h
    · rename_i ha
      injection h with h
      subst h
      have ha' : ∀ y ∈ ys, y.f0 = 3 := by simpa [allT] using ha
      show (⟨4, 0, be, [], ys⟩ : SV) = ⟨4, 0, be, [], (ys.map (·.f2)).map tS⟩
      rw [List.map_map, ← map_of (tS ∘ (·.f2)) (fun i q => fineS_text (he i q) (ha' _ (List.getElem_mem q)))]
    · cases h
  | @map ks ys hs hl hb he =>
    rw [if_neg (by simp), if_neg (by simp), if_pos rfl] at h
    split at h
    · rename_i ha
      injection h with h
      subst h
      have ha' : ∀ y ∈ ys, y.f0 = 3 ∨ y.f0 = 0 := by simpa [allO] using ha
      have e1 : (ks.zip (ys.map fO)).map (·.1) = ks := by rw [List.map_fst_zip (by simp [hl])]
      have e2 : (ks.zip (ys.map fO)).map (fun q => oS q.2) = ys := by
        have : (ks.zip (ys.map fO)).map (fun q => oS q.2) = ((ks.zip (ys.map fO)).map (·.2)).map oS := by rw [List.map_map]; rfl
        rw [this, List.map_snd_zip (by simp [hl]), List.map_map, ← map_of (oS ∘ fO) (fun i q => fineS_o (he i q) (ha' _ (List.getElem_mem q)))]
      show (⟨5, 0, be, ks, ys⟩ : SV) = ⟨5, 0, be, (ks.zip (ys.map fO)).map (·.1), (ks.zip (ys.map fO)).map (fun q => oS q.2)⟩
      rw [e1, e2]
    · cases h
theorem sum_mem {l : List Nat} {a : Nat} (h : a ∈ l) : a ≤ l.sum := by
  induction l with
  | nil => cases h
  | cons b l ih =>
    rw [List.sum_cons]
    rcases List.mem_cons.1 h with rfl | h
    · omega
    · have := ih h; omega
theorem len_wt (l : List SV) : l.length ≤ (l.map wt).sum := by
  induction l with
  | nil => exact Nat.zero_le _
  | cons a l ih => rw [List.map_cons, List.sum_cons, List.length_cons]; have := wt_eq a; omega
theorem descr_ok {x : SV} (hf : FineS x) (hw : wt x ≤ 1048576) {rd : RD} (h : descr x = some rd) : rd.ok := by
  have hx := descr_tree hf h
  have hwe := wt_eq x
  cases rd with
  | text s =>
    have : x.f2 = s := by rw [hx]; rfl
    rw [this] at hwe
    show s.size ≤ _
    omega
  | list ss =>
    have e4 : x.f4 = ss.map tS := by rw [hx]; rfl
    rw [e4] at hwe
    refine ⟨?_, fun s hs => ?_⟩
    · have := len_wt (ss.map tS)
      rw [List.length_map] at this
      omega
    · have h1 : wt (tS s) ≤ ((ss.map tS).map wt).sum := sum_mem (List.mem_map_of_mem (List.mem_map_of_mem hs))
      have h2 := wt_eq (tS s)
      have h3 : (tS s).f2.size = s.size := rfl
      omega
  | map es =>
    have e3 : x.f3 = es.map (·.1) := by rw [hx]; rfl
    have e4 : x.f4 = es.map (fun q => oS q.2) := by rw [hx]; rfl
    have ha : Ord.Asc id x.f3 := by
      cases hf with
      | map ha _ _ _ => exact ha
      | nil => cases hx
      | bool b => cases hx
      | int i => cases hx
      | text s => cases hx
      | list _ _ => cases hx
    refine ⟨?_, by rw [← e3]; exact ha, fun q hq => ?_⟩
    · have := len_wt x.f4
      rw [e4, List.length_map] at this
      rw [e4] at hwe
      omega
    · have h1 : q.1.size + 1 ≤ ksum x.f3 := by
        rw [e3]
        unfold ksum
        rw [List.map_map]
        exact sum_mem (List.mem_map_of_mem (f := (fun k : ByteArray => k.size + 1) ∘ (·.1)) hq)
      omega
end Go.Proofs.YtgeamhmenmomhaaDoor.A
/- Plain: what the printed functions that ResolveOne calls tell. -/
namespace Go.Proofs.YtgeamhmenmomhaaDoor.A
set_option linter.unusedVariables false
set_option linter.unusedSimpArgs false
set_option linter.unusedSectionVars false
open Go.RowKit Go.Proofs.YtgeamhmenmomhaaDoorW.PrintWords Go.Proofs.YtgeamhmenmomhaaDoorW.PrintLast Go.Proofs.YtgeamhmenmomhaaDoorW.PrintMore Go.Proofs.YtgeamhmenmomhaaDoor.PT Go.Proofs.YtgeamhmenmomhaaDoor.L Go.Proofs.YtgeamhmenmomhaaDoor.SM

theorem wrapQ (i : Nat) (h : i < 4611686018427387904) : wrap64 ((i : Int) + 1) = ((i + 1 : Nat) : Int) := by unfold wrap64; omega
theorem texts_l0 (a b : Int) (c : ByteArray) (ks : List ByteArray) (vs : List SV) (hl : vs.length ≤ 1099511627776) : ∀ n i, n = vs.length - i → i ≤ vs.length → spec_normTexts.l0 (n + 1) (i : Int) a b c ks vs = some (allT (vs.drop i) && decide (a = 4))
  | 0, i, h, hi => by
    rw [spec_normTexts.l0, if_neg (by omega), List.drop_of_length_le (by omega)]
    simp only [allT, List.all_nil, Bool.true_and]
    rfl
  | n + 1, i, h, hi => by
    have hlt : i < vs.length := by omega
    rw [spec_normTexts.l0, if_pos (by omega), if_pos (by omega), wrapQ i (by omega), List.drop_eq_getElem_cons hlt, rdSV hlt]
    by_cases h3 : (vs[i]'hlt).f0 = 3
    · rw [if_pos h3, texts_l0 a b c ks vs hl n (i + 1) (by omega) (by omega)]
      unfold allT
      rw [List.all_cons, decide_eq_true h3, Bool.true_and]
    · rw [if_neg h3]
      unfold allT
      rw [List.all_cons, decide_eq_false h3, Bool.false_and, Bool.false_and]
theorem texts_f (a b : Int) (c : ByteArray) (ks : List ByteArray) (vs : List SV) (hl : vs.length ≤ 1099511627776) : spec_normTexts.f (vs.length + 1) a b c ks vs = some (allT vs && decide (a = 4)) := by
  have := texts_l0 a b c ks vs hl vs.length 0 (by omega) (by omega)
  rw [List.drop_zero] at this
  exact this
/-- what an environment tells -/
def envE (l : List U.SP) : Env := fun k => (U.lastP l k).map (·.f1)
theorem look_E (l : List U.SP) (k : ByteArray) (hl : l.length ≤ 2147483647) : spec_Look.f (l.length + 1) l k = some ((envE l k).getD ⟨#[]⟩, (envE l k).isSome) := by
  rw [U.look_l l k hl]
  unfold envE U.lookAns
  cases U.lastP l k <;> rfl
/-! ### rows of texts and nulls -/
/-- the cells of a text -/
def FlatT (s : ByteArray) (r : RV) : Prop := r.n0 = 3 ∧ r.n1 = 0 ∧ r.t = s ∧ r.an = 0 ∧ r.bn = 0
theorem deep_T {P : Nat → Prop} {w : World} {s : ByteArray} {r : RV} (h : FlatT s r) : DeepP P w (tS s) r := by
  obtain ⟨h0, h1, h2, h3, h4⟩ := h
  exact .mk (rs := []) h0 h1 h2 h3 (by omega) (C_nil _ _ _) (fun q => absurd q (Nat.lt_irrefl _)) h4 (by omega) rfl (C_nil _ _ _) (fun q => absurd q (Nat.lt_irrefl _)) (fun i q1 _ => by cases q1)
theorem flat_new (s : ByteArray) : FlatT s ⟨3, 0, s, none, 0, 0, none, 0, 0⟩ := ⟨rfl, rfl, rfl, rfl, rfl⟩
/-! ### the end of a map whose keys rise -/
end Go.Proofs.YtgeamhmenmomhaaDoor.A
