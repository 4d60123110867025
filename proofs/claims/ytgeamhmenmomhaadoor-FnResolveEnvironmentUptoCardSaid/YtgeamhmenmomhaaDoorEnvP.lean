/- Joined texts. -/
import Derived.Test.YtgeamhmenmomhaaDoorFit
import Derived.Test.YtgeamhmenmomhaaDoorResQ
/- A made value's cells, all the way down. Plain. -/
namespace Go.Proofs.YtgeamhmenmomhaaDoor.A
set_option linter.unusedVariables false
set_option linter.unusedSimpArgs false
set_option linter.unusedSectionVars false
open Go.RowKit Go.Proofs.YtgeamhmenmomhaaDoorW.PrintWords Go.Proofs.YtgeamhmenmomhaaDoorW.PrintLast Go.Proofs.YtgeamhmenmomhaaDoorW.PrintMore Go.Proofs.YtgeamhmenmomhaaDoor.PT Go.Proofs.YtgeamhmenmomhaaDoor.L Go.Proofs.YtgeamhmenmomhaaDoor.SM

theorem sizeS_sub {x y : SV} (h : y ∈ x.f4) : SizeOf.sizeOf y < SizeOf.sizeOf x := by
  have h1 := List.sizeOf_lt_of_mem h
  cases x with
  | mk f0 f1 f2 f3 f4 =>
    simp only [S25.mk.sizeOf_spec] at h1 ⊢
    omega
theorem rows_ex {α : Type} {Q : Nat → α → Prop} : ∀ n : Nat, (∀ j, j < n → ∃ x, Q j x) → ∃ l : List α, l.length = n ∧ ∀ j x, l[j]? = some x → Q j x
  | 0, _ => ⟨[], rfl, fun j x h => by simp at h⟩
  | n + 1, h => by
    obtain ⟨l, hl, hq⟩ := rows_ex n (fun j hj => h j (by omega))
    obtain ⟨x, hx⟩ := h n (by omega)
    refine ⟨l ++ [x], by simp [hl], fun j y hy => ?_⟩
    rcases Nat.lt_or_ge j l.length with hj | hj
    · rw [List.getElem?_append_left hj] at hy; exact hq j y hy
    · have hj2 := (List.getElem?_eq_some_iff.1 hy).1
      simp only [List.length_append, List.length_singleton] at hj2
      obtain rfl : j = n := by omega
      rw [List.getElem?_append_right (by omega), hl] at hy
      simp only [Nat.sub_self, List.getElem?_cons_zero, Option.some.injEq] at hy
      exact hy ▸ hx
theorem val_cs {r : RV} {x : SV} {A3 A4 : Option Addr} {c3 c4 : Nat} (h : cellsS x A3 c3 A4 c4 = r.val) : r.cs = [.int .i64 x.f0, .int .i64 x.f1, .string x.f2, .slice A3 x.f3.length c3, .slice A4 x.f4.length c4] := by
  unfold cellsS RV.val at h
  injection h with h
  have := congrArg Array.toList h
  unfold RV.cs
  exact this.symm
/-- a value that is made has its cells, and rows of cells, in blocks that are there -/
theorem deep_of_made : ∀ (n : Nat) (x : SV), SizeOf.sizeOf x ≤ n → ∀ {w : World} {v : Value}, MadeS x w v → ∃ r : RV, v = r.val ∧ DeepP (fun k => k < w.heap.size) w x r
  | 0, x, h, _, _, _ => by cases x; simp at h
  | n + 1, x, hn, w, v, hv => by
    obtain ⟨A3, c3, A4, c4, rfl, h3, g3, h4, g4⟩ := hv
    obtain ⟨q1, q2, q3⟩ := g4
    have hj : ∀ j, j < x.f4.length → ∃ r : RV, (∃ ad, A4 = some ad ∧ ∃ cs : List Value, cs.length = kR.sz ∧ kR.K w r cs ∧ ∀ i u, cs[i]? = some u → w.cell? (ad.add (j * kR.sz + i)) = some u) ∧ ∀ hh : j < x.f4.length, DeepP (fun k => k < w.heap.size) w (x.f4[j]'hh) r := by
      intro j hj
      obtain ⟨ad, e, hc⟩ := q3 (by omega)
      obtain ⟨cs, ha, hb, hcc⟩ := hc j (x.f4[j]'hj) (List.getElem?_eq_getElem hj)
      obtain ⟨B3, d3, B4, d4, ecs, k3, l3, k4, l4⟩ := k25_open hb
      have hlt := sizeS_sub (List.getElem_mem hj)
      obtain ⟨r, hr, hd⟩ := deep_of_made n (x.f4[j]'hj) (by omega) (w := w) (v := cellsS (x.f4[j]'hj) B3 d3 B4 d4) ⟨B3, d3, B4, d4, rfl, k3, l3, k4, l4⟩
      exact ⟨r, ⟨ad, e, cs, ha, by show cs = r.cs; rw [val_cs hr, ecs], hcc⟩, fun _ => hd⟩
    obtain ⟨rs, hl, hq⟩ := rows_ex x.f4.length hj
    refine ⟨⟨x.f0, x.f1, x.f2, A3, x.f3.length, c3, A4, x.f4.length, c4⟩, rfl, .mk (rs := rs) rfl rfl rfl rfl h3 g3 (fun hp ad e => ?_) rfl h4 hl ⟨rfl, by rw [hl]; exact q2, fun hp => ?_⟩ (fun hp ad e => ?_) (fun i i1 i2 => (hq i _ (List.getElem?_eq_getElem i2)).2 i1)⟩
    · dsimp only at e; rw [e] at g3; exact C_lt g3 (by decide) hp
    · obtain ⟨ad, e, hc⟩ := q3 (by omega)
      refine ⟨ad, e, fun j p hjp => ?_⟩
      obtain ⟨ad', e', cs, a1, a2, a3⟩ := (hq j p hjp).1
      rw [e] at e'
      injection e' with e'
      subst e'
      exact ⟨cs, a1, a2, a3⟩
    · dsimp only at e
      have g4 : Kd.C A.kS w A4 x.f4.length x.f4 := ⟨q1, q2, q3⟩
      rw [e] at g4
      exact C_lt g4 (by decide) (by rw [← hl]; exact hp)
theorem DeepP.rows {P : Nat → Prop} {w : World} {x : SV} {r : RV} (h : DeepP P w x r) : ∃ rs : List RV, r.n0 = x.f0 ∧ r.n1 = x.f1 ∧ r.t = x.f2 ∧ r.an = x.f3.length ∧ r.an ≤ r.ac ∧ Kd.C Kd.string w r.A x.f3.length x.f3 ∧ r.bn = x.f4.length ∧ r.bn ≤ r.bc ∧ Kd.C kR w r.B rs.length rs ∧ All2 (DeepP P w) x.f4 rs := by
  cases h with
  | @mk _ _ rs h0 h1 h2 h3 h3c h3k h3f h4 h4c h4l h4k h4f he => exact ⟨rs, h0, h1, h2, h3, h3c, h3k, h4, h4c, h4k, h4l.symm, he⟩
end Go.Proofs.YtgeamhmenmomhaaDoor.A
/- Plain: what ResolveEnvironment makes of a model. -/
namespace Go.Proofs.YtgeamhmenmomhaaDoor.A
set_option linter.unusedVariables false
set_option linter.unusedSimpArgs false
set_option linter.unusedSectionVars false
open Go.RowKit Go.Proofs.YtgeamhmenmomhaaDoorW.PrintWords Go.Proofs.YtgeamhmenmomhaaDoorW.PrintLast Go.Proofs.YtgeamhmenmomhaaDoorW.PrintMore Go.Proofs.YtgeamhmenmomhaaDoor.PT Go.Proofs.YtgeamhmenmomhaaDoor.L Go.Proofs.YtgeamhmenmomhaaDoor.SM

abbrev kSrv : ByteArray := ⟨#[115, 101, 114, 118, 105, 99, 101, 115]⟩
abbrev kEnv : ByteArray := ⟨#[101, 110, 118, 105, 114, 111, 110, 109, 101, 110, 116]⟩
abbrev kJobs : ByteArray := ⟨#[106, 111, 98, 115]⟩
abbrev kSec : ByteArray := ⟨#[115, 101, 99, 114, 101, 116, 115]⟩
abbrev kCfg : ByteArray := ⟨#[99, 111, 110, 102, 105, 103, 115]⟩
/-- a text, resolved -/
def resX (E : Env) (s : ByteArray) : ByteArray := match E s with
  | some v => s ++ eqB ++ v
  | none => s
def setI (k : ByteArray) (f : IV → IV) (x : IV) : IV := ⟨x.f0, x.f1, x.f2, x.f3, (x.f3.zip x.f4).map (fun q => if q.1 = k then f q.2 else q.2)⟩
def setS (k : ByteArray) (f : SV → SV) (x : SV) : SV := ⟨x.f0, x.f1, x.f2, x.f3, (x.f3.zip x.f4).map (fun q => if q.1 = k then f q.2 else q.2)⟩
def allI (f : IV → IV) (x : IV) : IV := ⟨x.f0, x.f1, x.f2, x.f3, x.f4.map f⟩
def allS (f : SV → SV) (x : SV) : SV := ⟨x.f0, x.f1, x.f2, x.f3, x.f4.map f⟩
def envI (E : Env) (e : IV) : IV := ⟨4, 0, be, [], e.f4.map (fun t => tI (resX E t.f2))⟩
def envS (E : Env) (e : SV) : SV := ⟨4, 0, be, [], e.f4.map (fun t => tS (resX E t.f2))⟩
abbrev srvI (E : Env) : IV → IV := setI kEnv (envI E)
abbrev srvS (E : Env) : SV → SV := setS kEnv (envS E)
abbrev topI (E : Env) : IV → IV := setI kSrv (allI (srvI E))
abbrev topS (E : Env) : SV → SV := setS kSrv (allS (srvS E))
theorem fine_lens {x : IV} (h : Fine x) (h5 : x.f0 = 5) : x.f4.length = x.f3.length := by
  cases h with
  | map _ hl _ _ => exact hl
  | nil => cases h5
  | bool _ => cases h5
  | int _ => cases h5
  | text _ => cases h5
  | list _ _ => cases h5
theorem fine_asc {x : IV} (h : Fine x) (h5 : x.f0 = 5) : Ord.Asc id x.f3 := by
  cases h with
  | map ha _ _ _ => exact ha
  | nil => cases h5
  | bool _ => cases h5
  | int _ => cases h5
  | text _ => cases h5
  | list _ _ => cases h5
theorem fine_sub {x y : IV} (h : Fine x) (hy : y ∈ x.f4) : Fine y := by
  cases h with
  | map _ _ _ he => exact he y hy
  | list _ he => exact he y hy
  | nil => cases hy
  | bool _ => cases hy
  | int _ => cases hy
  | text _ => cases hy
theorem setI_len {k : ByteArray} {f : IV → IV} {x : IV} (hl : x.f4.length = x.f3.length) : (setI k f x).f4.length = x.f4.length := by simp [setI, hl]
theorem setI_get {k : ByteArray} {f : IV → IV} {x : IV} {i : Nat} (h1 : i < x.f3.length) (h2 : i < x.f4.length) (h : i < (setI k f x).f4.length) : (setI k f x).f4[i]'h = if x.f3[i]'h1 = k then f (x.f4[i]'h2) else x.f4[i]'h2 := by simp [setI]
theorem setS_len {k : ByteArray} {f : SV → SV} {x : SV} (hl : x.f4.length = x.f3.length) : (setS k f x).f4.length = x.f4.length := by simp [setS, hl]
theorem setS_get {k : ByteArray} {f : SV → SV} {x : SV} {i : Nat} (h1 : i < x.f3.length) (h2 : i < x.f4.length) (h : i < (setS k f x).f4.length) : (setS k f x).f4[i]'h = if x.f3[i]'h1 = k then f (x.f4[i]'h2) else x.f4[i]'h2 := by simp [setS]
/-- a service that is spoken of -/
structure OkEnv (x : IV) : Prop where
  map : x.f0 = 5
  env : ∀ (i : Nat) (h1 : i < x.f3.length) (h2 : i < x.f4.length), x.f3[i]'h1 = kEnv → ∃ ss, x.f4[i]'h2 = RD.I (.list ss) ∧ ss.length ≤ 1048576 ∧ ∀ s ∈ ss, s.size ≤ 2147483647
/-- a model that is spoken of -/
structure OkTop (y : IV) : Prop where
  map : y.f0 = 5
  srv : ∀ (i : Nat) (h1 : i < y.f3.length) (h2 : i < y.f4.length), y.f3[i]'h1 = kSrv → (y.f4[i]'h2).f0 = 5 ∧ ∀ x ∈ (y.f4[i]'h2).f4, OkEnv x
  has : kSrv ∈ y.f3
  jobs : kJobs ∉ y.f3
  sec : kSec ∉ y.f3
  cfg : kCfg ∉ y.f3
theorem envI_list (E : Env) (ss : List ByteArray) : envI E (RD.I (.list ss)) = RD.I (.list (ss.map (resX E))) := by simp [envI, RD.I, tI]
theorem fine_texts {ss : List ByteArray} (h : ss.length ≤ 1048576) : Fine (RD.I (.list ss)) := by
  refine .list (by simp; omega) (fun y hy => ?_)
  obtain ⟨s, _, rfl⟩ := List.mem_map.1 hy
  exact .text s
theorem fine_set {k : ByteArray} {f : IV → IV} {x : IV} (h : Fine x) (h5 : x.f0 = 5) (hf : ∀ (i : Nat) (h1 : i < x.f3.length) (h2 : i < x.f4.length), x.f3[i]'h1 = k → Fine (f (x.f4[i]'h2))) : Fine (setI k f x) := by
  have hl := fine_lens h h5
  have hset := setI_len (k := k) (f := f) hl
  have hall : ∀ y ∈ (setI k f x).f4, Fine y := by
    intro y hy
    obtain ⟨i, hi, rfl⟩ := List.mem_iff_getElem.1 hy
    have h2 : i < x.f4.length := by rw [← hset]; exact hi
    rw [setI_get (by omega) h2 hi]
    split
    · rename_i e; exact hf i _ h2 e
    · exact fine_sub h (List.getElem_mem h2)
  cases h with
  | map ha hl' hb he => exact .map ha (by rw [← hl']; exact hset) (by show (setI k f _).f4.length ≤ _; rw [hset]; exact hb) hall
  | nil => cases h5
  | bool _ => cases h5
  | int _ => cases h5
  | text _ => cases h5
  | list _ _ => cases h5
theorem fine_srv {E : Env} {x : IV} (h : Fine x) (ho : OkEnv x) : Fine (srvI E x) := fine_set h ho.map (fun i h1 h2 e => by
  obtain ⟨ss, hs, hb, _⟩ := ho.env i h1 h2 e
  rw [hs, envI_list]
  exact fine_texts (by simpa using hb))
theorem fine_all {f : IV → IV} {x : IV} (h : Fine x) (h5 : x.f0 = 5) (hf : ∀ y ∈ x.f4, Fine (f y)) : Fine (allI f x) := by
  have hall : ∀ y ∈ x.f4.map f, Fine y := fun y hy => by obtain ⟨z, hz, rfl⟩ := List.mem_map.1 hy; exact hf z hz
  cases h with
  | map ha hl hb he => exact .map ha (by simpa using hl) (by simpa using hb) hall
  | nil => cases h5
  | bool _ => cases h5
  | int _ => cases h5
  | text _ => cases h5
  | list _ _ => cases h5
theorem fine_top {E : Env} {y : IV} (h : Fine y) (ho : OkTop y) : Fine (topI E y) := fine_set h ho.map (fun i h1 h2 e => by
  obtain ⟨h5, hx⟩ := ho.srv i h1 h2 e
  have hf := fine_sub h (List.getElem_mem h2)
  exact fine_all hf h5 (fun x hxm => fine_srv (fine_sub hf hxm) (hx x hxm)))
/-! ### twice is once -/
theorem setI_twice {k : ByteArray} {f : IV → IV} {x : IV} (hl : x.f4.length = x.f3.length) (hf : ∀ (i : Nat) (h1 : i < x.f3.length) (h2 : i < x.f4.length), x.f3[i]'h1 = k → f (f (x.f4[i]'h2)) = f (x.f4[i]'h2)) : setI k f (setI k f x) = setI k f x := by
  have h1 := setI_len (k := k) (f := f) hl
  have h2 := setI_len (k := k) (f := f) (x := setI k f x) (h1.trans hl)
  have e : (setI k f (setI k f x)).f4 = (setI k f x).f4 := by
    apply List.ext_getElem h2
    intro i i1 i2
    have i4 : i < x.f4.length := by rw [← h1]; exact i2
    have i3 : i < x.f3.length := by rw [← hl]; exact i4
    rw [setI_get (x := setI k f x) i3 i2 i1, setI_get i3 i4 i2]
    show (if x.f3[i]'i3 = k then _ else _) = _
    by_cases hk : x.f3[i]'i3 = k
    · rw [if_pos hk, if_pos hk]; exact hf i i3 i4 hk
    · rw [if_neg hk, if_neg hk]
  show (⟨x.f0, x.f1, x.f2, x.f3, (setI k f (setI k f x)).f4⟩ : IV) = ⟨x.f0, x.f1, x.f2, x.f3, (setI k f x).f4⟩
  rw [e]
/-- no byte is an equals sign -/
def noQ (s : ByteArray) : Prop := ∀ c ∈ s.data.toList, c ≠ 61
theorem resX_twice {E : Env} (hE : ∀ k v, E k = some v → noQ k) (s : ByteArray) : resX E (resX E s) = resX E s := by
  cases h : E s with
  | none =>
    have e : resX E s = s := by unfold resX; rw [h]
    rw [e, e]
  | some v =>
    have e : resX E s = s ++ eqB ++ v := by unfold resX; rw [h]
    rw [e]
    have h2 : E (s ++ eqB ++ v) = none := by
      cases h3 : E (s ++ eqB ++ v) with
      | none => rfl
      | some u =>
        refine absurd rfl (hE _ _ h3 61 ?_)
        simp [ByteArray.data_append]
    unfold resX
    rw [h2]
theorem envI_twice {E : Env} (hE : ∀ k v, E k = some v → noQ k) (e : IV) : envI E (envI E e) = envI E e := by
  unfold envI
  simp only [List.map_map]
  congr 1
  apply List.map_congr_left
  intro t _
  show tI (resX E (tI (resX E t.f2)).f2) = tI (resX E t.f2)
  show tI (resX E (resX E t.f2)) = _
  rw [resX_twice hE]
theorem topI_twice {E : Env} (hE : ∀ k v, E k = some v → noQ k) {y : IV} (h : Fine y) (ho : OkTop y) : topI E (topI E y) = topI E y := setI_twice (fine_lens h ho.map) (fun i h1 h2 e => by
  obtain ⟨h5, hx⟩ := ho.srv i h1 h2 e
  have hf := fine_sub h (List.getElem_mem h2)
  unfold allI
  simp only [List.map_map]
  congr 1
  apply List.map_congr_left
  intro x hxm
  exact setI_twice (fine_lens (fine_sub hf hxm) (hx x hxm).map) (fun j j1 j2 _ => envI_twice hE _))
theorem okTop_top {E : Env} (hv : ∀ k v, E k = some v → v.size ≤ 1048576) {y : IV} (h : Fine y) (ho : OkTop y) (hs : ∀ (i : Nat) (h1 : i < y.f3.length) (h2 : i < y.f4.length), y.f3[i]'h1 = kSrv → ∀ x ∈ (y.f4[i]'h2).f4, ∀ (j : Nat) (j1 : j < x.f3.length) (j2 : j < x.f4.length), x.f3[j]'j1 = kEnv → ∀ ss, x.f4[j]'j2 = RD.I (.list ss) → ∀ s ∈ ss, s.size ≤ 1048576) : OkTop (topI E y) := by
  have hl := fine_lens h ho.map
  have hset := setI_len (k := kSrv) (f := allI (srvI E)) hl
  refine ⟨ho.map, fun i h1 h2 e => ?_, ho.has, ho.jobs, ho.sec, ho.cfg⟩
  have h1' : i < y.f3.length := h1
  have h2' : i < y.f4.length := by rw [← hset]; exact h2
  have e' : y.f3[i]'h1' = kSrv := e
  obtain ⟨h5, hx⟩ := ho.srv i h1' h2' e'
  have hf := fine_sub h (List.getElem_mem h2')
  have hg := setI_get (k := kSrv) (f := allI (srvI E)) h1' h2' h2
  rw [if_pos e'] at hg
  rw [hg]
  refine ⟨h5, fun z hz => ?_⟩
  obtain ⟨x, hxm, rfl⟩ := List.mem_map.1 (show z ∈ (y.f4[i]'h2').f4.map (srvI E) from hz)
  have hxl := fine_lens (fine_sub hf hxm) (hx x hxm).map
  refine ⟨(hx x hxm).map, fun j j1 j2 ej => ?_⟩
  have j1' : j < x.f3.length := j1
  have j2' : j < x.f4.length := by rw [← setI_len (k := kEnv) (f := envI E) hxl]; exact j2
  have ej' : x.f3[j]'j1' = kEnv := ej
  obtain ⟨ss, hss, hb, _⟩ := (hx x hxm).env j j1' j2' ej'
  have hsz := hs i h1' h2' e' x hxm j j1' j2' ej' ss hss
  refine ⟨ss.map (resX E), ?_, by simpa using hb, fun t ht => ?_⟩
  · have := setI_get (k := kEnv) (f := envI E) j1' j2' j2
    rw [if_pos ej'] at this
    rw [this, hss, envI_list]
  · obtain ⟨s, hsm, rfl⟩ := List.mem_map.1 ht
    have h3 := hsz s hsm
    unfold resX
    cases he : E s with
    | none => show s.size ≤ _; omega
    | some v =>
      have h4 := hv s v he
      have h5 : eqB.size = 1 := rfl
      show (s ++ eqB ++ v).size ≤ _
      rw [ByteArray.size_append, ByteArray.size_append]
      omega
/-! ### the specification's, and the thin package's -/
theorem twin_set {k : ByteArray} {f : SV → SV} {g : IV → IV} {x : SV} {y : IV} (h : Twin x y) (hl : y.f4.length = y.f3.length) (hf : ∀ (i : Nat) (h0 : i < y.f3.length) (h1 : i < x.f4.length) (h2 : i < y.f4.length), y.f3[i]'h0 = k → Twin (f (x.f4[i]'h1)) (g (y.f4[i]'h2))) : Twin (setS k f x) (setI k g y) := by
  cases h with
  | mk e0 e1 e2 e3 el hb3 hb4 he =>
    have hlx : x.f4.length = x.f3.length := by rw [el, hl, e3]
    refine .mk e0 e1 e2 e3 ?_ hb3 ?_ (fun i q1 q2 => ?_)
    · rw [setS_len hlx, setI_len hl, el]
    · rw [setS_len hlx]; exact hb4
    · have i1 : i < x.f4.length := by rw [← setS_len (k := k) (f := f) hlx]; exact q1
      have i2 : i < y.f4.length := by omega
      rw [setS_get (by omega) i1 q1, setI_get (by omega) i2 q2]
      have ek : x.f3[i]'(by omega) = y.f3[i]'(by omega) := by simp only [e3]
      rw [ek]
      by_cases hk : y.f3[i]'(by omega) = k
      · rw [if_pos hk, if_pos hk]; exact hf i _ i1 i2 hk
      · rw [if_neg hk, if_neg hk]; exact he i i1 i2
theorem twin_all {f : SV → SV} {g : IV → IV} {x : SV} {y : IV} (h : Twin x y) (hf : ∀ (i : Nat) (h1 : i < x.f4.length) (h2 : i < y.f4.length), Twin (f (x.f4[i]'h1)) (g (y.f4[i]'h2))) : Twin (allS f x) (allI g y) := by
  cases h with
  | mk e0 e1 e2 e3 el hb3 hb4 he =>
    refine .mk e0 e1 e2 e3 (by simpa [allS, allI] using el) hb3 (by simpa [allS] using hb4) (fun i q1 q2 => ?_)
    simp only [allS, allI, List.getElem_map]
    exact hf i _ _
theorem twin_get {x : SV} {y : IV} (h : Twin x y) {i : Nat} (h1 : i < x.f4.length) (h2 : i < y.f4.length) : Twin (x.f4[i]'h1) (y.f4[i]'h2) := by
  cases h with
  | mk e0 e1 e2 e3 el hb3 hb4 he => exact he i h1 h2
theorem twin_env {E : Env} {x : SV} {ss : List ByteArray} (h : Twin x (RD.I (.list ss))) (hb : ss.length ≤ 1048576) : Twin (envS E x) (envI E (RD.I (.list ss))) := by
  cases h with
  | mk e0 e1 e2 e3 el hb3 hb4 he =>
    have hl : x.f4.length = ss.length := by rw [el]; simp [RD.I]
    refine .mk rfl rfl rfl rfl (by simp [envS, envI, el]) (Nat.zero_le _) (by show (List.map _ x.f4).length ≤ _; rw [List.length_map]; omega) (fun i q1 q2 => ?_)
    have i1 : i < x.f4.length := by simpa [envS] using q1
    have i2 : i < (RD.I (.list ss)).f4.length := by rw [← el]; exact i1
    have ht := he i i1 i2
    have e2' : (x.f4[i]'i1).f2 = ((RD.I (.list ss)).f4[i]'i2).f2 := by cases ht with | mk _ _ h2 => exact h2
    simp only [envS, envI, List.getElem_map]
    rw [e2']
    exact twin_text _
theorem twin_top {E : Env} {x : SV} {y : IV} (h : Twin x y) (hf : Fine y) (ho : OkTop y) : Twin (topS E x) (topI E y) := twin_set h (fine_lens hf ho.map) (fun i h0 h1 h2 e => by
  obtain ⟨h5, hx⟩ := ho.srv i h0 h2 e
  have hfs := fine_sub hf (List.getElem_mem h2)
  have hts := twin_get h h1 h2
  refine twin_all hts (fun j j1 j2 => ?_)
  have hxm := List.getElem_mem j2
  refine twin_set (twin_get hts j1 j2) (fine_lens (fine_sub hfs hxm) (hx _ hxm).map) (fun k k0 k1 k2 ek => ?_)
  obtain ⟨ss, hss, hb, _⟩ := (hx _ hxm).env k k0 k2 ek
  have ht := twin_get (twin_get hts j1 j2) k1 k2
  rw [hss] at ht ⊢
  exact twin_env ht hb)
end Go.Proofs.YtgeamhmenmomhaaDoor.A
