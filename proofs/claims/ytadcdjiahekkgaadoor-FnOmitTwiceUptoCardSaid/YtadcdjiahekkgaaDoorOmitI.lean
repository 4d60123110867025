/- Joined texts. -/
import Derived.Test.YtadcdjiahekkgaaDoorOmitG
import Derived.Test.YtadcdjiahekkgaaDoorFitM
import Derived.Test.YtadcdjiahekkgaaDoorPTx4
import Derived.Test.YtadcdjiahekkgaaDoorNameL
/- Plain: what is left of a value is fine, and not larger; spec.Size, laws.zzFits1 as printed. -/
namespace Go.Proofs.YtadcdjiahekkgaaDoor.A
set_option linter.unusedVariables false
set_option linter.unusedSimpArgs false
set_option linter.unusedSectionVars false
open Go.RowKit Go.Proofs.YtadcdjiahekkgaaDoorW.PrintWords Go.Proofs.YtadcdjiahekkgaaDoorW.PrintLast Go.Proofs.YtadcdjiahekkgaaDoorW.PrintMore Go.Proofs.YtadcdjiahekkgaaDoor.PT Go.Proofs.YtadcdjiahekkgaaDoor.L Go.Proofs.YtadcdjiahekkgaaDoor.SM

theorem sum_filter_le {α : Type} (q : α → Bool) (f g : α → Nat) : ∀ l : List α, (∀ a ∈ l, g a ≤ f a) → ((l.filter q).map g).sum ≤ (l.map f).sum
  | [], _ => by simp
  | a :: l, h => by
    have h1 := h a List.mem_cons_self
    have h2 := sum_filter_le q f g l (fun b hb => h b (List.mem_cons_of_mem _ hb))
    rw [List.filter_cons]
    split
    · simp only [List.map_cons, List.sum_cons]; omega
    · simp only [List.map_cons, List.sum_cons]; omega
theorem Fine.lens {x : IV} (h : Fine x) (h5 : x.f0 = 5) : x.f4.length = x.f3.length := by
  cases h with
  | nil => cases h5
  | bool => cases h5
  | int => cases h5
  | text => cases h5
  | list => cases h5
  | map ha hl hb he => exact hl
variable {mo : ByteArray → Bool} {nx : ByteArray → ByteArray → ByteArray}
theorem omN4 {n : Nat} {p : ByteArray} {x : IV} (h : x.f0 = 4) : omN mo nx (n + 1) p x = ⟨4, x.f1, x.f2, x.f3, (x.f4.filter (fun e => !(emptyI e && mo p))).map (omN mo nx n (nx p ⟨#[91, 93]⟩))⟩ := by rw [omN, if_pos h]
theorem omN5 {n : Nat} {p : ByteArray} {x : IV} (h : x.f0 = 5) : omN mo nx (n + 1) p x = ⟨5, x.f1, x.f2, ((x.f3.zip x.f4).filter (fun q => !(emptyI q.2 && mo p))).map (·.1), ((x.f3.zip x.f4).filter (fun q => !(emptyI q.2 && mo p))).map (fun q => omN mo nx n (nx p q.1) q.2)⟩ := by rw [omN, if_neg (by rw [h]; decide), if_pos h]
theorem omNf {n : Nat} {p : ByteArray} {x : IV} (h4 : x.f0 ≠ 4) (h5 : x.f0 ≠ 5) : omN mo nx n p x = x := by
  cases n with
  | zero => rfl
  | succ n => rw [omN, if_neg h4, if_neg h5]
theorem Fine.omN : ∀ (n : Nat) (p : ByteArray) (x : IV), Fine x → Fine (omN mo nx n p x)
  | 0, p, x, h => h
  | n + 1, p, x, h => by
    by_cases h4 : x.f0 = 4
    · rw [omN4 h4]
      cases h with
      | nil => cases h4
      | bool => cases h4
      | int => cases h4
      | text => cases h4
      | map ha hl hb he => cases h4
      | list hb he =>
        refine .list (by rw [List.length_map]; exact Nat.le_trans (List.length_filter_le _ _) hb) (fun y hy => ?_)
        obtain ⟨z, hz, rfl⟩ := List.mem_map.1 hy
        exact Fine.omN n _ z (he z (List.mem_filter.1 hz).1)
    · by_cases h5 : x.f0 = 5
      · rw [omN5 h5]
        cases h with
        | nil => cases h5
        | bool => cases h5
        | int => cases h5
        | text => cases h5
        | list hb he => cases h5
        | @map ks ys ha hl hb he =>
          have hs : ((ks.zip ys).filter (fun q => !(emptyI q.2 && mo p))).map (·.1) |>.Sublist ks := by
            have h1 := List.Sublist.map (fun q : ByteArray × IV => q.1) (List.filter_sublist (p := fun q : ByteArray × IV => !(emptyI q.2 && mo p)) (l := ks.zip ys))
            rw [List.map_fst_zip (by omega)] at h1
            exact h1
          refine .map (List.Pairwise.sublist hs ha) (by simp) ?_ (fun y hy => ?_)
          · rw [List.length_map]
            refine Nat.le_trans (List.length_filter_le _ _) ?_
            show (ks.zip ys).length ≤ _
            rw [List.length_zip]
            omega
          · obtain ⟨z, hz, rfl⟩ := List.mem_map.1 hy
            exact Fine.omN n _ z.2 (he z.2 (List.of_mem_zip (List.mem_filter.1 hz).1).2)
      · rw [omNf h4 h5]; exact h
theorem zip_fst_sum {x : IV} (h : x.f4.length = x.f3.length) (f : ByteArray → Nat) : ((x.f3.zip x.f4).map (fun q => f q.1)).sum = (x.f3.map f).sum := by
  have : (x.f3.zip x.f4).map (fun q => f q.1) = ((x.f3.zip x.f4).map (·.1)).map f := by rw [List.map_map]; rfl
  rw [this, List.map_fst_zip (by omega)]
theorem zip_snd_sum {x : IV} (h : x.f4.length = x.f3.length) (f : IV → Nat) : ((x.f3.zip x.f4).map (fun q => f q.2)).sum = (x.f4.map f).sum := by
  have : (x.f3.zip x.f4).map (fun q => f q.2) = ((x.f3.zip x.f4).map (·.2)).map f := by rw [List.map_map]; rfl
  rw [this, List.map_snd_zip (by omega)]
theorem wtI_omN : ∀ (n : Nat) (p : ByteArray) (x : IV), Fine x → wtI (omN mo nx n p x) ≤ wtI x
  | 0, p, x, h => Nat.le_refl _
  | n + 1, p, x, h => by
    by_cases h4 : x.f0 = 4
    · rw [omN4 h4, wtI_eq, wtI_eq x]
      simp only [List.map_map]
      have := sum_filter_le (fun e => !(emptyI e && mo p)) wtI (wtI ∘ omN mo nx n (nx p ⟨#[91, 93]⟩)) x.f4 (fun a ha => wtI_omN n _ a (h.sub ha))
      omega
    · by_cases h5 : x.f0 = 5
      · rw [omN5 h5, wtI_eq, wtI_eq x]
        simp only [List.map_map]
        have hl := h.lens h5
        have h1 := sum_filter_le (fun q : ByteArray × IV => !(emptyI q.2 && mo p)) (fun q => wtI q.2) (wtI ∘ fun q => omN mo nx n (nx p q.1) q.2) (x.f3.zip x.f4) (fun a ha => wtI_omN n _ a.2 (h.sub (List.of_mem_zip (a := a.1) (b := a.2) ha).2))
        rw [zip_snd_sum hl wtI] at h1
        have h2 := sum_filter_le (fun q : ByteArray × IV => !(emptyI q.2 && mo p)) (fun q => q.1.size + 1) (fun q => q.1.size + 1) (x.f3.zip x.f4) (fun a ha => Nat.le_refl _)
        rw [zip_fst_sum hl (fun k => k.size + 1)] at h2
        have e : ksum (((x.f3.zip x.f4).filter (fun q => !(emptyI q.2 && mo p))).map (·.1)) = (((x.f3.zip x.f4).filter (fun q => !(emptyI q.2 && mo p))).map (fun q => q.1.size + 1)).sum := by unfold ksum; rw [List.map_map]; rfl
        rw [e]
        exact Nat.add_le_add (Nat.add_le_add_left h2 _) h1
      · rw [omNf h4 h5]; exact Nat.le_refl _
/-! ### how many values -/
def szI : IV → Nat
  | ⟨_, _, _, _, vs⟩ => 1 + (vs.attach.map (fun v => szI v.1)).sum
termination_by x => SizeOf.sizeOf x
decreasing_by
  have := List.sizeOf_lt_of_mem v.2
  simp only [S32.mk.sizeOf_spec]
  omega
theorem szI_eq (x : IV) : szI x = 1 + (x.f4.map szI).sum := by
  cases x with
  | mk a b s ks vs => rw [szI]; simp [List.attach_map_val]
theorem szI_omN : ∀ (n : Nat) (p : ByteArray) (x : IV), Fine x → szI (omN mo nx n p x) ≤ szI x
  | 0, p, x, h => Nat.le_refl _
  | n + 1, p, x, h => by
    by_cases h4 : x.f0 = 4
    · rw [omN4 h4, szI_eq, szI_eq x]
      simp only [List.map_map]
      have := sum_filter_le (fun e => !(emptyI e && mo p)) szI (szI ∘ omN mo nx n (nx p ⟨#[91, 93]⟩)) x.f4 (fun a ha => szI_omN n _ a (h.sub ha))
      omega
    · by_cases h5 : x.f0 = 5
      · rw [omN5 h5, szI_eq, szI_eq x]
        simp only [List.map_map]
        have hl := h.lens h5
        have h1 := sum_filter_le (fun q : ByteArray × IV => !(emptyI q.2 && mo p)) (fun q => szI q.2) (szI ∘ fun q => omN mo nx n (nx p q.1) q.2) (x.f3.zip x.f4) (fun a ha => szI_omN n _ a.2 (h.sub (List.of_mem_zip (a := a.1) (b := a.2) ha).2))
        rw [zip_snd_sum hl szI] at h1
        exact Nat.add_le_add_left h1 1
      · rw [omNf h4 h5]; exact Nat.le_refl _
theorem szI_wt : ∀ (n : Nat) (x : IV), SizeOf.sizeOf x ≤ n → szI x ≤ wtI x
  | 0, x, h => by cases x; simp at h
  | n + 1, x, h => by
    rw [szI_eq, wtI_eq]
    have h1 : ∀ l : List IV, (∀ y ∈ l, szI y ≤ wtI y) → (l.map szI).sum ≤ (l.map wtI).sum := fun l => by
      induction l with
      | nil => exact fun _ => Nat.le_refl _
      | cons a l ih =>
        intro hl
        have h2 := hl a List.mem_cons_self
        have h3 := ih (fun y hy => hl y (List.mem_cons_of_mem _ hy))
        simp only [List.map_cons, List.sum_cons]
        omega
    have := h1 x.f4 (fun y hy => szI_wt n y (by have := size_sub hy; omega))
    omega
/-! ### twins -/
theorem Twin.wt {x : SV} {y : IV} (h : Twin x y) : wt x = wtI y := by
  induction h with
  | @mk x y h0 h1 h2 h3 hl hb3 hb4 he ih =>
    rw [wt_eq, wtI_eq, h2, h3]
    have : x.f4.map A.wt = y.f4.map wtI := List.ext_getElem (by simp [hl]) (fun i q1 q2 => by
      rw [List.getElem_map, List.getElem_map]
      exact ih i (by simpa using q1) (by simpa using q2))
    rw [this]
theorem Fine.twinS {y : IV} (h : Fine y) : ∃ x, Twin x y := by
  have pick : ∀ {ys : List IV}, (∀ y ∈ ys, ∃ x, Twin x y) → ∃ xs : List SV, xs.length = ys.length ∧ (∀ (i : Nat) (h1 : i < xs.length) (h2 : i < ys.length), Twin (xs[i]'h1) (ys[i]'h2)) := by
    intro ys
    induction ys with
    | nil => exact fun _ => ⟨[], rfl, fun i h1 _ => absurd h1 (Nat.not_lt_zero _)⟩
    | cons y ys ih =>
      intro h
      obtain ⟨z, hz1⟩ := h y List.mem_cons_self
      obtain ⟨zs, hl, ht⟩ := ih (fun q hq => h q (List.mem_cons_of_mem _ hq))
      refine ⟨z :: zs, by simp [hl], fun i h1 h2 => ?_⟩
      rcases i with _ | i
      · exact hz1
      · exact ht i (by simpa using h1) (by simpa using h2)
  induction h with
  | nil => exact ⟨⟨0, 0, be, [], []⟩, .mk rfl rfl rfl rfl rfl (Nat.zero_le _) (Nat.zero_le _) (fun i q _ => absurd q (Nat.not_lt_zero _))⟩
  | bool b => exact ⟨⟨1, if b then 1 else 0, be, [], []⟩, .mk rfl rfl rfl rfl rfl (Nat.zero_le _) (Nat.zero_le _) (fun i q _ => absurd q (Nat.not_lt_zero _))⟩
  | int i => exact ⟨⟨2, i, be, [], []⟩, .mk rfl rfl rfl rfl rfl (Nat.zero_le _) (Nat.zero_le _) (fun i q _ => absurd q (Nat.not_lt_zero _))⟩
  | text s => exact ⟨⟨3, 0, s, [], []⟩, .mk rfl rfl rfl rfl rfl (Nat.zero_le _) (Nat.zero_le _) (fun i q _ => absurd q (Nat.not_lt_zero _))⟩
  | list hb he ih =>
    obtain ⟨zs, hl, ht⟩ := pick ih
    exact ⟨⟨4, 0, be, [], zs⟩, .mk rfl rfl rfl rfl hl (Nat.zero_le _) (by rw [hl]; exact hb) ht⟩
  | @map ks ys ha hly hb he ih =>
    obtain ⟨zs, hl, ht⟩ := pick ih
    exact ⟨⟨5, 0, be, ks, zs⟩, .mk rfl rfl rfl rfl hl (by show ks.length ≤ _; omega) (by rw [hl]; exact hb) ht⟩
/-! ### spec.Size -/
abbrev Fsize (K : Nat) (x : SV) := spec_Size.f K x.f0 x.f1 x.f2 x.f3 x.f4
theorem wrA {a b : Nat} (h : a + b ≤ 1099511627776) : wrap64 ((a : Int) + (b : Int)) = ((a + b : Nat) : Int) := by unfold wrap64; omega
theorem size_loop (x : SV) (y : IV) (hl : x.f4.length = y.f4.length) (k : Nat)
    (hk : ∀ i, i < x.f4.length → ∀ K, k ≤ K → ∀ (q1 : i < x.f4.length) (q2 : i < y.f4.length), Fsize K (x.f4[i]'q1) = some (szI (y.f4[i]'q2) : Int)) :
    ∀ d j K (a : Nat), j + d = x.f4.length → k + d + 1 ≤ K → j + d ≤ 1099511627776 → a + ((y.f4.drop j).map szI).sum ≤ 1099511627776 → spec_Size.l0 K (a : Int) (j : Int) x.f0 x.f1 x.f2 x.f3 x.f4 = some (((a + ((y.f4.drop j).map szI).sum : Nat)) : Int)
  | 0, j, K, a, hj, hK, hb4, hb => by
    obtain ⟨K, rfl⟩ : ∃ K', K = K' + 1 := ⟨K - 1, by omega⟩
    simp only [spec_Size.l0]
    rw [if_neg (by omega), List.drop_of_length_le (by omega)]
    simp
  | d + 1, j, K, a, hj, hK, hb4, hb => by
    obtain ⟨K, rfl⟩ : ∃ K', K = K' + 1 := ⟨K - 1, by omega⟩
    have h1 : j < x.f4.length := by omega
    have h2 : j < y.f4.length := by omega
    simp only [spec_Size.l0]
    have hq := hk j h1 K (by omega) h1 h2
    simp only [Fsize] at hq
    rw [List.drop_eq_getElem_cons h2, List.map_cons, List.sum_cons] at hb ⊢
    rw [if_pos (by omega), if_pos (by omega), rdSV h1, hq]
    simp only [Option.bind_some]
    rw [wrA (by omega), wrT (by omega), size_loop x y hl k hk d (j + 1) K _ (by omega) (by omega) (by omega) (by omega), Nat.add_assoc]
theorem size_f {x : SV} {y : IV} (h : Twin x y) : szI y ≤ 1099511627776 → ∃ k, ∀ K, k ≤ K → Fsize K x = some (szI y : Int) := by
  induction h with
  | @mk x y h0 h1 h2 h3 hl hb3 hb4 he ih =>
    intro hz
    rw [szI_eq] at hz
    obtain ⟨k, hk⟩ := common (fun i K => ∀ (q1 : i < x.f4.length) (q2 : i < y.f4.length), Fsize K (x.f4[i]'q1) = some (szI (y.f4[i]'q2) : Int)) x.f4.length (fun i hi => by
      have h5 := mem_sum (List.mem_map_of_mem (f := szI) (List.getElem_mem (show i < y.f4.length by omega)))
      obtain ⟨k, hk⟩ := ih i hi (by omega) (by omega)
      exact ⟨k, fun K hK q1 q2 => hk K hK⟩)
    refine ⟨k + x.f4.length + 2, fun K hK => ?_⟩
    obtain ⟨K, rfl⟩ : ∃ K', K = K' + 1 := ⟨K - 1, by omega⟩
    simp only [Fsize, spec_Size.f]
    have := size_loop x y hl k hk x.f4.length 0 K 1 (by omega) (by omega) (by omega) (by simpa using hz)
    rw [List.drop_zero] at this
    rw [szI_eq]
    exact this
theorem law_size {x : SV} {y : IV} (h : Twin x y) (hz : szI y ≤ 1099511627776) {v : Value} {w : World} (hv : MadeS x w v) : Calls Tryd.prog 12 #[v] w fun e w' => e = .returned (.int .i64 (szI y)) ∧ Below w.heap.size w w' := by
  obtain ⟨A3, c3, A4, c4, rfl, h3, g3, h4, g4⟩ := hv
  obtain ⟨k, hk⟩ := size_f h hz
  exact spec_Size.calls k x.f0 x.f1 x.f2 A3 c3 x.f3 A4 c4 x.f4 _ w g3 h3 g4 h4 (hk k (Nat.le_refl _))
/-! ### laws.zzFits1 -/
theorem fits2_loop (l : List ByteArray) (hb : l.length ≤ 2147483647) : ∀ d j, j + d = l.length → ∃ r, laws_zzFits2.l0 (d + 1) l (l.length : Int) (j : Int) = some r
  | 0, j, hj => ⟨true, by simp only [laws_zzFits2.l0]; rw [if_neg (by omega)]⟩
  | d + 1, j, hj => by
    obtain ⟨r, hr⟩ := fits2_loop l hb d (j + 1) (by omega)
    rw [laws_zzFits2.l0, if_pos (by omega), if_pos (by omega), if_pos (by omega)]
    split
    · exact ⟨_, rfl⟩
    · exact ⟨r, by rw [wrT (by omega)]; exact hr⟩
theorem fits1_total (a b : Int) (s : ByteArray) (l : List ByteArray) (vs : List SV) : ∃ k r, laws_zzFits1.f k a b s l vs = some r := by
  have h2 : ∃ r, laws_zzFits2.f (l.length + 1) l = some r := by
    unfold laws_zzFits2.f
    by_cases h : (l.length : Int) > 2147483647
    · exact ⟨_, if_pos h⟩
    · rw [if_neg h]
      exact fits2_loop l (by omega) l.length 0 (by omega)
  obtain ⟨r, hr⟩ := h2
  refine ⟨l.length + 1, ?_⟩
  unfold laws_zzFits1.f
  rw [hr]
  simp only [Option.bind_some]
  split
  · exact ⟨_, rfl⟩
  · split
    · split
      · exact ⟨_, rfl⟩
      · exact ⟨_, rfl⟩
    · exact ⟨_, rfl⟩
theorem law_fits1 {x : SV} {v : Value} {w : World} (hv : MadeS x w v) : Calls Tryd.prog 6 #[v] w fun e w' => (∃ r, e = .returned (.bool r)) ∧ Below w.heap.size w w' := by
  obtain ⟨A3, c3, A4, c4, rfl, h3, g3, h4, g4⟩ := hv
  obtain ⟨k, r, hk⟩ := fits1_total x.f0 x.f1 x.f2 x.f3 x.f4
  refine (laws_zzFits1.calls k x.f0 x.f1 x.f2 A3 c3 x.f3 A4 c4 x.f4 r w g3 h3 g4 h4 hk).mono ?_
  rintro e w' ⟨rfl, hb⟩
  exact ⟨⟨r, rfl⟩, hb⟩
/-! ### twice is once -/
theorem omT_twice (y : IV) : omT (omT y) = omT y := by
  have e1 := omN_ge (mo := mustB) (nx := nextP) (p := be) (Nat.le_refl (SizeOf.sizeOf y)) (Nat.le_max_left (SizeOf.sizeOf y) (SizeOf.sizeOf (omT y)))
  have e2 := omN_ge (mo := mustB) (nx := nextP) (p := be) (Nat.le_refl (SizeOf.sizeOf (omT y))) (Nat.le_max_right (SizeOf.sizeOf y) (SizeOf.sizeOf (omT y)))
  have e3 := omN_twice (mo := mustB) (nx := nextP) (max (SizeOf.sizeOf y) (SizeOf.sizeOf (omT y))) be y
  rw [e1] at e3
  exact e2.symm.trans e3
end Go.Proofs.YtadcdjiahekkgaaDoor.A
/- The walk of the law on OmitEmpty. -/
namespace Go.Proofs.YtadcdjiahekkgaaDoor.A
set_option linter.unusedVariables false
set_option linter.unusedSimpArgs false
set_option linter.unusedSectionVars false
open Go.RowKit Go.Proofs.YtadcdjiahekkgaaDoorW.PrintWords Go.Proofs.YtadcdjiahekkgaaDoorW.PrintLast Go.Proofs.YtadcdjiahekkgaaDoorW.PrintMore Go.Proofs.YtadcdjiahekkgaaDoor.PT Go.Proofs.YtadcdjiahekkgaaDoor.L Go.Proofs.YtadcdjiahekkgaaDoor.SM

theorem law_fit {x : SV} (hx : Bnd x) {v : Value} {w : World} (hv : MadeS x w v) : Calls Tryd.prog 7 #[v] w fun e w' => ∃ (y : SV) (u : Value), e = .returned u ∧ FineS y ∧ wt y ≤ wt x ∧ MadeS y w' u ∧ (∀ W', (∀ k, w.heap.size ≤ k → k < w'.heap.size → W'.heap[k]? = w'.heap[k]?) → MadeS y W' u) ∧ Below w.heap.size w w' := by
  refine (spec_Fit hx w v hv).mono ?_
  rintro e w' ⟨y, r, rfl, h1, h2, h3, h4⟩
  exact ⟨y, r.val, rfl, h1, h2, h3.parts, fun W' hW => (h3.kept hW).parts, h4⟩
theorem box5 {w : World} {g : Nat} {t : TypeId} {c0 c1 c2 c3 c4 : Value} (h : w.heap[g]? = some (.cells #[c0, c1, c2, c3, c4] t (0, 0))) (u0 u1 u2 u3 u4 : Value) :
    (((((w.setCell ⟨g, 0, none⟩ u0).setCell ⟨g, 1, none⟩ u1).setCell ⟨g, 2, none⟩ u2).setCell ⟨g, 3, none⟩ u3).setCell ⟨g, 4, none⟩ u4).heap[g]? = some (.cells #[u0, u1, u2, u3, u4] t (0, 0)) :=
  blk_put (blk_put (blk_put (blk_put (blk_put h 0 _ rfl) 1 _ rfl) 2 _ rfl) 3 _ rfl) 4 _ rfl
theorem far5 {w : World} {g k : Nat} (hk : k ≠ g) (u0 u1 u2 u3 u4 : Value) :
    (((((w.setCell ⟨g, 0, none⟩ u0).setCell ⟨g, 1, none⟩ u1).setCell ⟨g, 2, none⟩ u2).setCell ⟨g, 3, none⟩ u3).setCell ⟨g, 4, none⟩ u4).heap[k]? = w.heap[k]? := by
  rw [Below.heap_setCell _ _ _ _ (by show k ≠ g; exact hk), Below.heap_setCell _ _ _ _ (by show k ≠ g; exact hk), Below.heap_setCell _ _ _ _ (by show k ≠ g; exact hk), Below.heap_setCell _ _ _ _ (by show k ≠ g; exact hk), Below.heap_setCell _ _ _ _ (by show k ≠ g; exact hk)]
def OmC (t z : IV) : Prop := ∀ (W : World) (v : Value), MadeI t W v → Calls Tryd.prog 10 #[v] W fun e w' => (∃ u, e = .returned u ∧ MadeI z w' u) ∧ Below W.heap.size W w'
theorem OmC.use {t z : IV} (h : OmC t z) {W : World} {v : Value} (hv : MadeI t W v) : Calls Tryd.prog 10 #[v] W fun e w' => (∃ u, e = .returned u ∧ MadeI z w' u) ∧ Below W.heap.size W w' := h W v hv
theorem omC1 {t : IV} (hft : Fine t) (ht5 : t.f0 = 5) (hfz : Fine (omT t)) (hpt : 9 * wtI t ≤ 2147483647) : OmC t (omT t) := fun _ _ hv => impl_OmitEmpty hft ht5 hfz hpt hv
theorem omC2 {z : IV} (e : omT z = z) (hfz : Fine z) (hz5 : z.f0 = 5) (hpz : 9 * wtI z ≤ 2147483647) : OmC z z := by
  have h := omC1 hfz hz5 (by rw [e]; exact hfz) hpz
  rw [e] at h
  exact h
theorem Twin.kind {x : SV} {y : IV} (h : Twin x y) : x.f0 = y.f0 := by cases h with | mk h0 => exact h0
theorem omit_facts {y : SV} (hfy : FineS y) (h5 : y.f0 = 5) (hw : wt y ≤ 1048576) : ∃ (t z : IV) (s : SV), Twin y t ∧ Twin s z ∧ s.f0 = 5 ∧ szI t ≤ 1099511627776 ∧ szI z ≤ 1099511627776 ∧ (szI z : Int) ≤ (szI t : Int) ∧ OmC t z ∧ OmC z z := by
  obtain ⟨t, htw, hft⟩ := hfy.twin
  have ht5 : t.f0 = 5 := htw.kind.symm.trans h5
  have hwt := htw.wt
  obtain ⟨z, hz⟩ : ∃ z, z = omT t := ⟨_, rfl⟩
  have hfz : Fine z := by rw [hz]; exact Fine.omN _ _ _ hft
  have hz5 : z.f0 = 5 := by rw [hz]; exact (omN_kind _ _ _).1.trans ht5
  have hwz : wtI z ≤ wtI t := by rw [hz]; exact wtI_omN _ _ _ hft
  have hsz : szI z ≤ szI t := by rw [hz]; exact szI_omN _ _ _ hft
  have hzz : omT z = z := by rw [hz]; exact omT_twice t
  have hst := szI_wt _ t (Nat.le_refl _)
  obtain ⟨s, hsw⟩ := hfz.twinS
  have h1 : OmC t z := by
    have := omC1 hft ht5 (by rw [← hz]; exact hfz) (by omega)
    rw [← hz] at this
    exact this
  exact ⟨t, z, s, htw, hsw, hsw.kind.trans hz5, by omega, by omega, by omega, h1, omC2 hzz hfz hz5 (by omega)⟩
set_option maxHeartbeats 1000000 in
set_option maxRecDepth 100000 in
theorem law_OmitTwice {x : SV} (hx : Bnd x) (hw : wt x ≤ 1048576) {v : Value} {w : World} (hv : MadeS x w v) :
    Calls Tryd.prog 3 #[v] w fun e w' => e = .returned (.bool true) ∧ Below w.heap.size w w' := by
  obtain ⟨A3, c3, A4, c4, rfl, p3, g3, p4, g4⟩ := hv
  obtain ⟨W0, hW0⟩ : ∃ W0 : World, W0 = w.alloc (Obj.cells #[.int .i64 x.f0, .int .i64 x.f1, .string x.f2, .slice A3 x.f3.length c3, .slice A4 x.f4.length c4] 25) := ⟨_, rfl⟩
  have hb0 : Below w.heap.size w W0 := by rw [hW0]; exact (Below.refl _ _).alloc (Nat.le_refl _) _
  have hbx : W0.heap[w.heap.size]? = some (.cells #[.int .i64 x.f0, .int .i64 x.f1, .string x.f2, .slice A3 x.f3.length c3, .slice A4 x.f4.length c4] 25 (0, 0)) := by rw [hW0]; exact new_atI rfl
  have HX : Aside0 (MadeS x W0 (cellsS x A3 c3 A4 c4)) := ⟨A3, c3, A4, c4, rfl, p3, Kd.C_below g3 hb0, p4, Kd.C_below g4 hb0⟩
  have HB0 := Aside0.mk hb0
  have HBX := Aside0.mk hbx
  have HW0 := Lib.hid hW0
  have HS0 : Hid (w.heap.size < W0.heap.size) := Lib.hid (by rw [hW0]; simp)
  have HBN := Lib.hid hx
  have HWT := Lib.hid hw
  have m0 : W0.cell? ⟨w.heap.size, 0, none⟩ = some (.int .i64 x.f0) := (blk_cell hbx 0).trans rfl
  have m1 : W0.cell? ⟨w.heap.size, 1, none⟩ = some (.int .i64 x.f1) := (blk_cell hbx 1).trans rfl
  have m2 : W0.cell? ⟨w.heap.size, 2, none⟩ = some (.string x.f2) := (blk_cell hbx 2).trans rfl
  have m3 : W0.cell? ⟨w.heap.size, 3, none⟩ = some (.slice A3 x.f3.length c3) := (blk_cell hbx 3).trans rfl
  have m4 : W0.cell? ⟨w.heap.size, 4, none⟩ = some (.slice A4 x.f4.length c4) := (blk_cell hbx 4).trans rfl
  clear hb0 hW0 hbx p3 g3 p4 g4 hx hw
  go_enter Tryd.func3, Tryd.ntmps3
  go_upto_region 1 with fail
  rw [← HW0.out]
  go_wp2_with fail
  refine (law_fits1 (v := cellsS x A3 c3 A4 c4) HX.out).mono ?_
  clear m0 m1 m2 m3 m4
  rintro e w1 ⟨⟨r, rfl⟩, hb1⟩
  have hbx1 := blk_below HBX.out hb1
  have HX1 := Aside0.mk (HX.out.below_ hb1)
  have HB1 := Aside0.mk (HB0.out.trans (hb1.mono HB0.out.size))
  have HBX1 := Aside0.mk hbx1
  have HS1 : Hid (w.heap.size < w1.heap.size) := Lib.hid (Nat.lt_of_lt_of_le HS0.out hb1.size)
  have m0 : w1.cell? ⟨w.heap.size, 0, none⟩ = some (.int .i64 x.f0) := (blk_cell hbx1 0).trans rfl
  have m1 : w1.cell? ⟨w.heap.size, 1, none⟩ = some (.int .i64 x.f1) := (blk_cell hbx1 1).trans rfl
  have m2 : w1.cell? ⟨w.heap.size, 2, none⟩ = some (.string x.f2) := (blk_cell hbx1 2).trans rfl
  have m3 : w1.cell? ⟨w.heap.size, 3, none⟩ = some (.slice A3 x.f3.length c3) := (blk_cell hbx1 3).trans rfl
  have m4 : w1.cell? ⟨w.heap.size, 4, none⟩ = some (.slice A4 x.f4.length c4) := (blk_cell hbx1 4).trans rfl
  clear hb1 hbx1
  cases r with
  | false =>
    go_wp2
    go_ret
    exact ⟨rfl, HB1.out⟩
  | true =>
    go_wp2_with fail
    refine (law_fit HBN.out (v := cellsS x A3 c3 A4 c4) HX1.out).mono ?_
    clear m0 m1 m2 m3 m4
    rintro e w2 ⟨y, u, rfl, hfy, hwy, hmy, hky, hb2⟩
    obtain ⟨B3, d3, B4, d4, rfl, _, _, _, _⟩ := hmy
    have hbx2 := blk_below HBX1.out hb2
    have HB2 := Aside0.mk (below_then HB1.out HB1.out.size hb2)
    obtain ⟨W3, hW3⟩ : ∃ W3 : World, W3 = (((((w2.setCell ⟨w.heap.size, 0, none⟩ (.int .i64 y.f0)).setCell ⟨w.heap.size, 1, none⟩ (.int .i64 y.f1)).setCell ⟨w.heap.size, 2, none⟩ (.string y.f2)).setCell ⟨w.heap.size, 3, none⟩ (.slice B3 y.f3.length d3)).setCell ⟨w.heap.size, 4, none⟩ (.slice B4 y.f4.length d4)) := ⟨_, rfl⟩
    have hbx3 : W3.heap[w.heap.size]? = some (.cells #[.int .i64 y.f0, .int .i64 y.f1, .string y.f2, .slice B3 y.f3.length d3, .slice B4 y.f4.length d4] 25 (0, 0)) := by rw [hW3]; exact box5 hbx2 _ _ _ _ _
    have HY3 : Aside0 (MadeS y W3 (cellsS y B3 d3 B4 d4)) := ⟨by rw [hW3]; exact hky _ (fun k hk _ => far5 (by have := HS1.out; omega) _ _ _ _ _)⟩
    have HB3 : Aside0 (Below w.heap.size w W3) := ⟨by rw [hW3]; exact below5 HB2.out _ (Nat.le_refl _) _ _ _ _ _⟩
    have HBX3 := Aside0.mk hbx3
    have HW3 := Lib.hid hW3
    have HFY := Lib.hid hfy
    have HWY : Hid (wt y ≤ 1048576) := Lib.hid (Nat.le_trans hwy HWT.out)
    have n0 : w2.cell? ⟨w.heap.size, 0, none⟩ = some (.int .i64 x.f0) := (blk_cell hbx2 0).trans rfl
    have n1 : w2.cell? ⟨w.heap.size, 1, none⟩ = some (.int .i64 x.f1) := (blk_cell hbx2 1).trans rfl
    have n2 : w2.cell? ⟨w.heap.size, 2, none⟩ = some (.string x.f2) := (blk_cell hbx2 2).trans rfl
    have n3 : w2.cell? ⟨w.heap.size, 3, none⟩ = some (.slice A3 x.f3.length c3) := (blk_cell hbx2 3).trans rfl
    have n4 : w2.cell? ⟨w.heap.size, 4, none⟩ = some (.slice A4 x.f4.length c4) := (blk_cell hbx2 4).trans rfl
    have f0 := blk_frozen hbx2 0
    have f1 := blk_frozen hbx2 1
    have f2 := blk_frozen hbx2 2
    have f3 := blk_frozen hbx2 3
    have f4 := blk_frozen hbx2 4
    clear hfy hwy hky hb2 hbx2 hW3 hbx3
    unfold cellsS
    go_upto_region 4 with fail
    rw [← HW3.out]
    clear n0 n1 n2 n3 n4 f0 f1 f2 f3 f4
    have q0 : W3.cell? ⟨w.heap.size, 0, none⟩ = some (.int .i64 y.f0) := (blk_cell HBX3.out 0).trans rfl
    have q1 : W3.cell? ⟨w.heap.size, 1, none⟩ = some (.int .i64 y.f1) := (blk_cell HBX3.out 1).trans rfl
    have q2 : W3.cell? ⟨w.heap.size, 2, none⟩ = some (.string y.f2) := (blk_cell HBX3.out 2).trans rfl
    have q3 : W3.cell? ⟨w.heap.size, 3, none⟩ = some (.slice B3 y.f3.length d3) := (blk_cell HBX3.out 3).trans rfl
    have q4 : W3.cell? ⟨w.heap.size, 4, none⟩ = some (.slice B4 y.f4.length d4) := (blk_cell HBX3.out 4).trans rfl
    by_cases h5 : y.f0 = 5
    · obtain ⟨t, z, s, htw, hsw, hs5, hsb, hsc, hsi, h1, h2⟩ := omit_facts HFY.out h5 HWY.out
      have H1 := Lib.hid h1
      have H2 := Lib.hid h2
      have HT := Lib.hid htw
      have HSW := Lib.hid hsw
      have HSB := Lib.hid hsb
      have HSC := Lib.hid hsc
      have HSI := Lib.hid hsi
      have HS5 := Lib.hid hs5
      rw [h5] at q0
      have hy3 := HY3.out
      unfold cellsS at hy3
      rw [h5] at hy3
      have HY := Aside0.mk hy3
      clear htw hsw hsb hsc hsi h1 h2 hs5
      clear hy3
      go_wp2_with fail
      refine (law_to HT.out HY.out).mono ?_
      clear q0 q1 q2 q3 q4
      rintro e w4 ⟨⟨u4, rfl, hu4⟩, hb4⟩
      have HU4 := Aside0.mk hu4
      have HB4 := Aside0.mk hb4
      clear hu4 hb4
      go_wp2_with fail
      refine (H1.out.use HU4.out).mono ?_
      rintro e w5 ⟨⟨u5, rfl, hu5⟩, hb5⟩
      have HU5 := Aside0.mk hu5
      have HB5 := Aside0.mk (below_then HB4.out HB4.out.size hb5)
      clear hu5 hb5
      go_wp2_with fail
      refine (law_from HSW.out HU5.out).mono ?_
      rintro e w6 ⟨⟨u6, rfl, hu6⟩, hb6⟩
      obtain ⟨E3, a3, E4, a4, rfl, i3, j3, i4, j4⟩ := hu6
      obtain ⟨W7, hW7⟩ : ∃ W7 : World, W7 = w6.alloc (Obj.cells #[.int .i64 s.f0, .int .i64 s.f1, .string s.f2, .slice E3 s.f3.length a3, .slice E4 s.f4.length a4] 25) := ⟨_, rfl⟩
      have hb7 : Below W3.heap.size W3 W7 := by rw [hW7]; exact (below_then HB5.out HB5.out.size hb6).alloc (Nat.le_trans HB5.out.size hb6.size) _
      have hz7 : W7.heap[w6.heap.size]? = some (.cells #[.int .i64 s.f0, .int .i64 s.f1, .string s.f2, .slice E3 s.f3.length a3, .slice E4 s.f4.length a4] 25 (0, 0)) := by rw [hW7]; exact new_atI rfl
      have hs7 : MadeS s W7 (cellsS s E3 a3 E4 a4) := MadeS.below_ ⟨E3, a3, E4, a4, rfl, i3, j3, i4, j4⟩ (by rw [hW7]; exact (Below.refl _ _).alloc (Nat.le_refl _) _)
      unfold cellsS at hs7
      rw [HS5.out] at hs7 hz7
      obtain ⟨b9, hb9⟩ : ∃ b9, b9 = w6.heap.size := ⟨_, rfl⟩
      rw [← hb9] at hz7
      have HB9 := Lib.hid hb9
      have HW7 := Lib.hid hW7
      have HB7 := Aside0.mk hb7
      have HG7 := Aside0.mk hs7
      have HY7 := Aside0.mk (HY.out.below_ hb7)
      have hy7 := blk_below HBX3.out hb7
      rw [h5] at hy7
      have HBB7 := Aside0.mk (below_then HB3.out HB3.out.size hb7)
      have q0 : W7.cell? ⟨w.heap.size, 0, none⟩ = some (.int .i64 5) := (blk_cell hy7 0).trans rfl
      have q1 : W7.cell? ⟨w.heap.size, 1, none⟩ = some (.int .i64 y.f1) := (blk_cell hy7 1).trans rfl
      have q2 : W7.cell? ⟨w.heap.size, 2, none⟩ = some (.string y.f2) := (blk_cell hy7 2).trans rfl
      have q3 : W7.cell? ⟨w.heap.size, 3, none⟩ = some (.slice B3 y.f3.length d3) := (blk_cell hy7 3).trans rfl
      have q4 : W7.cell? ⟨w.heap.size, 4, none⟩ = some (.slice B4 y.f4.length d4) := (blk_cell hy7 4).trans rfl
      have o0 : W7.cell? ⟨b9, 0, none⟩ = some (.int .i64 5) := (blk_cell hz7 0).trans rfl
      have o1 : W7.cell? ⟨b9, 1, none⟩ = some (.int .i64 s.f1) := (blk_cell hz7 1).trans rfl
      have o2 : W7.cell? ⟨b9, 2, none⟩ = some (.string s.f2) := (blk_cell hz7 2).trans rfl
      have o3 : W7.cell? ⟨b9, 3, none⟩ = some (.slice E3 s.f3.length a3) := (blk_cell hz7 3).trans rfl
      have o4 : W7.cell? ⟨b9, 4, none⟩ = some (.slice E4 s.f4.length a4) := (blk_cell hz7 4).trans rfl
      clear hb6 i3 j3 i4 j4 hW7 hb7 hz7 hs7 hb9 hy7
      unfold cellsS
      go_upto_region 7 with fail
      rw [← HW7.out, ← HB9.out, HS5.out]
      have hle := HSI.out
      refine start_ (n := 22) (S := fun w' => w'.cell? ⟨b9, 0, none⟩ = some (.int .i64 5) ∧ w'.cell? ⟨b9, 1, none⟩ = some (.int .i64 s.f1) ∧ w'.cell? ⟨b9, 2, none⟩ = some (.string s.f2) ∧ w'.cell? ⟨b9, 3, none⟩ = some (.slice E3 s.f3.length a3) ∧ w'.cell? ⟨b9, 4, none⟩ = some (.slice E4 s.f4.length a4) ∧ w'.cell? ⟨w.heap.size, 0, none⟩ = some (.int .i64 5) ∧ w'.cell? ⟨w.heap.size, 1, none⟩ = some (.int .i64 y.f1) ∧ w'.cell? ⟨w.heap.size, 2, none⟩ = some (.string y.f2) ∧ w'.cell? ⟨w.heap.size, 3, none⟩ = some (.slice B3 y.f3.length d3) ∧ w'.cell? ⟨w.heap.size, 4, none⟩ = some (.slice B4 y.f4.length d4)) (ds := []) #[false, false, false, false, false, false, false, false, false, false, false, false, false, false, false, false, false, false, false, false, false, false] (by kernel_rfl) rfl rfl ⟨o0, o1, o2, o3, o4, q0, q1, q2, q3, q4⟩ (fun hHeld => ?_)
      refine pure_ (i := 0) (N := some 17) (v := ?_) (a' := ?_) #[true, false, false, false, false, false, false, false, false, false, false, false, false, false, false, false, false, false, false, false, false, false] rfl rfl (by kernel_rfl) (fun _ _ _ h => h) (Or.inl ⟨by rfl, ?_⟩) ?_ ?_
      rotate_left
      · intro w'
        go_simp
        with_reducible rfl
      rotate_left
      · simp only [Act.put, List.setIfInBounds_toArray, List.set_cons_zero, List.set_cons_succ, i64_w, i32_w]
        rfl
      refine take_ (i := 1) (N := some 18) (v := ?_) (a' := ?_) #[true, true, false, false, false, false, false, false, false, false, false, false, false, false, false, false, false, false, false, false, false, false] rfl rfl (by kernel_rfl) (fun _ _ _ h => h) (Or.inl ⟨by rfl, ?_⟩) hHeld ?_ ?_
      rotate_left
      · rintro w' ⟨s0, s1, s2, s3, s4, s5, s6, s7, s8, s9⟩
        go_simp
        with_reducible rfl
      rotate_left
      · simp only [Act.put, List.setIfInBounds_toArray, List.set_cons_zero, List.set_cons_succ, i64_w, i32_w]
        rfl
      refine pure_ (i := 2) (N := some 19) (v := ?_) (a' := ?_) #[true, true, true, false, false, false, false, false, false, false, false, false, false, false, false, false, false, false, false, false, false, false] rfl rfl (by kernel_rfl) (fun _ _ _ h => h) (Or.inl ⟨by rfl, ?_⟩) ?_ ?_
      rotate_left
      · intro w'
        go_simp
        with_reducible rfl
      rotate_left
      · simp only [Act.put, List.setIfInBounds_toArray, List.set_cons_zero, List.set_cons_succ, i64_w, i32_w]
        rfl
      refine pure_ (i := 3) (N := some 20) (v := ?_) (a' := ?_) #[true, true, true, true, false, false, false, false, false, false, false, false, false, false, false, false, false, false, false, false, false, false] rfl rfl (by kernel_rfl) (fun _ _ _ h => h) (Or.inl ⟨by rfl, ?_⟩) ?_ ?_
      rotate_left
      · intro w'
        go_simp
        with_reducible rfl
      rotate_left
      · simp only [Act.put, List.setIfInBounds_toArray, List.set_cons_zero, List.set_cons_succ, i64_w, i32_w]
        rfl
      refine take_ (i := 4) (N := some 21) (v := ?_) (a' := ?_) #[true, true, true, true, true, false, false, false, false, false, false, false, false, false, false, false, false, false, false, false, false, false] rfl rfl (by kernel_rfl) (fun _ _ _ h => h) (Or.inl ⟨by rfl, ?_⟩) hHeld ?_ ?_
      rotate_left
      · rintro w' ⟨s0, s1, s2, s3, s4, s5, s6, s7, s8, s9⟩
        go_simp
        with_reducible rfl
      rotate_left
      · simp only [Act.put, List.setIfInBounds_toArray, List.set_cons_zero, List.set_cons_succ, i64_w, i32_w]
        rfl
      refine take_ (i := 6) (N := some 23) (v := ?_) (a' := ?_) #[true, true, true, true, true, false, true, false, false, false, false, false, false, false, false, false, false, false, false, false, false, false] rfl rfl (by kernel_rfl) (fun _ _ _ h => h) (Or.inl ⟨by rfl, ?_⟩) hHeld ?_ ?_
      rotate_left
      · rintro w' ⟨s0, s1, s2, s3, s4, s5, s6, s7, s8, s9⟩
        go_simp
        with_reducible rfl
      rotate_left
      · simp only [Act.put, List.setIfInBounds_toArray, List.set_cons_zero, List.set_cons_succ, i64_w, i32_w]
        rfl
      refine one_ (i := 5) (N := some 22) #[true, true, true, true, true, true, true, false, false, false, false, false, false, false, false, false, false, false, false, false, false, false] rfl rfl (by kernel_rfl) (by decide) (fun K hK => ?_)
      refine goes_ Tryd.func12 (by kernel_rfl) rfl #[.agg #[.int .i64 5, .int .i64 s.f1, .string s.f2, .slice E3 s.f3.length a3, .slice E4 s.f4.length a4]] (by rfl) rfl rfl (by simp only [List.map_toArray, List.map_cons, List.map_nil]; rfl) ?_
      with_reducible refine (law_size HSW.out HSC.out (w := W7.drew) (HG7.out.below_ (below_drew1 (Below.refl _ _)))).mono ?_
      rintro e w8 ⟨rfl, hb8⟩
      refine ⟨_, rfl, ?_⟩
      have hc8 : Below W7.heap.size W7 w8 := below_un hb8
      have HC8 := Aside0.mk hc8
      clear hb8 hc8
      refine hK.out _ _ ⟨(HC8.out.cell (World.block_lt_of_cell? W7 _ o0)).trans o0, (HC8.out.cell (World.block_lt_of_cell? W7 _ o1)).trans o1, (HC8.out.cell (World.block_lt_of_cell? W7 _ o2)).trans o2, (HC8.out.cell (World.block_lt_of_cell? W7 _ o3)).trans o3, (HC8.out.cell (World.block_lt_of_cell? W7 _ o4)).trans o4, (HC8.out.cell (World.block_lt_of_cell? W7 _ q0)).trans q0, (HC8.out.cell (World.block_lt_of_cell? W7 _ q1)).trans q1, (HC8.out.cell (World.block_lt_of_cell? W7 _ q2)).trans q2, (HC8.out.cell (World.block_lt_of_cell? W7 _ q3)).trans q3, (HC8.out.cell (World.block_lt_of_cell? W7 _ q4)).trans q4⟩ (fun hHeld => ?_)
      clear hK K
      refine norm_ (a' := ?_) ?_ ?_
      rotate_left
      · show Act.put _ (some 22) _ = _
        simp only [Act.put, List.setIfInBounds_toArray, List.set_cons_zero, List.set_cons_succ, i64_w, i32_w]
        rfl
      refine one_ (i := 7) (N := some 24) #[true, true, true, true, true, true, true, true, false, false, false, false, false, false, false, false, false, false, false, false, false, false] rfl rfl (by kernel_rfl) (by decide) (fun K hK => ?_)
      refine goes_ Tryd.func12 (by kernel_rfl) rfl #[.agg #[.int .i64 5, .int .i64 y.f1, .string y.f2, .slice B3 y.f3.length d3, .slice B4 y.f4.length d4]] (by rfl) rfl rfl (by simp only [List.map_toArray, List.map_cons, List.map_nil]; rfl) ?_
      with_reducible refine (law_size HT.out HSB.out (w := w8) (HY7.out.below_ HC8.out)).mono ?_
      rintro e w9 ⟨rfl, hb9⟩
      refine ⟨_, rfl, ?_⟩
      have HC9 := Aside0.mk (below_then HC8.out HC8.out.size hb9)
      clear hb9
      refine hK.out _ _ ⟨(HC9.out.cell (World.block_lt_of_cell? W7 _ o0)).trans o0, (HC9.out.cell (World.block_lt_of_cell? W7 _ o1)).trans o1, (HC9.out.cell (World.block_lt_of_cell? W7 _ o2)).trans o2, (HC9.out.cell (World.block_lt_of_cell? W7 _ o3)).trans o3, (HC9.out.cell (World.block_lt_of_cell? W7 _ o4)).trans o4, (HC9.out.cell (World.block_lt_of_cell? W7 _ q0)).trans q0, (HC9.out.cell (World.block_lt_of_cell? W7 _ q1)).trans q1, (HC9.out.cell (World.block_lt_of_cell? W7 _ q2)).trans q2, (HC9.out.cell (World.block_lt_of_cell? W7 _ q3)).trans q3, (HC9.out.cell (World.block_lt_of_cell? W7 _ q4)).trans q4⟩ (fun hHeld => ?_)
      clear hK K
      refine norm_ (a' := ?_) ?_ ?_
      rotate_left
      · show Act.put _ (some 24) _ = _
        simp only [Act.put, List.setIfInBounds_toArray, List.set_cons_zero, List.set_cons_succ, i64_w, i32_w]
        rfl
      refine pure_ (i := 8) (N := some 25) (v := ?_) (a' := ?_) #[true, true, true, true, true, true, true, true, true, false, false, false, false, false, false, false, false, false, false, false, false, false] rfl rfl (by kernel_rfl) (fun _ _ _ h => h) (Or.inl ⟨by rfl, ?_⟩) ?_ ?_
      rotate_left
      · intro w'
        go_simp
        with_reducible rfl
      rotate_left
      · simp only [Act.put, List.setIfInBounds_toArray, List.set_cons_zero, List.set_cons_succ, i64_w, i32_w]
        rfl
      refine pure_ (i := 9) (N := some 26) (v := ?_) (a' := ?_) #[true, true, true, true, true, true, true, true, true, true, false, false, false, false, false, false, false, false, false, false, false, false] rfl rfl (by kernel_rfl) (fun _ _ _ h => h) (Or.inl ⟨by rfl, ?_⟩) ?_ ?_
      rotate_left
      · intro w'
        go_simp
        with_reducible rfl
      rotate_left
      · simp only [Act.put, List.setIfInBounds_toArray, List.set_cons_zero, List.set_cons_succ, i64_w, i32_w]
        rfl
      refine pure_ (i := 10) (N := some 27) (v := ?_) (a' := ?_) #[true, true, true, true, true, true, true, true, true, true, true, false, false, false, false, false, false, false, false, false, false, false] rfl rfl (by kernel_rfl) (fun _ _ _ h => h) (Or.inl ⟨by rfl, ?_⟩) ?_ ?_
      rotate_left
      · intro w'
        go_simp
        with_reducible rfl
      rotate_left
      · simp only [Act.put, List.setIfInBounds_toArray, List.set_cons_zero, List.set_cons_succ, i64_w, i32_w]
        rfl
      refine take_ (i := 11) (N := some 28) (v := ?_) (a' := ?_) #[true, true, true, true, true, true, true, true, true, true, true, true, false, false, false, false, false, false, false, false, false, false] rfl rfl (by kernel_rfl) (fun _ _ _ h => h) (Or.inl ⟨by rfl, ?_⟩) hHeld ?_ ?_
      rotate_left
      · rintro w' ⟨s0, s1, s2, s3, s4, s5, s6, s7, s8, s9⟩
        go_simp
        with_reducible rfl
      rotate_left
      · simp only [Act.put, List.setIfInBounds_toArray, List.set_cons_zero, List.set_cons_succ, i64_w, i32_w]
        rfl
      refine take_ (i := 15) (N := some 32) (v := ?_) (a' := ?_) #[true, true, true, true, true, true, true, true, true, true, true, true, false, false, false, true, false, false, false, false, false, false] rfl rfl (by kernel_rfl) (fun _ _ _ h => h) (Or.inl ⟨by rfl, ?_⟩) hHeld ?_ ?_
      rotate_left
      · rintro w' ⟨s0, s1, s2, s3, s4, s5, s6, s7, s8, s9⟩
        go_simp
        with_reducible rfl
      rotate_left
      · simp only [Act.put, List.setIfInBounds_toArray, List.set_cons_zero, List.set_cons_succ, i64_w, i32_w]
        rfl
      refine one_ (i := 12) (N := some 29) #[true, true, true, true, true, true, true, true, true, true, true, true, true, false, false, true, false, false, false, false, false, false] rfl rfl (by kernel_rfl) (by decide) (fun K hK => ?_)
      refine goes_ Tryd.func11 (by kernel_rfl) rfl #[.agg #[.int .i64 5, .int .i64 s.f1, .string s.f2, .slice E3 s.f3.length a3, .slice E4 s.f4.length a4]] (by rfl) rfl rfl (by simp only [List.map_toArray, List.map_cons, List.map_nil]; rfl) ?_
      with_reducible refine (law_to HSW.out (w := w9) (HG7.out.below_ HC9.out)).mono ?_
      rintro e w10 ⟨⟨u10, rfl, hu10⟩, hb10⟩
      refine ⟨_, rfl, ?_⟩
      have HU10 := Aside0.mk hu10
      have HC10 := Aside0.mk (below_then HC9.out HC9.out.size hb10)
      clear hu10 hb10
      refine hK.out _ _ ⟨(HC10.out.cell (World.block_lt_of_cell? W7 _ o0)).trans o0, (HC10.out.cell (World.block_lt_of_cell? W7 _ o1)).trans o1, (HC10.out.cell (World.block_lt_of_cell? W7 _ o2)).trans o2, (HC10.out.cell (World.block_lt_of_cell? W7 _ o3)).trans o3, (HC10.out.cell (World.block_lt_of_cell? W7 _ o4)).trans o4, (HC10.out.cell (World.block_lt_of_cell? W7 _ q0)).trans q0, (HC10.out.cell (World.block_lt_of_cell? W7 _ q1)).trans q1, (HC10.out.cell (World.block_lt_of_cell? W7 _ q2)).trans q2, (HC10.out.cell (World.block_lt_of_cell? W7 _ q3)).trans q3, (HC10.out.cell (World.block_lt_of_cell? W7 _ q4)).trans q4⟩ (fun hHeld => ?_)
      clear hK K
      refine norm_ (a' := ?_) ?_ ?_
      rotate_left
      · show Act.put _ (some 29) _ = _
        simp only [Act.put, List.setIfInBounds_toArray, List.set_cons_zero, List.set_cons_succ, i64_w, i32_w]
        rfl
      refine one_ (i := 13) (N := some 30) #[true, true, true, true, true, true, true, true, true, true, true, true, true, true, false, true, false, false, false, false, false, false] rfl rfl (by kernel_rfl) (by decide) (fun K hK => ?_)
      refine goes_ Tryd.func10 (by kernel_rfl) rfl #[u10] (by rfl) rfl rfl (by simp only [List.map_toArray, List.map_cons, List.map_nil]; rfl) ?_
      with_reducible refine (OmC.use H2.out HU10.out).mono ?_
      rintro e w11 ⟨⟨u11, rfl, hu11⟩, hb11⟩
      refine ⟨_, rfl, ?_⟩
      have HU11 := Aside0.mk hu11
      have HC11 := Aside0.mk (below_then HC10.out HC10.out.size hb11)
      clear hu11 hb11
      refine hK.out _ _ ⟨(HC11.out.cell (World.block_lt_of_cell? W7 _ o0)).trans o0, (HC11.out.cell (World.block_lt_of_cell? W7 _ o1)).trans o1, (HC11.out.cell (World.block_lt_of_cell? W7 _ o2)).trans o2, (HC11.out.cell (World.block_lt_of_cell? W7 _ o3)).trans o3, (HC11.out.cell (World.block_lt_of_cell? W7 _ o4)).trans o4, (HC11.out.cell (World.block_lt_of_cell? W7 _ q0)).trans q0, (HC11.out.cell (World.block_lt_of_cell? W7 _ q1)).trans q1, (HC11.out.cell (World.block_lt_of_cell? W7 _ q2)).trans q2, (HC11.out.cell (World.block_lt_of_cell? W7 _ q3)).trans q3, (HC11.out.cell (World.block_lt_of_cell? W7 _ q4)).trans q4⟩ (fun hHeld => ?_)
      clear hK K
      refine norm_ (a' := ?_) ?_ ?_
      rotate_left
      · show Act.put _ (some 30) _ = _
        simp only [Act.put, List.setIfInBounds_toArray, List.set_cons_zero, List.set_cons_succ, i64_w, i32_w]
        rfl
      refine one_ (i := 14) (N := some 31) #[true, true, true, true, true, true, true, true, true, true, true, true, true, true, true, true, false, false, false, false, false, false] rfl rfl (by kernel_rfl) (by decide) (fun K hK => ?_)
      refine goes_ Tryd.func9 (by kernel_rfl) rfl #[u11] (by rfl) rfl rfl (by simp only [List.map_toArray, List.map_cons, List.map_nil]; rfl) ?_
      with_reducible refine (law_from HSW.out HU11.out).mono ?_
      rintro e w12 ⟨⟨u12, rfl, hu12⟩, hb12⟩
      refine ⟨_, rfl, ?_⟩
      have HU12 := Aside0.mk hu12
      have HC12 := Aside0.mk (below_then HC11.out HC11.out.size hb12)
      clear hu12 hb12
      refine hK.out _ _ ⟨(HC12.out.cell (World.block_lt_of_cell? W7 _ o0)).trans o0, (HC12.out.cell (World.block_lt_of_cell? W7 _ o1)).trans o1, (HC12.out.cell (World.block_lt_of_cell? W7 _ o2)).trans o2, (HC12.out.cell (World.block_lt_of_cell? W7 _ o3)).trans o3, (HC12.out.cell (World.block_lt_of_cell? W7 _ o4)).trans o4, (HC12.out.cell (World.block_lt_of_cell? W7 _ q0)).trans q0, (HC12.out.cell (World.block_lt_of_cell? W7 _ q1)).trans q1, (HC12.out.cell (World.block_lt_of_cell? W7 _ q2)).trans q2, (HC12.out.cell (World.block_lt_of_cell? W7 _ q3)).trans q3, (HC12.out.cell (World.block_lt_of_cell? W7 _ q4)).trans q4⟩ (fun hHeld => ?_)
      clear hK K
      refine norm_ (a' := ?_) ?_ ?_
      rotate_left
      · show Act.put _ (some 31) _ = _
        simp only [Act.put, List.setIfInBounds_toArray, List.set_cons_zero, List.set_cons_succ, i64_w, i32_w]
        rfl
      refine one_ (i := 16) (N := some 33) #[true, true, true, true, true, true, true, true, true, true, true, true, true, true, true, true, true, false, false, false, false, false] rfl rfl (by kernel_rfl) (by decide) (fun K hK => ?_)
      refine goes_ Tryd.func13 (by kernel_rfl) rfl #[u12, .agg #[.int .i64 5, .int .i64 s.f1, .string s.f2, .slice E3 s.f3.length a3, .slice E4 s.f4.length a4]] (by rfl) rfl rfl (by simp only [List.map_toArray, List.map_cons, List.map_nil]; rfl) ?_
      with_reducible refine (law_same HSW.out.bnd HU12.out (HG7.out.below_ HC12.out)).mono ?_
      rintro e w13 ⟨rfl, hb13⟩
      refine ⟨_, rfl, ?_⟩
      have HC13 := Aside0.mk (below_then HC12.out HC12.out.size hb13)
      clear hb13
      refine hK.out _ _ ⟨(HC13.out.cell (World.block_lt_of_cell? W7 _ o0)).trans o0, (HC13.out.cell (World.block_lt_of_cell? W7 _ o1)).trans o1, (HC13.out.cell (World.block_lt_of_cell? W7 _ o2)).trans o2, (HC13.out.cell (World.block_lt_of_cell? W7 _ o3)).trans o3, (HC13.out.cell (World.block_lt_of_cell? W7 _ o4)).trans o4, (HC13.out.cell (World.block_lt_of_cell? W7 _ q0)).trans q0, (HC13.out.cell (World.block_lt_of_cell? W7 _ q1)).trans q1, (HC13.out.cell (World.block_lt_of_cell? W7 _ q2)).trans q2, (HC13.out.cell (World.block_lt_of_cell? W7 _ q3)).trans q3, (HC13.out.cell (World.block_lt_of_cell? W7 _ q4)).trans q4⟩ (fun hHeld => ?_)
      clear hK K
      refine norm_ (a' := ?_) ?_ ?_
      rotate_left
      · show Act.put _ (some 33) _ = _
        simp only [Act.put, List.setIfInBounds_toArray, List.set_cons_zero, List.set_cons_succ, i64_w, i32_w]
        rfl
      refine pure_ (i := 17) (N := some 34) (v := ?_) (a' := ?_) #[true, true, true, true, true, true, true, true, true, true, true, true, true, true, true, true, true, true, false, false, false, false] rfl rfl (by kernel_rfl) (fun _ _ _ h => h) (Or.inl ⟨by rfl, ?_⟩) ?_ ?_
      rotate_left
      · intro w'
        go_simp
        with_reducible rfl
      rotate_left
      · simp only [Act.put, List.setIfInBounds_toArray, List.set_cons_zero, List.set_cons_succ, i64_w, i32_w]
        rfl
      refine pure_ (i := 18) (N := some 35) (v := ?_) (a' := ?_) #[true, true, true, true, true, true, true, true, true, true, true, true, true, true, true, true, true, true, true, false, false, false] rfl rfl (by kernel_rfl) (fun _ _ _ h => h) (Or.inl ⟨by rfl, ?_⟩) ?_ ?_
      rotate_left
      · intro w'
        go_simp
        with_reducible rfl
      rotate_left
      · simp only [Act.put, List.setIfInBounds_toArray, List.set_cons_zero, List.set_cons_succ, i64_w, i32_w]
        rfl
      refine one_ (i := 19) (N := some 36) #[true, true, true, true, true, true, true, true, true, true, true, true, true, true, true, true, true, true, true, true, false, false] rfl rfl (by kernel_rfl) (by decide) (fun K hK => ?_)
      refine goes_ Tryd.func8 (by kernel_rfl) rfl #[] (by rfl) rfl rfl (by simp only [List.map_toArray, List.map_cons, List.map_nil]) ?_
      with_reducible refine (normAwake w13).mono ?_
      rintro e w14 ⟨rfl, hb14⟩
      refine ⟨_, rfl, ?_⟩
      have HC14 := Aside0.mk (below_then HC13.out HC13.out.size hb14)
      clear hb14
      refine hK.out _ _ ⟨(HC14.out.cell (World.block_lt_of_cell? W7 _ o0)).trans o0, (HC14.out.cell (World.block_lt_of_cell? W7 _ o1)).trans o1, (HC14.out.cell (World.block_lt_of_cell? W7 _ o2)).trans o2, (HC14.out.cell (World.block_lt_of_cell? W7 _ o3)).trans o3, (HC14.out.cell (World.block_lt_of_cell? W7 _ o4)).trans o4, (HC14.out.cell (World.block_lt_of_cell? W7 _ q0)).trans q0, (HC14.out.cell (World.block_lt_of_cell? W7 _ q1)).trans q1, (HC14.out.cell (World.block_lt_of_cell? W7 _ q2)).trans q2, (HC14.out.cell (World.block_lt_of_cell? W7 _ q3)).trans q3, (HC14.out.cell (World.block_lt_of_cell? W7 _ q4)).trans q4⟩ (fun hHeld => ?_)
      clear hK K
      refine norm_ (a' := ?_) ?_ ?_
      rotate_left
      · show Act.put _ (some 36) _ = _
        simp only [Act.put, List.setIfInBounds_toArray, List.set_cons_zero, List.set_cons_succ, i64_w, i32_w]
        rfl
      refine pure_ (i := 20) (N := some 37) (v := ?_) (a' := ?_) #[true, true, true, true, true, true, true, true, true, true, true, true, true, true, true, true, true, true, true, true, true, false] rfl rfl (by kernel_rfl) (fun _ _ _ h => h) (Or.inl ⟨by rfl, ?_⟩) ?_ ?_
      rotate_left
      · intro w'
        go_simp
        with_reducible rfl
      rotate_left
      · simp only [Act.put, List.setIfInBounds_toArray, List.set_cons_zero, List.set_cons_succ, i64_w, i32_w]
        rfl
      refine pure_ (i := 21) (N := some 2) (v := ?_) (a' := ?_) #[true, true, true, true, true, true, true, true, true, true, true, true, true, true, true, true, true, true, true, true, true, true] rfl rfl (by kernel_rfl) (fun _ _ _ h => h) (Or.inl ⟨by rfl, ?_⟩) ?_ ?_
      rotate_left
      · intro w'
        go_simp
        with_reducible rfl
      rotate_left
      · simp only [Act.put, List.setIfInBounds_toArray, List.set_cons_zero, List.set_cons_succ, i64_w, i32_w]
        rfl
      refine done_ (by kernel_rfl) ?_
      
      go_wp2
      go_ret
      exact ⟨rfl, HBB7.out.trans (HC14.out.mono HBB7.out.size)⟩
    · have e5 : (y.f0 == 5) = false := by simpa using h5
      go_wp2_with fail
      refine (normAwake _).mono ?_
      rintro e w4 ⟨rfl, hb4⟩
      go_wp2
      go_ret
      exact ⟨rfl, below_then HB3.out HB3.out.size hb4⟩
end Go.Proofs.YtadcdjiahekkgaaDoor.A
