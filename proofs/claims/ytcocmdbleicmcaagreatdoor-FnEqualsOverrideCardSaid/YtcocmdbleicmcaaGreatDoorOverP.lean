/- Plain: the loops over options; what an override has. The walk of spec.Override. -/
import Derived.Test.YtcocmdbleicmcaaGreatDoorOverr
import Derived.Test.YtcocmdbleicmcaaGreatDoorPairs
import Derived.Test.YtcocmdbleicmcaaGreatDoorPXx3
import Derived.Test.YtcocmdbleicmcaaGreatDoorPXx4
namespace Go.Proofs.YtcocmdbleicmcaaGreatDoor.M
set_option linter.unusedVariables false
set_option linter.unusedSimpArgs false
set_option linter.unusedSectionVars false
open Go.RowKit Go.Proofs.YtcocmdbleicmcaaGreatDoorW.PrintWords Go.Proofs.YtcocmdbleicmcaaGreatDoorW.PrintLast Go.Proofs.YtcocmdbleicmcaaGreatDoor.PX

abbrev SO := S75
abbrev IO := S76
def sIo (x : SO) : IO := ⟨x.f0, x.f1, x.f2⟩
def iSo (x : IO) : SO := ⟨x.f0, x.f1, x.f2⟩
theorem rd_getSO {l : List SO} {i : Nat} (h : i < l.length) : rd_T75 l (i : Int) = l[i] := by
  simp [rd_T75, List.getD_eq_getElem?_getD, List.getElem?_eq_getElem h]
theorem toO_l0 (l : List SO) (hl : l.length < 3518437208883) : ∀ n i, n = l.length - i → i ≤ l.length → laws_optsTo.l0 (n + 1) l ((l.take i).map sIo) (i : Int) = some (l.map sIo)
  | 0, i, h, hi => by
    obtain rfl : i = l.length := by omega
    rw [List.take_length, laws_optsTo.l0, if_neg (by omega)]
  | n + 1, i, h, hi => by
    have hlt : i < l.length := by omega
    rw [laws_optsTo.l0, if_pos (by omega), if_pos (by omega), if_pos (by simp only [List.length_map, List.length_take]; omega), wrapS i (by omega)]
    have e : (l.take i).map sIo ++ [(⟨(rd_T75 l i).f0, (rd_T75 l i).f1, (rd_T75 l i).f2⟩ : IO)] = (l.take (i + 1)).map sIo := by
      rw [List.take_succ_eq_append_getElem hlt, List.map_append, rd_getSO hlt]; rfl
    rw [e]
    exact toO_l0 l hl n (i + 1) (by omega) (by omega)
theorem toO_f (l : List SO) (hl : l.length < 3518437208883) : laws_optsTo.f (l.length + 1) l = some (l.map sIo) := by
  have := toO_l0 l hl l.length 0 (by omega) (by omega)
  simpa [laws_optsTo.f] using this
theorem rd_getIO {l : List IO} {i : Nat} (h : i < l.length) : rd_T76 l (i : Int) = l[i] := by
  simp [rd_T76, List.getD_eq_getElem?_getD, List.getElem?_eq_getElem h]
theorem fromO_l0 (l : List IO) (hl : l.length < 3518437208883) : ∀ n i, n = l.length - i → i ≤ l.length → laws_optsFrom.l0 (n + 1) l ((l.take i).map iSo) (i : Int) = some (l.map iSo)
  | 0, i, h, hi => by
    obtain rfl : i = l.length := by omega
    rw [List.take_length, laws_optsFrom.l0, if_neg (by omega)]
  | n + 1, i, h, hi => by
    have hlt : i < l.length := by omega
    rw [laws_optsFrom.l0, if_pos (by omega), if_pos (by omega), if_pos (by simp only [List.length_map, List.length_take]; omega), wrapS i (by omega)]
    have e : (l.take i).map iSo ++ [(⟨(rd_T76 l i).f0, (rd_T76 l i).f1, (rd_T76 l i).f2⟩ : SO)] = (l.take (i + 1)).map iSo := by
      rw [List.take_succ_eq_append_getElem hlt, List.map_append, rd_getIO hlt]; rfl
    rw [e]
    exact fromO_l0 l hl n (i + 1) (by omega) (by omega)
theorem fromO_f (l : List IO) (hl : l.length < 3518437208883) : laws_optsFrom.f (l.length + 1) l = some (l.map iSo) := by
  have := fromO_l0 l hl l.length 0 (by omega) (by omega)
  simpa [laws_optsFrom.f] using this
theorem sameO_l0 (l : List SO) (hl : l.length < 3518437208883) : ∀ n i, n = l.length - i → i ≤ l.length → laws_sameOpts.l0 (n + 1) l l (i : Int) = some true
  | 0, i, h, hi => by
    obtain rfl : i = l.length := by omega
    rw [laws_sameOpts.l0, if_neg (by omega)]
  | n + 1, i, h, hi => by
    rw [laws_sameOpts.l0, if_pos (by omega), if_pos (by omega), if_pos (by omega), if_neg (by simp), wrapS i (by omega)]
    exact sameO_l0 l hl n (i + 1) (by omega) (by omega)
theorem sameO_f (l : List SO) (hl : l.length < 3518437208883) : laws_sameOpts.f (l.length + 1) l l = some true := by
  have := sameO_l0 l hl l.length 0 (by omega) (by omega)
  simpa [laws_sameOpts.f] using this
theorem fits8 (a b : ByteArray) (c : Bool) : ∃ r, laws_zzFits8.f a b c = some r := by
  unfold laws_zzFits8.f; split
  · exact ⟨_, rfl⟩
  · split <;> exact ⟨_, rfl⟩
theorem fits7_l0 (l : List SO) (hl : l.length ≤ 2147483647) : ∀ n i, n = l.length - i → i ≤ l.length → ∃ r, laws_zzFits7.l0 (n + 1) l (l.length : Int) (i : Int) = some r
  | 0, i, h, hi => by
    obtain rfl : i = l.length := by omega
    rw [laws_zzFits7.l0, if_neg (by omega)]; exact ⟨_, rfl⟩
  | n + 1, i, h, hi => by
    rw [laws_zzFits7.l0, if_pos (by omega), if_pos (by omega), if_pos (by omega), wrapS i (by omega)]
    obtain ⟨r, hr⟩ := fits8 (rd_T75 l i).f0 (rd_T75 l i).f1 (rd_T75 l i).f2
    rw [hr]
    simp only [Option.bind_some]
    split
    · exact fits7_l0 l hl n (i + 1) (by omega) (by omega)
    · exact ⟨_, rfl⟩
theorem fits7 (l : List SO) : ∃ r, laws_zzFits7.f (l.length + 1) l = some r ∧ (r = true → l.length ≤ 2147483647) := by
  unfold laws_zzFits7.f
  split
  · exact ⟨_, rfl, fun h => by cases h⟩
  · obtain ⟨r, hr⟩ := fits7_l0 l (by omega) l.length 0 (by omega) (by omega)
    exact ⟨r, hr, fun _ => by omega⟩


open Go.Proofs.YtcocmdbleicmcaaGreatDoor.Ord (lastOf)
open SM
theorem lastOf_mem {α : Type} {key : α → ByteArray} {l : List α} {k : ByteArray} {p : α} (h : lastOf key l k = some p) : p ∈ l := by
  induction l using Ord.snocRec with
  | nil => simp [lastOf] at h
  | snoc l x ih =>
    rw [Ord.lastOf_snoc] at h
    split at h
    · injection h with h; simp [h]
    · exact List.mem_append_left _ (ih h)
theorem normO_idem (x : SO) : normO (normO x) = normO x := by
  unfold normO
  split
  · rename_i h; simp [h]
  · rename_i h; simp [h]
theorem fitO_norm {l : List SO} {x : SO} (h : x ∈ fitO l) : normO x = x := by
  have := lastOf_mem ((Ord.fit_mem _ _).1 h)
  obtain ⟨y, _, rfl⟩ := List.mem_map.1 this
  exact normO_idem y
theorem fitO_asc (l : List SO) : Ord.Asc S75.f0 (fitO l) := Ord.fit_asc _
theorem fitO_len (l : List SO) : (fitO l).length ≤ l.length := Nat.le_trans (Ord.fit_length _) (by rw [List.length_map]; exact Nat.le_refl _)
def valS (x : SO) : Option ByteArray := if x.f2 = true then some x.f1 else none
theorem valO_sIo (x : SO) : valO (sIo x) = valS x := rfl
def eO : ByteArray × Option ByteArray → IO
  | (k, none) => ⟨k, ⟨#[]⟩, false⟩
  | (k, some s) => ⟨k, s, true⟩
theorem opO_eO (q : ByteArray × PO) : opO q = eO (q.1, q.2.map (·.2)) := by obtain ⟨k, _ | _⟩ := q <;> rfl
theorem eO_norm {x : SO} (h : normO x = x) : eO (x.f0, valS x) = sIo x := by
  obtain ⟨k, v, b⟩ := x
  cases b with
  | true => rfl
  | false =>
    have h1 : (⟨#[]⟩ : ByteArray) = v := by
      have := congrArg (fun y : SO => y.f1) h
      simpa [normO] using this
    subst h1
    rfl
theorem sIo_inj {x y : SO} (h : sIo x = sIo y) : x = y := by
  obtain ⟨a, b, c⟩ := x; obtain ⟨d, e, f⟩ := y
  injection h with h1 h2 h3
  simp only at h1 h2 h3
  subst h1; subst h2; subst h3; rfl
theorem putsE_mem (l : List IO) (q : ByteArray × Option ByteArray) : q ∈ putsE l ↔ (lastOf S76.f0 l q.1).map valO = some q.2 := by
  induction l using Ord.snocRec with
  | nil => simp [putsE, lastOf]
  | snoc l x ih =>
    rw [putsE_snoc, mem_put, Ord.lastOf_snoc, ih]
    obtain ⟨a, b⟩ := q
    simp only []
    by_cases h : x.f0 = a
    · subst h; simp [eq_comm]
    · rw [if_neg h]
      constructor
      · rintro (h' | h')
        · injection h' with h1 h2; exact absurd h1.symm h
        · exact h'.2
      · intro h'; exact .inr ⟨fun e => h e.symm, h'⟩
theorem asc_sIo {l : List SO} (h : Ord.Asc S75.f0 l) : Ord.Asc S76.f0 (l.map sIo) := by
  unfold Ord.Asc at *; exact List.pairwise_map.2 h
theorem asc_iSo {l : List IO} (h : Ord.Asc S76.f0 l) : Ord.Asc S75.f0 (l.map iSo) := by
  unfold Ord.Asc at *; exact List.pairwise_map.2 h
theorem putsE_asc {a : List SO} (ha : Ord.Asc S75.f0 a) (q : ByteArray × Option ByteArray) : q ∈ putsE (a.map sIo) ↔ ∃ x, x ∈ a ∧ x.f0 = q.1 ∧ valS x = q.2 := by
  rw [putsE_mem]
  constructor
  · intro h
    obtain ⟨y, hy, hv⟩ := Option.map_eq_some_iff.1 h
    obtain ⟨x, hx, rfl⟩ := List.mem_map.1 (lastOf_mem hy)
    have hk := Ord.lastOf_key hy
    exact ⟨x, hx, hk, hv⟩
  · rintro ⟨x, hx, hk, hv⟩
    have := (Ord.lastOf_asc (asc_sIo ha) (sIo x)).2 (List.mem_map_of_mem hx)
    rw [show S76.f0 (sIo x) = q.1 from hk] at this
    rw [this]
    exact congrArg some hv
theorem in_img {a : List SO} {m : List (ByteArray × PO)} (ha : Ord.Asc S75.f0 a) (na : ∀ x, x ∈ a → normO x = x) (h : img m = putsE (a.map sIo)) (p : SO) : (∃ q, q ∈ m ∧ opO q = sIo p) ↔ p ∈ a := by
  constructor
  · rintro ⟨q, hq, e⟩
    have h1 : (q.1, q.2.map (·.2)) ∈ img m := List.mem_map_of_mem (f := fun p : ByteArray × PO => (p.1, p.2.map (·.2))) hq
    rw [h, putsE_asc ha] at h1
    obtain ⟨x, hx, hk, hv⟩ := h1
    simp only at hk hv
    rw [opO_eO, ← hk, ← hv, eO_norm (na x hx)] at e
    exact sIo_inj e ▸ hx
  · intro hp
    have h1 : (p.f0, valS p) ∈ img m := by rw [h, putsE_asc ha]; exact ⟨p, hp, rfl, rfl⟩
    obtain ⟨q, hq, e⟩ := List.mem_map.1 h1
    exact ⟨q, hq, by rw [opO_eO]; rw [e]; exact eO_norm (na p hp)⟩
theorem key_img {a : List SO} {m : List (ByteArray × PO)} (ha : Ord.Asc S75.f0 a) (h : img m = putsE (a.map sIo)) (k : ByteArray) : (∃ q, q ∈ m ∧ q.1 = k) ↔ ∃ x, x ∈ a ∧ x.f0 = k := by
  constructor
  · rintro ⟨q, hq, e⟩
    have h1 : (q.1, q.2.map (·.2)) ∈ img m := List.mem_map_of_mem (f := fun p : ByteArray × PO => (p.1, p.2.map (·.2))) hq
    rw [h, putsE_asc ha] at h1
    obtain ⟨x, hx, hk, hv⟩ := h1
    exact ⟨x, hx, hk.trans e⟩
  · rintro ⟨x, hx, e⟩
    have h1 : (x.f0, valS x) ∈ img m := by rw [h, putsE_asc ha]; exact ⟨x, hx, rfl, rfl⟩
    obtain ⟨q, hq, e1⟩ := List.mem_map.1 h1
    injection e1 with e1 _
    exact ⟨q, hq, e1.trans e⟩
theorem map_normO {l : List SO} (h : ∀ x, x ∈ l → normO x = x) : l.map normO = l := by
  induction l with
  | nil => rfl
  | cons a l ih => rw [List.map_cons, h a (by simp), ih (fun x hx => h x (by simp [hx]))]
/-- What the override tells is what the specification has. -/
theorem overrode {a b : List SO} {l : List IO} {m1 m2 m3 : List (ByteArray × PO)} (ha : Ord.Asc S75.f0 a) (hb : Ord.Asc S75.f0 b) (na : ∀ x, x ∈ a → normO x = x) (nb : ∀ x, x ∈ b → normO x = x) (hl : Ord.Asc S76.f0 l)
    (hp : l.Perm (m3.map opO)) (h1 : img m1 = putsE (a.map sIo)) (h2 : img m2 = putsE (b.map sIo)) (hm : ∀ p, p ∈ m3 ↔ p ∈ m2 ∨ (p ∈ m1 ∧ ∀ q, q ∈ m2 → q.1 ≠ p.1)) : l.map iSo = fitO (a ++ b) := by
  have hn : (a ++ b).map normO = a ++ b := map_normO (fun x hx => (List.mem_append.1 hx).elim (na x) (nb x))
  rw [fitO, hn]
  refine Ord.asc_ext (asc_iSo hl) (Ord.fit_asc _) (fun p => ?_)
  have hL : p ∈ l.map iSo ↔ ∃ q, q ∈ m3 ∧ opO q = sIo p := by
    rw [List.mem_map]
    constructor
    · rintro ⟨x, hx, rfl⟩
      obtain ⟨q, hq, e⟩ := List.mem_map.1 (hp.mem_iff.1 hx)
      exact ⟨q, hq, e⟩
    · rintro ⟨q, hq, e⟩
      exact ⟨sIo p, hp.mem_iff.2 (e ▸ List.mem_map_of_mem hq), rfl⟩
  have hkey : ∀ q : ByteArray × PO, opO q = sIo p → q.1 = p.f0 := fun q e => by rw [← opO_key q, e]; rfl
  rw [hL, Ord.fit_mem, Ord.lastOf_append]
  have ea : lastOf S75.f0 a p.f0 = some p ↔ p ∈ a := Ord.lastOf_asc ha p
  have eb : lastOf S75.f0 b p.f0 = some p ↔ p ∈ b := Ord.lastOf_asc hb p
  have h3 : (∃ q, q ∈ m3 ∧ opO q = sIo p) ↔ p ∈ b ∨ (p ∈ a ∧ ¬ ∃ x, x ∈ b ∧ x.f0 = p.f0) := by
    rw [← in_img hb nb h2, ← in_img ha na h1, ← key_img hb h2]
    constructor
    · rintro ⟨q, hq, e⟩
      rcases (hm q).1 hq with h | ⟨h, h'⟩
      · exact .inl ⟨q, h, e⟩
      · refine .inr ⟨⟨q, h, e⟩, ?_⟩
        rintro ⟨q', hq', e'⟩
        exact h' q' hq' (e'.trans (hkey q e).symm)
    · rintro (⟨q, h, e⟩ | ⟨⟨q, h, e⟩, h'⟩)
      · exact ⟨q, (hm q).2 (.inl h), e⟩
      · exact ⟨q, (hm q).2 (.inr ⟨h, fun q' hq' e' => h' ⟨q', hq', e'.trans (hkey q e)⟩⟩), e⟩
  rw [h3]
  cases e : lastOf S75.f0 b p.f0 with
  | none =>
    have hno : ¬ ∃ x, x ∈ b ∧ x.f0 = p.f0 := by
      rintro ⟨x, hx, hk⟩
      have := (Ord.lastOf_asc hb x).2 hx
      rw [hk, e] at this; cases this
    have hnb : p ∉ b := fun hp => hno ⟨p, hp, rfl⟩
    simp only [Option.none_or, ea]
    exact ⟨fun h => h.elim (fun h => absurd h hnb) (·.1), fun h => .inr ⟨h, hno⟩⟩
  | some r =>
    have hk := Ord.lastOf_key e
    have hr := lastOf_mem e
    simp only [Option.some_or]
    rw [e] at eb
    rw [eb]
    exact ⟨fun h => h.elim id (fun h => absurd ⟨r, hr, hk⟩ h.2), .inl⟩
theorem kO_all (w : World) (base : Nat) (ok : Nat → Prop) : ∀ x cs, k75.K w x cs → k75.M w base ok x cs := fun x cs h => by rw [k75_open h]; exact k75_mkM _ _ _ _
set_option maxHeartbeats 4000000 in
set_option maxRecDepth 100000 in
theorem spec_Override (A0 : Option Addr) (c0 : Nat) (l0 : List S75) (A1 : Option Addr) (c1 : Nat) (l1 : List S75) (w : World) (hr0 : Kd.C k75 w A0 l0.length l0) (hc0 : l0.length ≤ c0) (hl0 : l0.length ≤ 4294967296) (hr1 : Kd.C k75 w A1 l1.length l1) (hc1 : l1.length ≤ c1) (hl1 : l1.length ≤ 4294967296) :
    Calls Tryz.prog 32 #[.slice A0 l0.length c0, .slice A1 l1.length c1] w fun e w' => ∃ v, e = .returned v ∧ Kd.R k75 75 w' w.heap.size (fun _ => True) v (fitO (l0 ++ l1)) ∧ Below w.heap.size w w' := by
  have HR0 := Aside0.mk hr0
  have HR1 := Aside0.mk hr1
  clear hr0 hc0 hr1 hc1
  obtain ⟨L, hL⟩ : ∃ L, L = l0 ++ l1 := ⟨_, rfl⟩
  have hLl : L.length ≤ 8589934592 := by rw [hL, List.length_append]; omega
  rw [← hL]
  have HL := Lib.hid hL
  clear hL
  go_enter Tryz.func32, Tryz.ntmps32
  go_wp2_with (first | (refine Kd.R_lit k75 (w0 := w) w.heap.size 75 rfl (N := 5) rfl (xs := []) (inner := []) (ok := fun _ => True) (okp := fun _ => True) ?hr ?hp (fun _ hk => hk) trivial ?hB ?hS (by simp) ?_; (case hr => first | (go_simp; done) | (go_simp; rfl)); (case hp => exact Reps.none _ _); (case hB => exact Below.refl _ _); (case hS => exact Nat.le_refl _); intro v5 w5 ho5 hb5 hg5 hn5; have HO5 := Aside0.mk ho5; have HB5 := Aside0.mk hb5; clear ho5 hb5 hg5 hn5) | (at_builtin; refine Kd.R_append_rows k75 (Rr := fun x_ cs_ => k75.K w5 x_ cs_) (w0 := w) w.heap.size rfl (.tmp 5) (.tmp 6) 28 75 (.agg #[.string ⟨#[]⟩, .string ⟨#[]⟩, .bool false]) 40 rfl Tryz.underlying28 infoO rfl (by decide) (by decide) v5 [] l0 A0 _ _ (fun _ => True) (fun _ => False) rfl rfl ?hO ?hR (kO_all _ _ _) (fun _ h_ => h_.elim) (fun _ _ => trivial) ?hB ?hS ?hL ?_; (case hO => exact HO5.out); (case hR => exact Kd.C_below HR0.out HB5.out); (case hB => exact HB5.out); (case hS => exact HB5.out.size); (case hL => simp only [List.length_nil]; omega); intro v7 w7 ho7 hb7 hg7 hat7; rw [List.nil_append] at ho7; have HO7 := Aside0.mk ho7; have HB7 := Aside0.mk hb7; clear ho7 hb7 hg7 hat7) | (at_builtin; refine Kd.R_append_rows k75 (Rr := fun x_ cs_ => k75.K w7 x_ cs_) (w0 := w) w.heap.size rfl (.tmp 7) (.tmp 8) 28 75 (.agg #[.string ⟨#[]⟩, .string ⟨#[]⟩, .bool false]) 40 rfl Tryz.underlying28 infoO rfl (by decide) (by decide) v7 l0 l1 A1 _ _ (fun _ => True) (fun _ => False) rfl rfl ?hO ?hR (kO_all _ _ _) (fun _ h_ => h_.elim) (fun _ _ => trivial) ?hB ?hS ?hL ?_; (case hO => exact HO7.out); (case hR => exact Kd.C_below HR1.out HB7.out); (case hB => exact HB7.out); (case hS => exact HB7.out.size); (case hL => omega); intro v9 w9 ho9 hb9 hg9 hat9; rw [← HL.out] at ho9; obtain ⟨A9, c9, rfl, hl9, hC9⟩ := Kd.R_reads ho9; have HC9 := Aside0.mk hC9; have HB9 := Aside0.mk hb9; clear ho9 hb9 hg9 hat9 hC9) | (go_at_call 29; refine (spec_FitOpts A9 c9 L _ HC9.out hl9 (by omega)).mono ?_; rintro e w10 ⟨v10, rfl, ho10, hb10⟩; have HO10 := Aside0.mk (Kd.R_lower ho10 HB9.out.size); have HB10 := Aside0.mk (below_then HB9.out HB9.out.size hb10); clear ho10 hb10))
  go_ret
  exact ⟨_, rfl, HO10.out, HB10.out⟩
end Go.Proofs.YtcocmdbleicmcaaGreatDoor.M
