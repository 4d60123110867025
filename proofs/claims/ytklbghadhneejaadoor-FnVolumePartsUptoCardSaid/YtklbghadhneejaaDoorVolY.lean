/- Plain: spec.ShortVolume's words, whole. -/
import Derived.Test.YtklbghadhneejaaDoorVolZ
namespace Go.Proofs.YtklbghadhneejaaDoor.V
set_option linter.unusedVariables false
set_option linter.unusedSimpArgs false
set_option linter.unusedSectionVars false
open Go.RowKit Go.Proofs.YtklbghadhneejaaDoorW.PrintWords Go.Proofs.YtklbghadhneejaaDoorW.PrintLast Go.Proofs.YtklbghadhneejaaDoor.PX

structure SameV (x : SV) (u : Vol) : Prop where
  ty : x.ty = u.ty
  src : x.src = u.src
  tgt : x.tgt = u.tgt
  ro : x.ro = u.ro
  prop : x.prop = (u.bind.map (·.2.1)).getD ⟨#[]⟩
  sel : x.sel = (u.bind.map (·.1)).getD ⟨#[]⟩
  cr : x.cr = (u.bind.map (·.2.2)).getD false
  nc : x.nc = u.own.getD false
  shape : (u.bind = none ∧ ∃ nc, u.own = some nc) ∨ (u.own = none ∧ ∃ b, u.bind = some b)
/-- What the program makes of a text of which v is said. -/
structure Good (s : ByteArray) (v : SV) : Prop where
  size : 3 ≤ s.size
  runs : ∃ u p, run vol0 [] ((s ++ (⟨#[0]⟩ : ByteArray)).data.toList) = some u ∧ IsPath u.src p ∧ u.src.size ≤ s.size ∧ SameV v (popT u p)
theorem parts_len (sep : UInt8) : ∀ (l p : List UInt8), p ∈ partsL sep l → p.length ≤ l.length
  | [], p, h => by simp [partsL] at h; simp [h]
  | c :: cs, p, h => by
    rw [partsL] at h
    split at h
    · rcases List.mem_cons.1 h with rfl | h
      · simp
      · have := parts_len sep cs p h; rw [List.length_cons]; omega
    · have hne := partsL_ne sep cs
      cases q : partsL sep cs with
      | nil => exact absurd q hne
      | cons p' ps =>
        rw [q] at h
        simp only at h
        rcases List.mem_cons.1 h with rfl | h
        · have := parts_len sep cs p' (by rw [q]; simp); rw [List.length_cons, List.length_cons]; omega
        · have := parts_len sep cs p (by rw [q]; simp [h]); rw [List.length_cons]; omega
theorem parts_count (sep : UInt8) : ∀ l : List UInt8, (partsL sep l).length ≤ l.length + 1
  | [] => by simp [partsL]
  | c :: cs => by
    have := parts_count sep cs
    rw [partsL]
    split
    · rw [List.length_cons, List.length_cons]; omega
    · cases q : partsL sep cs with
      | nil => simp
      | cons p ps => rw [q, List.length_cons] at this; simp only [List.length_cons]; omega
theorem mk_size (l : List UInt8) : (mkB l).size = l.length := by simp [mkB, ByteArray.size]
theorem mk_ne {l : List UInt8} (h : l ≠ []) : mkB l ≠ ⟨#[]⟩ := fun e => h (by have := congrArg (fun s : ByteArray => s.data.toList) e; simpa [mkB] using this)
theorem j0_s (T : List UInt8) (rest : List (List UInt8)) (v : SV) (k M : Nat) (hT : T.length ≤ M) (hr : ∀ O ∈ rest, O.length ≤ M) (hM : M ≤ 8589934592) (hk : 2 * M + 30 ≤ k) : ∃ (v' : SV) (said : Bool), spec_ShortVolume.j0 k (mkB T :: rest.map mkB) v.ty v.src v.tgt v.prop v.sel v.ro v.cr v.nc = some (v'.ty, v'.src, v'.tgt, v'.prop, v'.sel, v'.ro, v'.cr, v'.nc, said) ∧
    (said = true → 3 ≤ T.length ∧ (∀ j, j < (mkB T).size → wordC true (bt (mkB T) (j : Int))) ∧ ((rest = [] ∧ v' = { v with tgt := mkB T }) ∨ (∃ O r, rest = O :: r ∧ v' = ((partsL 44 O).map mkB).foldl modeStep { v with tgt := mkB T } ∧ ∀ o ∈ (partsL 44 O).map mkB, okO v.ty o))) := by
  obtain ⟨k, rfl⟩ : ∃ k', k = k' + 2 := ⟨k - 2, by omega⟩
  have hno : ∀ (x4 : List ByteArray) (a b c d e : ByteArray) (f g h : Bool), spec_ShortVolume.j1 (k + 1) x4 true a b c d e f g h = some ((⟨#[]⟩ : ByteArray), (⟨#[]⟩ : ByteArray), (⟨#[]⟩ : ByteArray), (⟨#[]⟩ : ByteArray), (⟨#[]⟩ : ByteArray), false, false, false, false) := fun _ _ _ _ _ _ _ _ _ => by rw [spec_ShortVolume.j1, if_pos rfl]
  have hno2 : ∃ (v' : SV) (said : Bool), some ((⟨#[]⟩ : ByteArray), (⟨#[]⟩ : ByteArray), (⟨#[]⟩ : ByteArray), (⟨#[]⟩ : ByteArray), (⟨#[]⟩ : ByteArray), false, false, false, false) = some (v'.ty, v'.src, v'.tgt, v'.prop, v'.sel, v'.ro, v'.cr, v'.nc, said) ∧ said = false := ⟨⟨⟨#[]⟩, ⟨#[]⟩, ⟨#[]⟩, ⟨#[]⟩, ⟨#[]⟩, false, false, false⟩, false, rfl, rfl⟩
  have h0 : rdOf ByteArray.empty (mkB T :: rest.map mkB) 0 = mkB T := rfl
  have hz := mk_size T
  obtain ⟨vn, sn, en, hn⟩ := hno2
  rw [spec_ShortVolume.j0, if_pos (by simp), h0]
  by_cases h1 : ((mkB T).size : Int) < 3
  · rw [if_pos h1, hno]; exact ⟨vn, sn, en, fun h => by rw [hn] at h; cases h⟩
  · rw [if_neg h1, if_pos (by omega)]
    by_cases h2 : bt (mkB T) 0 = 47
    · rw [if_pos h2]
      obtain ⟨r, hr1, hw⟩ := word_f (mkB T) true (by omega) (k + 1) (by omega)
      rw [hr1]
      simp only [Option.bind_some]
      cases r with
      | false => rw [show (!false) = true from rfl, hno]; exact ⟨vn, sn, en, fun h => by rw [hn] at h; cases h⟩
      | true =>
        rw [show (!true) = false from rfl, spec_ShortVolume.j1, if_neg (by decide)]
        cases rest with
        | nil =>
          rw [if_pos (by simp)]
          exact ⟨{ v with tgt := mkB T }, true, rfl, fun _ => ⟨by omega, hw rfl, .inl ⟨rfl, rfl⟩⟩⟩
        | cons O r =>
          have hO : O.length ≤ M := hr O (by simp)
          have h3 : rdOf ByteArray.empty (mkB T :: (O :: r).map mkB) 1 = mkB O := rfl
          rw [if_neg (by simp; omega), if_pos (by simp; omega), h3]
          have hp := parts_more (mkB O) 44 (by rw [mk_size]; omega) (k - ((mkB O).size + 2))
          rw [show (mkB O).size + 2 + (k - ((mkB O).size + 2)) = k by have := mk_size O; omega, show (mkB O).data.toList = O by simp [mkB]] at hp
          rw [show ((44 : UInt8).toNat : Int) = 44 from rfl] at hp
          rw [hp]
          simp only [Option.bind_some]
          have hc := parts_count 44 O
          obtain ⟨v', said, h4, h5⟩ := opts_l0 ((partsL 44 O).map mkB) (by rw [List.length_map]; omega) _ 0 k [] { v with tgt := mkB T } rfl (Nat.zero_le _) rfl (by rw [List.length_map]; omega)
          refine ⟨v', said, h4, fun hs => ⟨by omega, hw rfl, .inr ⟨O, r, rfl, ?_⟩⟩⟩
          have := h5 hs
          rw [List.drop_zero] at this
          exact this
    · rw [if_neg h2, hno]; exact ⟨vn, sn, en, fun h => by rw [hn] at h; cases h⟩
theorem popV_src {S : List UInt8} {v : Vol} (h : v.src = ⟨#[]⟩) : popV v 58 S = some { v with src := mkB S } := by
  rw [popV, if_pos (.inl h), popF, if_pos h, if_neg (by decide)]
theorem popV_tgt {T : List UInt8} {v : Vol} {c : UInt8} (h : v.src ≠ ⟨#[]⟩) (ht : v.tgt = ⟨#[]⟩) : popV v c T = some { v with tgt := mkB T } := by
  rw [popV, if_pos (.inr ht), popF, if_neg h]
theorem popV_anon {T : List UInt8} {v : Vol} (h : v.src = ⟨#[]⟩) : popV v 0 T = some { v with tgt := mkB T } := by
  rw [popV, if_pos (.inl h), popF, if_pos h, if_pos (by decide)]
theorem popV_opts {O : List UInt8} {v : Vol} (h : v.src ≠ ⟨#[]⟩) (ht : v.tgt ≠ ⟨#[]⟩) : popV v 0 O = some (((partsL 44 O).map mkB).foldl optStep v) := by
  rw [popV, if_neg (fun e => e.elim h ht), if_pos rfl, splitC_parts _ _ (Nat.le_refl _)]
theorem ok58 : (58 : UInt8).toNat < 128 ∧ (58 : UInt8) ≠ 36 ∧ (58 : UInt8) ≠ 125 ∧ (58 : UInt8) ≠ 0 := by decide
theorem ok44 : (44 : UInt8).toNat < 128 ∧ (44 : UInt8) ≠ 36 ∧ (44 : UInt8) ≠ 125 ∧ (44 : UInt8) ≠ 0 := by decide
theorem run_whole {s : ByteArray} {ps : List (List UInt8)} (hps : partsL 58 s.data.toList = ps) (ok : ∀ p ∈ ps, ∀ c ∈ p, c.toNat < 128 ∧ c ≠ 36 ∧ c ≠ 125 ∧ c ≠ 0) : run vol0 [] ((s ++ (⟨#[0]⟩ : ByteArray)).data.toList) = runP vol0 ps := by
  have e : (s ++ (⟨#[0]⟩ : ByteArray)).data.toList = s.data.toList ++ [0] := by simp [ByteArray.data_append]
  rw [e, run_parts _ (fun c hc => by
    rcases mem_parts 58 _ c hc with rfl | ⟨p, hp, hcp⟩
    · exact ok58
    · rw [hps] at hp; exact ok p hp c hcp), joinH_nil _ (partsL_ne _ _), hps]
theorem opts_ok {ty : ByteArray} {O : List UInt8} (h : ∀ o ∈ (partsL 44 O).map mkB, okO ty o) : O ≠ [] ∧ ∀ c ∈ O, c.toNat < 128 ∧ c ≠ 36 ∧ c ≠ 125 ∧ c ≠ 0 := by
  have hb : ∀ p ∈ partsL 44 O, p ≠ [] ∧ ∀ c ∈ p, c.toNat < 128 ∧ c ≠ 36 ∧ c ≠ 125 ∧ c ≠ 0 ∧ c ≠ 58 := fun p hp => by
    have := okO_bytes (h (mkB p) (List.mem_map_of_mem hp))
    simpa [mkB] using this
  refine ⟨fun e => ?_, fun c hc => ?_⟩
  · subst e
    exact (hb [] (by simp [partsL])).1 rfl
  · rcases mem_parts 44 O c hc with rfl | ⟨p, hp, hcp⟩
    · exact ok44
    · have := (hb p hp).2 c hcp
      exact ⟨this.1, this.2.1, this.2.2.1, this.2.2.2.1⟩
theorem short_no (s : ByteArray) : ∃ (v : SV) (said : Bool), some ((⟨#[]⟩ : ByteArray), (⟨#[]⟩ : ByteArray), (⟨#[]⟩ : ByteArray), (⟨#[]⟩ : ByteArray), (⟨#[]⟩ : ByteArray), false, false, false, false) = some (v.ty, v.src, v.tgt, v.prop, v.sel, v.ro, v.cr, v.nc, said) ∧ (said = true → Good s v) := ⟨⟨⟨#[]⟩, ⟨#[]⟩, ⟨#[]⟩, ⟨#[]⟩, ⟨#[]⟩, false, false, false⟩, false, rfl, fun h => by cases h⟩
theorem same_vol {x : SV} {u : Vol} (h : RelV sVolume x u) (hc : x.cr = false) : SameV x (popT u false) := by
  have hb : u.bind = none := h.vol (by rw [ByteArray.toList_eq])
  exact ⟨h.ty, h.src, h.tgt, h.ro, h.prop, h.sel, by rw [hc]; show false = (u.bind.map (·.2.2)).getD false; rw [hb]; rfl, h.nc, .inl ⟨hb, _, rfl⟩⟩
theorem same_bind {x : SV} {u : Vol} (h : RelV sBind x u) (hc : x.cr = true) : SameV x (popT u true) := by
  have ho : u.own = none := h.bnd (by rw [ByteArray.toList_eq])
  exact ⟨h.ty, h.src, h.tgt, h.ro, h.prop, h.sel, hc, h.nc, .inr ⟨ho, _, rfl⟩⟩
theorem same_of {p : Bool} {x : SV} {u : Vol} (h : RelV (if p = true then sBind else sVolume) x u) (hc : x.cr = p) : SameV x (popT u p) := by
  cases p with
  | false => exact same_vol h hc
  | true => exact same_bind h hc
theorem two_parts {s : ByteArray} {S T : List UInt8} {rest : List (List UInt8)} {p : Bool} (hps : partsL 58 s.data.toList = S :: T :: rest) (hrl : rest.length ≤ 1) (hP : PathSaid (mkB S) p) (h3 : 3 ≤ T.length) (hw : ∀ j, j < (mkB T).size → wordC true (bt (mkB T) (j : Int))) {v : SV}
    (hv : (rest = [] ∧ v = ⟨if p = true then sBind else sVolume, mkB S, mkB T, ⟨#[]⟩, ⟨#[]⟩, false, p, false⟩) ∨ (∃ O r, rest = O :: r ∧ v = ((partsL 44 O).map mkB).foldl modeStep ⟨if p = true then sBind else sVolume, mkB S, mkB T, ⟨#[]⟩, ⟨#[]⟩, false, p, false⟩ ∧ ∀ o ∈ (partsL 44 O).map mkB, okO (if p = true then sBind else sVolume) o)) : Good s v := by
  have hlen : ∀ q ∈ partsL 58 s.data.toList, q.length ≤ s.size := fun q hq => by rw [← len_data]; exact parts_len 58 _ q hq
  have hSl : S.length ≤ s.size := hlen S (by rw [hps]; simp)
  have hTl : T.length ≤ s.size := hlen T (by rw [hps]; simp)
  have hS2 : 2 ≤ S.length := by have := hP.size; rwa [mk_size] at this
  have hSn : S ≠ [] := fun e => by rw [e] at hS2; simp at hS2
  have hTn : T ≠ [] := fun e => by rw [e] at h3; simp at h3
  have okS := word_bytes (b := true) (l := S) hP.all
  have okT := word_bytes (b := true) (l := T) (fun j hj => .inl (hw j hj))
  have hrel : RelV (if p = true then sBind else sVolume) ⟨if p = true then sBind else sVolume, mkB S, mkB T, ⟨#[]⟩, ⟨#[]⟩, false, p, false⟩ { vol0 with src := mkB S, tgt := mkB T } := ⟨rfl, rfl, rfl, rfl, rfl, rfl, rfl, (fun b e => by cases e), fun _ => rfl, fun _ => rfl⟩
  refine ⟨by omega, ?_⟩
  rcases hv with ⟨rfl, rfl⟩ | ⟨O, r, rfl, rfl, ho⟩
  · refine ⟨{ vol0 with src := mkB S, tgt := mkB T }, p, ?_, .inl hP, by rw [mk_size]; exact hSl, same_of hrel rfl⟩
    rw [run_whole hps (fun q hq c hc => by
      rcases List.mem_cons.1 hq with rfl | hq
      · exact okS c hc
      · rcases List.mem_cons.1 hq with rfl | hq
        · exact okT c hc
        · simp at hq)]
    rw [runP, if_neg (by intro e; rcases e with e | e; (· exact hSn e); (· omega)), popV_src rfl]
    simp only [Option.bind_some]
    rw [runP, if_neg hTn, popV_tgt (mk_ne hSn) rfl]
  · obtain rfl : r = [] := List.eq_nil_of_length_eq_zero (by rw [List.length_cons] at hrl; omega)
    obtain ⟨hOn, okO'⟩ := opts_ok ho
    obtain ⟨hr2, hcr⟩ := rel_fold _ hrel ho
    refine ⟨((partsL 44 O).map mkB).foldl optStep { vol0 with src := mkB S, tgt := mkB T }, p, ?_, ?_, ?_, same_of hr2 hcr⟩
    · rw [run_whole hps (fun q hq c hc => by
        rcases List.mem_cons.1 hq with rfl | hq
        · exact okS c hc
        · rcases List.mem_cons.1 hq with rfl | hq
          · exact okT c hc
          · rw [List.mem_singleton.1 hq] at hc; exact okO' c hc)]
      rw [runP, if_neg (by intro e; rcases e with e | e; (· exact hSn e); (· omega)), popV_src rfl]
      simp only [Option.bind_some]
      rw [runP, if_neg (by intro e; rcases e with e | e; (· exact hTn e); (· omega)), popV_tgt (mk_ne hSn) rfl]
      simp only [Option.bind_some]
      rw [runP, if_neg hOn, popV_opts (mk_ne hSn) (mk_ne hTn)]
    · rw [← hr2.src]
      have : ∀ (os : List ByteArray) (x : SV), (os.foldl modeStep x).src = x.src := by
        intro os
        induction os with
        | nil => intro x; rfl
        | cons o os ih =>
          intro x
          rw [List.foldl_cons, ih]
          unfold modeStep
          repeat' split
          all_goals rfl
      rw [this]
      exact .inl hP
    · rw [← hr2.src]
      have : ∀ (os : List ByteArray) (x : SV), (os.foldl modeStep x).src = x.src := by
        intro os
        induction os with
        | nil => intro x; rfl
        | cons o os ih =>
          intro x
          rw [List.foldl_cons, ih]
          unfold modeStep
          repeat' split
          all_goals rfl
      rw [this]
      show (mkB S).size ≤ s.size
      rw [mk_size]; exact hSl
theorem short_f (s : ByteArray) (hz : s.size ≤ 8589934592) : ∃ (v : SV) (said : Bool), spec_ShortVolume.f (2 * s.size + 40) s = some (v.ty, v.src, v.tgt, v.prop, v.sel, v.ro, v.cr, v.nc, said) ∧ (said = true → Good s v) := by
  have hp := parts_more s 58 (by omega) (s.size + 38)
  rw [show s.size + 2 + (s.size + 38) = 2 * s.size + 40 by omega, show ((58 : UInt8).toNat : Int) = 58 from rfl] at hp
  have hlen : ∀ p ∈ partsL 58 s.data.toList, p.length ≤ s.size := fun p hp => by rw [← len_data]; exact parts_len 58 _ p hp
  unfold spec_ShortVolume.f
  rw [hp]
  simp only [Option.bind_some]
  have hne := partsL_ne 58 s.data.toList
  generalize hps : partsL 58 s.data.toList = ps at hlen hne
  rw [List.length_map]
  by_cases h3 : (ps.length : Int) > 3
  · rw [if_pos h3]; exact short_no s
  · rw [if_neg h3]
    match ps, hne with
    | [T], _ =>
      rw [if_neg (by simp)]
      obtain ⟨v', said, h4, h5⟩ := j0_s T [] ⟨sVolume, ⟨#[]⟩, ⟨#[]⟩, ⟨#[]⟩, ⟨#[]⟩, false, false, false⟩ (2 * s.size + 40) s.size (hlen T (by simp)) (fun O h => by simp at h) hz (by omega)
      refine ⟨v', said, h4, fun hs => ?_⟩
      obtain ⟨k1, k2, k3⟩ := h5 hs
      rcases k3 with ⟨_, rfl⟩ | ⟨O, r, e, _⟩
      · have hTl := hlen T (by simp)
        have hTn : T ≠ [] := fun e => by rw [e] at k1; simp at k1
        refine ⟨by omega, { vol0 with tgt := mkB T }, false, ?_, .inr ⟨rfl, rfl⟩, Nat.zero_le _, same_vol ⟨rfl, rfl, rfl, rfl, rfl, rfl, rfl, (fun b e => by cases e), fun _ => rfl, fun _ => rfl⟩ rfl⟩
        rw [run_whole hps (fun q hq c hc => by rw [List.mem_singleton.1 hq] at hc; exact word_bytes (b := true) (l := T) (fun j hj => .inl (k2 j hj)) c hc)]
        rw [runP, if_neg hTn, popV_anon rfl]
      · cases e
    | S :: T :: rest, _ =>
      have hrl : rest.length ≤ 1 := by simp only [List.length_cons] at h3; omega
      have hS : S.length ≤ s.size := hlen S (by simp)
      obtain ⟨r1, r2, hpf, hsaid⟩ := path_f (mkB S) (by rw [mk_size]; omega) (2 * s.size + 40) (by rw [mk_size]; omega)
      have h0 : rdOf ByteArray.empty ((S :: T :: rest).map mkB) 0 = mkB S := rfl
      rw [if_pos (by simp; omega), if_pos (by simp; omega), h0, hpf]
      simp only [Option.bind_some]
      cases r2 with
      | false => rw [if_neg (by decide)]; exact short_no s
      | true =>
        rw [if_pos rfl]
        have hP := hsaid rfl
        have hd : ((S :: T :: rest).map mkB).drop (1 : Int).toNat = mkB T :: rest.map mkB := rfl
        cases r1 with
        | true =>
          rw [if_pos rfl, if_pos (by simp; omega), hd]
          obtain ⟨v', said, h4, h5⟩ := j0_s T rest ⟨sBind, mkB S, ⟨#[]⟩, ⟨#[]⟩, ⟨#[]⟩, false, true, false⟩ (2 * s.size + 40) s.size (hlen T (by simp)) (fun O h => hlen O (by simp [h])) hz (by omega)
          refine ⟨v', said, h4, fun hs => ?_⟩
          obtain ⟨k1, k2, k3⟩ := h5 hs
          exact two_parts (p := true) hps hrl hP k1 k2 k3
        | false =>
          rw [if_neg (by decide), if_pos (by simp; omega), hd]
          obtain ⟨v', said, h4, h5⟩ := j0_s T rest ⟨sVolume, mkB S, ⟨#[]⟩, ⟨#[]⟩, ⟨#[]⟩, false, false, false⟩ (2 * s.size + 40) s.size (hlen T (by simp)) (fun O h => hlen O (by simp [h])) hz (by omega)
          refine ⟨v', said, h4, fun hs => ?_⟩
          obtain ⟨k1, k2, k3⟩ := h5 hs
          exact two_parts (p := false) hps hrl hP k1 k2 k3
end Go.Proofs.YtklbghadhneejaaDoor.V
