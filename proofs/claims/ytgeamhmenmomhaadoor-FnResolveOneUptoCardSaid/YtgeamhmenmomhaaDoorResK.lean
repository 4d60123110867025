/- Joined texts. -/
import Derived.Test.YtgeamhmenmomhaaDoorResQ
import Derived.Test.YtgeamhmenmomhaaDoorTo
/- The walks of loader.resolve, loader.Resolve on what something is said of. -/
namespace Go.Proofs.YtgeamhmenmomhaaDoor.A
set_option linter.unusedVariables false
set_option linter.unusedSimpArgs false
set_option linter.unusedSectionVars false
open Go.RowKit Go.Proofs.YtgeamhmenmomhaaDoorW.PrintWords Go.Proofs.YtgeamhmenmomhaaDoorW.PrintLast Go.Proofs.YtgeamhmenmomhaaDoorW.PrintMore Go.Proofs.YtgeamhmenmomhaaDoor.PT Go.Proofs.YtgeamhmenmomhaaDoor.L Go.Proofs.YtgeamhmenmomhaaDoor.SM
open Go.Proofs.YtgeamhmenmomhaaDoor.U (EnvAt look1)

/-! ### values, as the package takes them -/
def avO : Option ByteArray → AV
  | some s => .text s
  | none => .nil
theorem any_text {lo : Nat} {w : World} {s : ByteArray} {v : AV} (h : AnyIs lo w (tI s) v) : v = .text s := by
  cases h with
  | text h => rfl
  | nil h => simp [tI] at h
  | bool h => simp [tI] at h
  | int h => simp [tI] at h
  | list h _ _ _ _ _ => simp [tI] at h
  | map h _ _ _ _ _ => simp [tI] at h
theorem any_o {lo : Nat} {w : World} {o : Option ByteArray} {v : AV} (h : AnyIs lo w (oI o) v) : v = avO o := by
  cases o with
  | some s => exact any_text h
  | none =>
    cases h with
    | nil h => rfl
    | text h => simp [oI] at h
    | bool h => simp [oI] at h
    | int h => simp [oI] at h
    | list h _ _ _ _ _ => simp [oI] at h
    | map h _ _ _ _ _ => simp [oI] at h
theorem any_list {lo : Nat} {w : World} {ss : List ByteArray} {v : AV} (h : AnyIs lo w (RD.I (.list ss)) v) : ∃ A c, v = .sl A ss.length c ∧ kA.C w A ss.length (ss.map AV.text) := by
  cases h with
  | nil h => simp [RD.I] at h
  | text h => simp [RD.I] at h
  | bool h => simp [RD.I] at h
  | int h => simp [RD.I] at h
  | map h _ _ _ _ _ => simp [RD.I] at h
  | @list _ A c vs h hl hc hr hA he =>
    have hl' : vs.length = ss.length := by rw [hl]; simp [RD.I]
    have e : vs = ss.map AV.text := by
      apply List.ext_getElem (by simp [hl'])
      intro i h1 h2
      have h3 : i < (RD.I (.list ss)).f4.length := by rw [← hl]; exact h1
      have := he i h3 h1
      have e2 : (RD.I (.list ss)).f4[i]'h3 = tI (ss[i]'(by omega)) := by simp [RD.I]
      rw [e2] at this
      rw [any_text this, List.getElem_map]
    rw [hl'] at hr ⊢
    rw [e] at hr
    exact ⟨A, c, rfl, hr⟩
theorem any_map {lo : Nat} {w : World} {es : List (ByteArray × Option ByteArray)} {v : AV} (h : AnyIs lo w (RD.I (.map es)) v) : ∃ b, v = .map b ∧ TMap w b AV.enc (es.map (fun q => (q.1, avO q.2))) := by
  cases h with
  | nil h => simp [RD.I] at h
  | text h => simp [RD.I] at h
  | bool h => simp [RD.I] at h
  | int h => simp [RD.I] at h
  | list h _ _ _ _ _ => simp [RD.I] at h
  | @map _ b m h hm hb hk hl he =>
    have hl' : m.length = es.length := by rw [hl]; simp [RD.I]
    have e : m = es.map (fun q => (q.1, avO q.2)) := by
      apply List.ext_getElem (by simp [hl'])
      intro i h1 h2
      have h3 : i < (RD.I (.map es)).f4.length := by rw [← hl]; exact h1
      have h4 := any_o (o := (es[i]'(by omega)).2) (v := (m[i]'h1).2) (lo := lo) (w := w) (by have := he i h3 h1; simpa [RD.I] using this)
      have h5 : (m[i]'h1).1 = (es[i]'(by omega)).1 := by
        have := congrArg (fun l => l[i]?) hk
        simp [RD.I, List.getElem?_eq_getElem h1, List.getElem?_eq_getElem (show i < es.length by omega)] at this
        exact this
      rw [List.getElem_map, ← h4, ← h5]
    rw [e] at hm
    exact ⟨b, rfl, hm⟩
/-! ### a map's entries -/
def entA (E : Env) (keep : Bool) (k : ByteArray) : AV → Option AV
  | .nil => match E k with
    | some s => some (.text s)
    | none => if keep then some .nil else none
  | v => some v
theorem entA_R (E : Env) (keep : Bool) (k : ByteArray) (o : Option ByteArray) : entA E keep k (avO o) = (entR E keep (k, o)).map (fun p => avO p.2) := by
  unfold entR entV
  cases o with
  | some s => rfl
  | none =>
    show (match E k with | some s => some (AV.text s) | none => if keep then some .nil else none) = _
    dsimp only
    cases E k with
    | some s => rfl
    | none => cases keep <;> rfl
theorem map_end {E : Env} {keep : Bool} {es : List (ByteArray × Option ByteArray)} (ha : Ord.Asc id (es.map (·.1))) {m3 : List (ByteArray × AV)} (hn : (keys m3).Nodup) (hlk : ∀ k, SM.look m3 k = (SM.look (es.map (fun q => (q.1, avO q.2))) k).bind (entA E keep k)) :
    (es.filterMap (entR E keep)).map (·.1) = Ord.sortS (keys m3) ∧ ∀ p ∈ es.filterMap (entR E keep), SM.look m3 p.1 = some (avO p.2) := by
  have hnd : (keys (es.map (fun q => (q.1, avO q.2)))).Nodup := by
    have e : keys (es.map (fun q => (q.1, avO q.2))) = es.map (·.1) := by unfold keys; rw [List.map_map]; rfl
    rw [e]; exact asc_nodup ha
  have hval : ∀ p ∈ es.filterMap (entR E keep), SM.look m3 p.1 = some (avO p.2) := by
    intro p hp
    obtain ⟨q, hq, he⟩ := List.mem_filterMap.1 hp
    have h1 : SM.look (es.map (fun q => (q.1, avO q.2))) q.1 = some (avO q.2) := look_mem hnd (p := (q.1, avO q.2)) (List.mem_map_of_mem (f := fun q : ByteArray × Option ByteArray => (q.1, avO q.2)) hq)
    have hk := entR_key he
    rw [hlk, hk, h1]
    show entA E keep q.1 (avO q.2) = _
    rw [entA_R]
    have : (q.1, q.2) = q := rfl
    rw [this, he]
    rfl
  refine ⟨Ord.sortS_unique (asc_srt (asc_ent E keep ha)) ((List.perm_ext_iff_of_nodup (asc_nodup (asc_ent E keep ha)) hn).2 (fun k => ⟨fun hk => ?_, fun hk => ?_⟩)), hval⟩
  · obtain ⟨p, hp, rfl⟩ := List.mem_map.1 hk
    exact has_iff.1 (look_some (hval p hp)).2
  · obtain ⟨v, hv⟩ := keys_lookB hk
    rw [hlk] at hv
    obtain ⟨u, hu, hv⟩ := Option.bind_eq_some_iff.1 hv
    obtain ⟨q, hq, e⟩ := List.mem_map.1 (look_some hu).1
    injection e with e1 e2
    subst e1
    rw [← e2, entA_R] at hv
    obtain ⟨p, hp, _⟩ := Option.map_eq_some_iff.1 hv
    exact List.mem_map.2 ⟨p, List.mem_filterMap.2 ⟨q, hq, hp⟩, entR_key hp⟩
/-! ### the walks -/
abbrev envM (Em : List (ByteArray × ByteArray)) : Env := fun k => SM.look Em k
abbrev lk (p : Nat) : Value := .func (.func 45) #[] #[.pointer (some ⟨p, 0, none⟩)]
def TextSays (E : Env) (keep : Bool) (s : ByteArray) (w : World) (e : Ending) (w' : World) : Prop := ∃ a : ByteArray, e = .returned (.tuple #[.iface 9 (.string a), .bool (resT E keep s).isSome]) ∧ Below w.heap.size w w' ∧ ∀ t, resT E keep s = some t → a = t
set_option maxHeartbeats 4000000 in
set_option maxRecDepth 100000 in
theorem resolve_text (p : Nat) (Em : List (ByteArray × ByteArray)) (keep : Bool) (s : ByteArray) (hs : s.size ≤ 1048576) (hvs : ∀ k v, SM.look Em k = some v → v.size ≤ 1048576) (w : World) (hE : EnvAt w p Em) :
    Calls Tryd.prog 44 #[.iface 9 (.string s), lk p, .bool keep] w (TextSays (envM Em) keep s w) := by
  have e1 := no_list 20 w 9 (.string s) (by decide)
  have e2 := no_map 20 w 9 (.string s) (by decide)
  have e3 := as_string 20 w s
  have HC := Lib.hid (has_q s (by omega))
  obtain ⟨q, hq⟩ : ∃ q, q = hasQ s := ⟨_, rfl⟩
  obtain ⟨ev, hev⟩ : ∃ ev, ev = SM.look Em s := ⟨_, rfl⟩
  have HL := Lib.hid (fun W (hW : EnvAt W p Em) => look1 p Em s W hW)
  have HQ : Hid (resT (envM Em) keep s = resV q ev keep s) := Lib.hid (by unfold resT; rw [hq, hev])
  rw [← hq] at HC
  rw [← hev] at HL
  have HSZ : Hid (∀ v, ev = some v → ¬ 9223372036854775807 < s.size + eqB.size ∧ ¬ 9223372036854775807 < (s ++ eqB).size + v.size ∧ ¬ 9223372036854775807 < s.size + eqB.size + v.size ∧ ¬ 9223372036854775807 < s.size + 1 + v.size) := Lib.hid (fun v hv => by
    have h1 := hvs s v (by rw [← hev]; exact hv)
    have h2 : eqB.size = 1 := rfl
    rw [ByteArray.size_append]
    omega)
  have HE := Aside0.mk hE
  clear hs hvs hE hq hev
  go_enter Tryd.func44, Tryd.ntmps44
  go_wp2_with fail
  refine (loader_zzContains.calls _ s _ _ _ HC.out).mono ?_
  rintro e w1 ⟨rfl, hd⟩
  have HB1 := Aside0.mk hd.below
  clear hd e1 e2 e3
  cases q with
  | true =>
    go_wp2
    go_ret2
    exact ⟨s, by rw [HQ.out]; rfl, HB1.out, fun t ht => by rw [HQ.out] at ht; injection ht⟩
  | false =>
    go_wp2_with fail
    refine (HL.out w1 (HE.out.below HB1.out)).mono ?_
    rintro e w2 ⟨rfl, rfl⟩
    cases ev with
    | some y =>
      obtain ⟨hcat1, hcat2, hcat3, hcat4⟩ := HSZ.out y rfl
      dsimp only [Option.getD, Option.isSome]
      go_wp2
      go_ret2
      exact ⟨s ++ eqB ++ y, by rw [HQ.out]; rfl, HB1.out, fun t ht => by rw [HQ.out] at ht; injection ht⟩
    | none =>
      dsimp only [Option.getD, Option.isSome]
      cases keep with
      | true =>
        go_wp2
        go_ret2
        exact ⟨s, by rw [HQ.out]; rfl, HB1.out, fun t ht => by rw [HQ.out] at ht; injection ht⟩
      | false =>
        go_wp2
        go_ret2
        exact ⟨_, by rw [HQ.out]; rfl, HB1.out, fun t ht => by rw [HQ.out] at ht; cases ht⟩
end Go.Proofs.YtgeamhmenmomhaaDoor.A
/- The walks of loader.resolve on lists and maps, loader.Resolve, impl.ResolveOne. -/
namespace Go.Proofs.YtgeamhmenmomhaaDoor.A
set_option linter.unusedVariables false
set_option linter.unusedSimpArgs false
set_option linter.unusedSectionVars false
open Go.RowKit Go.Proofs.YtgeamhmenmomhaaDoorW.PrintWords Go.Proofs.YtgeamhmenmomhaaDoorW.PrintLast Go.Proofs.YtgeamhmenmomhaaDoorW.PrintMore Go.Proofs.YtgeamhmenmomhaaDoor.PT Go.Proofs.YtgeamhmenmomhaaDoor.L Go.Proofs.YtgeamhmenmomhaaDoor.SM
open Go.Proofs.YtgeamhmenmomhaaDoor.U (EnvAt look1)

def ResOut (z : Option RD) (w : World) (e : Ending) (w' : World) : Prop := ∃ v' : AV, e = .returned (.tuple #[v'.enc, .bool z.isSome]) ∧ Below w.heap.size w w' ∧ ∀ d, z = some d → FromIs w' v' d.I
theorem fms_next {X : List ByteArray} {i : Nat} (h : i < X.length) (f : ByteArray → Option ByteArray) : (X.take (i + 1)).filterMap f = (X.take i).filterMap f ++ (f (X[i]'h)).toList := by
  rw [List.take_succ_eq_append_getElem h, List.filterMap_append]
  cases hq : f (X[i]'h) <;> simp [hq]
theorem from_texts {w : World} {A : Option Addr} {c : Nat} {ts : List ByteArray} (hr : kA.C w A (ts.map AV.text).length (ts.map AV.text)) (hc : (ts.map AV.text).length ≤ c) (hb : ts.length ≤ 1048576) : FromIs w (.sl A (ts.map AV.text).length c) (RD.I (.list ts)) := by
  refine FromIs.list (ys := ts.map tI) (by simp) hc (by simp; omega) hr (fun i h1 h2 => ?_)
  rw [List.getElem_map, List.getElem_map]
  exact FromIs.text _
set_option maxHeartbeats 4000000 in
set_option maxRecDepth 100000 in
theorem resolve_list (p : Nat) (Em : List (ByteArray × ByteArray)) (keep : Bool) (ss : List ByteArray) (hb : ss.length ≤ 1048576) (hs : ∀ s ∈ ss, s.size ≤ 1048576) (hvs : ∀ k v, SM.look Em k = some v → v.size ≤ 1048576) (w : World) (hE : EnvAt w p Em) (A : Option Addr) (c : Nat) (hr : kA.C w A ss.length (ss.map AV.text)) :
    Calls Tryd.prog 44 #[.iface 81 (.slice A ss.length c), lk p, .bool keep] w (ResOut (RD.res (envM Em) keep (.list ss)) w) := by
  obtain ⟨n, hn⟩ : ∃ n, n = ss.length := ⟨_, rfl⟩
  have HN := Lib.hid hn
  rw [← hn] at hr
  rw [← hn]
  have e1 := as_list 20 w (.slice A n c)
  have HR := Aside0.mk hr
  have HE := Aside0.mk hE
  have HBD : Hid (n ≤ 1048576) := Lib.hid (by omega)
  have HT := Lib.hid (fun (i : Nat) (h : i < ss.length) (W : World) (hW : EnvAt W p Em) => resolve_text p Em keep (ss[i]'h) (hs _ (List.getElem_mem h)) hvs W hW)
  clear hr hE hn hb hs hvs
  go_enter Tryd.func44, Tryd.ntmps44
  go_wp2
  clear e1
  go_loopw [9, 31] (fun v9 v31 wr => ∃ (i : Nat) (vs : List AV) (A' : Option Addr) (c' : Nat), i ≤ n ∧ v31 = .int .i64 i ∧ v9 = .slice A' vs.length c' ∧ Hid (vs = ((ss.take i).filterMap (resT (envM Em) keep)).map AV.text) ∧ Aside0 (Kd.R kA 20 wr w.heap.size (fun _ => True) (.slice A' vs.length c') vs) ∧ Aside0 (Below w.heap.size w wr)) (fun _ v31 _ => n - (intOf v31).toNat)
  case atStart => exact ⟨0, [], none, 0, Nat.zero_le _, rfl, rfl, Lib.hid (by simp), ⟨Kd.R_nil _ _ _ _ _⟩, ⟨Below.refl _ _⟩⟩
  case round =>
    obtain ⟨i, vs, A', c', hi, rfl, rfl, HVS, HRW, HB⟩ := hrel
    by_cases hlt : i < n
    · have i0 : (0 : Int) ≤ (i : Int) := Int.natCast_nonneg _
      have i1 : (i : Int) < (n : Int) := Int.ofNat_lt.2 hlt
      have his : i < ss.length := by rw [← HN.out]; exact hlt
      obtain ⟨adk, eA, hk0⟩ := at_A HR.out i hlt
      replace hk0 := (HB.out.cell (World.block_lt_of_cell? w _ hk0)).trans hk0
      obtain ⟨s, hsi⟩ : ∃ s, s = ss[i]'his := ⟨_, rfl⟩
      have he : (ss.map AV.text).getD i .nil = .text s := by rw [hsi]; simp [List.getD_eq_getElem?_getD, List.getElem?_eq_getElem his]
      rw [he] at hk0
      unfold AV.enc at hk0
      have HC : Hid (∀ W, EnvAt W p Em → Calls Tryd.prog 44 #[.iface 9 (.string s), lk p, .bool keep] W (TextSays (envM Em) keep s W)) := Lib.hid (by rw [hsi]; exact HT.out i his)
      have HNX : Hid ((ss.take (i + 1)).filterMap (resT (envM Em) keep) = (ss.take i).filterMap (resT (envM Em) keep) ++ (resT (envM Em) keep s).toList) := Lib.hid (by rw [hsi]; exact fms_next his _)
      have HVL : Hid (vs.length ≤ i) := Lib.hid (by rw [HVS.out, List.length_map]; exact Nat.le_trans (List.length_filterMap_le _ _) (by rw [List.length_take]; omega))
      have HVB : Hid ((vs.length + 1) * 16 ≤ 140737488355328) := Lib.hid (by have h1 := HVL.out; have h2 := HBD.out; omega)
      have wk := wrF hlt (by have := HBD.out; omega)
      subst eA
      clear his hsi he
      go_wp2_with fail
      refine (HC.out wr (HE.out.below HB.out)).mono ?_
      clear hk0
      rintro e w3 ⟨a, rfl, hb3, ha⟩
      have HB3 := Aside0.mk (below_then HB.out HB.out.size hb3)
      have RW3 := Aside0.mk (Kd.R_below HRW.out hb3)
      have HA := Lib.hid ha
      clear hb3 ha
      obtain ⟨rt, hrt⟩ : ∃ rt, rt = resT (envM Em) keep s := ⟨_, rfl⟩
      rw [← hrt] at HA HNX ⊢
      clear hrt
      cases rt with
      | none =>
        dsimp only [Option.isSome]
        go_wp2
        go_roundw
        case rel => exact ⟨i + 1, vs, A', c', hlt, by go_num, rfl, Lib.hid (by rw [HNX.out, HVS.out]; simp), RW3, HB3⟩
        case measure => first | exact msF hlt | (rw [wk]; exact msF hlt)
      | some t =>
        have ea : a = t := HA.out t rfl
        subst ea
        dsimp only [Option.isSome]
        go_wp2_with (at_builtin; refine Kd.R_append kA (w0 := w) w.heap.size rfl _ _ 81 20 .nilIface 16 rfl Tryd.underlying81 infoA rfl (by decide) (by decide) (.slice A' vs.length c') vs (.text a) [.iface 9 (.string a)] (fun _ => True) (fun _ => False) rfl rfl ?hp (fun _ h => h.elim) (fun _ _ => trivial) ?hO ?hB ?hS ?hL ?_; (case hp => rfl); (case hO => first | exact RW3.out | exact Kd.R_alloc RW3.out _); (case hB => first | exact HB3.out | exact HB3.out.alloc HB3.out.size _); (case hS => first | exact HB3.out.size | (have := HB3.out.size; simp; omega)); (case hL => exact HVB.out); intro v6 w6 ho6 hb6 hg6 hat6; obtain ⟨A6, c6, eo⟩ := Kd.R_slice ho6; subst eo; have HO6 := Aside0.mk ho6; have HK6 := Aside0.mk hb6; clear ho6 hb6 hg6 hat6)
        go_roundw
        case rel => exact ⟨i + 1, vs ++ [.text a], A6, c6, hlt, by go_num, by first | rfl | simp, Lib.hid (by rw [HNX.out, HVS.out]; simp), HO6, HK6⟩
        case measure => first | exact msF hlt | (rw [wk]; exact msF hlt)
    · go_wp2
      go_ret2
      obtain rfl : i = n := by omega
      have hvs := HVS.out
      rw [HN.out, List.take_length] at hvs
      obtain ⟨A5, c5, e5, hl5, hC5⟩ := Kd.R_reads HRW.out
      injection e5 with e5 _ e6
      subst e5 e6
      refine ⟨.sl A' vs.length c', rfl, HB.out, fun d hd => ?_⟩
      injection hd with hd
      subst hd
      subst hvs
      exact from_texts hC5 hl5 (Nat.le_trans (List.length_filterMap_le _ _) (by rw [← HN.out]; exact HBD.out))
/-! ### a map -/
structure ResMap (E : Env) (keep : Bool) (w : World) (b r b' : Nat) (m : List (ByteArray × AV)) (wr : World) (rm m3 : List (ByteArray × AV)) : Prop where
  rng : TRng wr b r AV.enc m rm
  mp : TMap wr b' AV.enc m3
  bel : Below w.heap.size w wr
  sub : ∀ q ∈ rm, q ∈ m
  lks : ∀ k, SM.look m3 k = if has rm k = true then none else (SM.look m k).bind (entA E keep k)
theorem keys_del {β : Type} {rm : List (ByteArray × β)} {q k : ByteArray} : has (del rm q) k = true ↔ k ≠ q ∧ has rm k = true := by
  rw [has_iff, has_iff]
  unfold keys
  constructor
  · intro h
    obtain ⟨p, hp, rfl⟩ := List.mem_map.1 h
    obtain ⟨h1, h2⟩ := (mem_del p).1 hp
    exact ⟨h1, List.mem_map_of_mem h2⟩
  · rintro ⟨h1, h2⟩
    obtain ⟨p, hp, rfl⟩ := List.mem_map.1 h2
    exact List.mem_map_of_mem ((mem_del p).2 ⟨h1, hp⟩)
theorem lks_put {E : Env} {keep : Bool} {m rm m3 : List (ByteArray × AV)} (hn : (keys m).Nodup) (h : ∀ k, SM.look m3 k = if has rm k = true then none else (SM.look m k).bind (entA E keep k)) {qk : ByteArray} {qv u : AV} (hq : (qk, qv) ∈ m) (he : entA E keep qk qv = some u) :
    ∀ k, SM.look (put m3 qk u) k = if has (del rm qk) k = true then none else (SM.look m k).bind (entA E keep k) := by
  intro k
  rw [U.look_put]
  by_cases hk : qk = k
  · subst hk
    rw [if_pos rfl, if_neg (fun h => (keys_del.1 h).1 rfl), show SM.look m qk = some qv from look_mem hn (p := (qk, qv)) hq]
    exact he.symm
  · rw [if_neg hk, h k]
    by_cases h2 : has rm k = true
    · rw [if_pos h2, if_pos (keys_del.2 ⟨fun e => hk e.symm, h2⟩)]
    · rw [if_neg h2, if_neg (fun h => h2 (keys_del.1 h).2)]
theorem lks_skip {E : Env} {keep : Bool} {m rm m3 : List (ByteArray × AV)} (hn : (keys m).Nodup) (h : ∀ k, SM.look m3 k = if has rm k = true then none else (SM.look m k).bind (entA E keep k)) {qk : ByteArray} {qv : AV} (hq : (qk, qv) ∈ m) (hr : has rm qk = true) (he : entA E keep qk qv = none) :
    ∀ k, SM.look m3 k = if has (del rm qk) k = true then none else (SM.look m k).bind (entA E keep k) := by
  intro k
  rw [h k]
  by_cases hk : k = qk
  · subst hk
    rw [if_pos hr, if_neg (fun h => (keys_del.1 h).1 rfl), show SM.look m k = some qv from look_mem hn (p := (k, qv)) hq]
    exact he.symm
  · by_cases h2 : has rm k = true
    · rw [if_pos h2, if_pos (keys_del.2 ⟨hk, h2⟩)]
    · rw [if_neg h2, if_neg (fun h => h2 (keys_del.1 h).2)]
theorem from_ents {E : Env} {keep : Bool} {es : List (ByteArray × Option ByteArray)} (ha : Ord.Asc id (es.map (·.1))) (hb : es.length ≤ 1048576) {w : World} {b : Nat} {m3 : List (ByteArray × AV)} (hm : TMap w b AV.enc m3) (hlk : ∀ k, SM.look m3 k = (SM.look (es.map (fun q => (q.1, avO q.2))) k).bind (entA E keep k)) : FromIs w (.map b) (RD.I (.map (es.filterMap (entR E keep)))) := by
  obtain ⟨h1, h2⟩ := map_end (E := E) (keep := keep) ha hm.nodup hlk
  obtain ⟨zs, hz⟩ : ∃ zs, zs = es.filterMap (entR E keep) := ⟨_, rfl⟩
  have hzl : zs.length ≤ es.length := by rw [hz]; exact List.length_filterMap_le _ _
  rw [← hz] at h1 h2 ⊢
  have hml : m3.length = zs.length := by
    have := congrArg List.length h1
    rw [List.length_map, Ord.sortS_length] at this
    rw [this]; simp [keys]
  refine FromIs.map (ks := zs.map (·.1)) (ys := zs.map (fun q => oI q.2)) hm (by omega) h1 (by simp) (fun i i1 i2 v hv => ?_)
  have i3 : i < zs.length := by simpa using i1
  rw [List.getElem_map] at hv ⊢
  rw [h2 _ (List.getElem_mem i3)] at hv
  injection hv with hv
  subst hv
  cases (zs[i]'i3).2 with
  | none => exact .nil
  | some s => exact .text s
set_option maxHeartbeats 4000000 in
set_option maxRecDepth 100000 in
theorem resolve_map (p : Nat) (Em : List (ByteArray × ByteArray)) (keep : Bool) (es : List (ByteArray × Option ByteArray)) (ha : Ord.Asc id (es.map (·.1))) (hb : es.length ≤ 1048576) (w : World) (hE : EnvAt w p Em) (b : Nat) (hm : TMap w b AV.enc (es.map (fun q => (q.1, avO q.2)))) :
    Calls Tryd.prog 44 #[.iface 73 (.map (some b)), lk p, .bool keep] w (ResOut (RD.res (envM Em) keep (.map es)) w) := by
  have e1 := no_list 20 w 73 (.map (some b)) (by decide)
  have e2 := as_map 20 w (.map (some b))
  have e0 : (Instr.makeMap 73 none).run Tryd.prog w = .ok (.map (some w.heap.size)) (w.alloc (.map #[] 0)) := run_makeMap _ _
  have HFIN := Lib.hid (fun (W : World) (b' : Nat) (m3 : List (ByteArray × AV)) (h1 : TMap W b' AV.enc m3) h2 => from_ents (E := envM Em) (keep := keep) ha hb h1 h2)
  have HO : Hid (∀ q ∈ es.map (fun q => (q.1, avO q.2)), ∃ o, q.2 = avO o) := Lib.hid (fun q hq => by obtain ⟨x, _, rfl⟩ := List.mem_map.1 hq; exact ⟨_, rfl⟩)
  obtain ⟨m, hmm⟩ : ∃ m, m = es.map (fun q => (q.1, avO q.2)) := ⟨_, rfl⟩
  rw [← hmm] at hm HFIN HO
  have hbl := hm.lt
  have HND := Lib.hid hm.nodup
  have HM := Aside0.mk hm
  have HE := Aside0.mk hE
  obtain ⟨W1, hW1⟩ : ∃ W1 : World, W1 = w.alloc (.map #[] 0) := ⟨_, rfl⟩
  have HM3 : Aside0 (TMap W1 w.heap.size AV.enc ([] : List (ByteArray × AV))) := ⟨by rw [hW1]; exact TMap.made _ _⟩
  have HB1 : Aside0 (Below w.heap.size w W1) := ⟨by rw [hW1]; exact (Below.refl _ _).alloc (Nat.le_refl _) _⟩
  have HS1 : Hid (W1.heap.size = w.heap.size + 1) := Lib.hid (by rw [hW1]; simp)
  have HW1 := Lib.hid hW1
  clear hm hE ha hb hmm hW1
  go_enter Tryd.func44, Tryd.ntmps44
  go_upto_region 18 with fail
  rw [← HW1.out]
  clear e0 e1 e2
  go_wp2_with (at_range; refine wp_range rfl _ rfl Tryd.underlying73 rfl (HM.out.below HB1.out) HB1.out HB1.out.size ?_; intro w2 r hr ht hb2 hg2 _; have HT := Aside0.mk ht; have HB2 := Aside0.mk hb2; have HM2 := Aside0.mk (HM3.out.grown hg2 (by simp)); have HR : Hid (r = w.heap.size + 1) := Lib.hid (hr.trans HS1.out); clear ht hb2 hg2 hr)
  go_frame
  go_loopw [] (fun wr => ∃ (rm m3 : List (ByteArray × AV)), Aside0 (ResMap (envM Em) keep w b r w.heap.size m wr rm m3)) (fun wr => wr.rangeLeft b r)
  case atStart => exact ⟨m, [], ⟨HT.out, HM2.out, HB2.out, fun q hq => hq, fun k => by
    cases hk : has m k with
    | true => rw [if_pos rfl]; rfl
    | false => rw [if_neg (by decide), look_none.2 hk]; rfl⟩⟩
  case round =>
    obtain ⟨rm, m3, HF⟩ := hrel
    go_wp2_with (at_next; (refine wp_next rfl _ rfl rfl ?n1 HF.out.rng HF.out.bel ?n2 ?_ ?_; (case n1 => have := HR.out; omega); (case n2 => have := HR.out; omega)))
    · intro hrm
      subst hrm
      go_wp2
      go_ret2
      refine ⟨.map w.heap.size, rfl, HF.out.bel, fun d hd => ?_⟩
      injection hd with hd
      subst hd
      exact HFIN.out _ _ _ HF.out.mp (fun k => by have := HF.out.lks k; rwa [if_neg (by simp [has])] at this)
    · intro qk qv w2' hq ht2 hb2 hg2 hs2 hen
      have hqm := HF.out.sub _ hq
      obtain ⟨o, ho⟩ := HO.out _ hqm
      replace ho : qv = avO o := ho
      have HQM := Lib.hid hqm
      have HKR : Hid (has rm qk = true) := Lib.hid (has_iff.2 (List.mem_map_of_mem (f := (·.1)) hq))
      have HSUB : Hid (∀ q ∈ del rm qk, q ∈ m) := Lib.hid (fun q hq' => HF.out.sub q ((mem_del q).1 hq').2)
      have HT2 := Aside0.mk ht2
      have HB2 := Aside0.mk hb2
      have HL := Lib.hid (show (del rm qk).length < rm.length from Nat.lt_of_lt_of_eq (Nat.lt_succ_self _) (length_del (p := (qk, qv)) HF.out.rng.nodup hq))
      have H12 := Aside0.mk (HF.out.mp.grown hg2 (by have h1 := HR.out; intro e; injection e with e; omega))
      clear hq ht2 hb2 hg2 hs2 hqm
      cases o with
      | some s =>
        replace ho : qv = .text s := ho
        subst ho
        unfold AV.enc
        unfold AV.enc at hen
        have HEN : Hid (entA (envM Em) keep qk (.text s) = some (.text s)) := Lib.hid rfl
        go_wp2_with (at_mapUpdate; refine wp_put rfl _ _ _ rfl Tryd.underlying73 Tryd.underlying9 rfl H12.out qk (.text s) rfl rfl (w0 := w) (B := w.heap.size) HB2.out (Nat.le_refl _) ?_; intro w3 hm3 hb3 hg3 _; have HM3' := Aside0.mk hm3; have HB3 := Aside0.mk hb3; have HT3 := Aside0.mk (HT2.out.grown hg3 (by simp; omega) (by have := HR.out; simp; omega)); clear hm3 hb3 hg3)
        (first | go_frame | skip)
        go_roundw
        case rel => exact ⟨_, _, ⟨HT3.out, HM3'.out, HB3.out, HSUB.out, lks_put HND.out HF.out.lks HQM.out HEN.out⟩⟩
        case measure => rw [HT3.out.left_eq, HF.out.rng.left_eq]; exact HL.out
      | none =>
        replace ho : qv = .nil := ho
        subst ho
        unfold AV.enc
        unfold AV.enc at hen
        obtain ⟨ev, hev⟩ : ∃ ev, ev = SM.look Em qk := ⟨_, rfl⟩
        have hlk := look1 p Em qk w2' (HE.out.below HB2.out)
        rw [← hev] at hlk
        have HLK := Lib.hid hlk
        have HEV := Lib.hid hev
        clear hlk hev
        go_wp2_with fail
        refine HLK.out.mono ?_
        rintro e w3 ⟨rfl, rfl⟩
        cases ev with
        | some y =>
          have HEN : Hid (entA (envM Em) keep qk .nil = some (.text y)) := Lib.hid (by have h : envM Em qk = some y := HEV.out.symm; simp [entA, h])
          dsimp only [Option.getD, Option.isSome]
          go_wp2_with (at_mapUpdate; refine wp_put rfl _ _ _ rfl Tryd.underlying73 Tryd.underlying9 rfl H12.out qk (.text y) rfl rfl (w0 := w) (B := w.heap.size) HB2.out (Nat.le_refl _) ?_; intro w3 hm3 hb3 hg3 _; have HM3' := Aside0.mk hm3; have HB3 := Aside0.mk hb3; have HT3 := Aside0.mk (HT2.out.grown hg3 (by simp; omega) (by have := HR.out; simp; omega)); clear hm3 hb3 hg3)
          (first | go_frame | skip)
          go_roundw
          case rel => exact ⟨_, _, ⟨HT3.out, HM3'.out, HB3.out, HSUB.out, lks_put HND.out HF.out.lks HQM.out HEN.out⟩⟩
          case measure => rw [HT3.out.left_eq, HF.out.rng.left_eq]; exact HL.out
        | none =>
          dsimp only [Option.getD, Option.isSome]
          cases keep with
          | true =>
            have HEN : Hid (entA (envM Em) true qk .nil = some .nil) := Lib.hid (by have h : envM Em qk = none := HEV.out.symm; simp [entA, h])
            go_wp2_with (at_mapUpdate; refine wp_put rfl _ _ _ rfl Tryd.underlying73 Tryd.underlying9 rfl H12.out qk .nil rfl rfl (w0 := w) (B := w.heap.size) HB2.out (Nat.le_refl _) ?_; intro w3 hm3 hb3 hg3 _; have HM3' := Aside0.mk hm3; have HB3 := Aside0.mk hb3; have HT3 := Aside0.mk (HT2.out.grown hg3 (by simp; omega) (by have := HR.out; simp; omega)); clear hm3 hb3 hg3)
            (first | go_frame | skip)
            go_roundw
            case rel => exact ⟨_, _, ⟨HT3.out, HM3'.out, HB3.out, HSUB.out, lks_put HND.out HF.out.lks HQM.out HEN.out⟩⟩
            case measure => rw [HT3.out.left_eq, HF.out.rng.left_eq]; exact HL.out
          | false =>
            have HEN : Hid (entA (envM Em) false qk .nil = none) := Lib.hid (by have h : envM Em qk = none := HEV.out.symm; simp [entA, h])
            go_wp2
            go_roundw
            case rel => exact ⟨_, _, ⟨HT2.out, H12.out, HB2.out, HSUB.out, lks_skip HND.out HF.out.lks HQM.out HKR.out HEN.out⟩⟩
            case measure => rw [HT2.out.left_eq, HF.out.rng.left_eq]; exact HL.out
/-- of everything that something is said of -/
theorem loader_resolve (p : Nat) (Em : List (ByteArray × ByteArray)) (keep : Bool) (hvs : ∀ k v, SM.look Em k = some v → v.size ≤ 1048576) {rd : RD} (hok : rd.ok) (w : World) (hE : EnvAt w p Em) {lo : Nat} {v : AV} (ha : AnyIs lo w rd.I v) :
    Calls Tryd.prog 44 #[v.enc, lk p, .bool keep] w (ResOut (RD.res (envM Em) keep rd) w) := by
  cases rd with
  | text s =>
    have := any_text (s := s) ha
    subst this
    refine (resolve_text p Em keep s hok hvs w hE).mono ?_
    rintro e w' ⟨a, rfl, hb, h⟩
    rw [show RD.res (envM Em) keep (.text s) = (resT (envM Em) keep s).map RD.text from rfl]
    refine ⟨.text a, by cases resT (envM Em) keep s <;> rfl, hb, fun d hd => ?_⟩
    obtain ⟨t, ht, rfl⟩ := Option.map_eq_some_iff.1 hd
    have := h t ht
    subst this
    exact .text a
  | list ss =>
    obtain ⟨A, c, rfl, hr⟩ := any_list ha
    exact resolve_list p Em keep ss hok.1 hok.2 hvs w hE A c hr
  | map es =>
    obtain ⟨b, rfl, hm⟩ := any_map ha
    exact resolve_map p Em keep es hok.2.1 hok.1 w hE b hm
theorem loader_Resolve (p : Nat) (Em : List (ByteArray × ByteArray)) (keep : Bool) (hvs : ∀ k v, SM.look Em k = some v → v.size ≤ 1048576) {rd : RD} (hok : rd.ok) (w : World) (hE : EnvAt w p Em) {lo : Nat} {v : AV} (ha : AnyIs lo w rd.I v) :
    Calls Tryd.prog 29 #[v.enc, lk p, .bool keep] w (ResOut (RD.res (envM Em) keep rd) w) := by
  have HC := Lib.hid (loader_resolve p Em keep hvs hok w hE ha)
  clear hvs hok hE ha
  generalize v.enc = u at *
  generalize RD.res (envM Em) keep rd = z at *
  go_enter Tryd.func29, Tryd.ntmps29
  go_wp2_with fail
  refine HC.out.mono ?_
  rintro e w1 ⟨v', rfl, hb, hf⟩
  generalize hu : v'.enc = u' at *
  go_wp2
  go_ret2
  exact ⟨v', by rw [hu]; rfl, hb, hf⟩
end Go.Proofs.YtgeamhmenmomhaaDoor.A
/- The walk of impl.ResolveOne on what something is said of. -/
namespace Go.Proofs.YtgeamhmenmomhaaDoor.A
set_option linter.unusedVariables false
set_option linter.unusedSimpArgs false
set_option linter.unusedSectionVars false
open Go.RowKit Go.Proofs.YtgeamhmenmomhaaDoorW.PrintWords Go.Proofs.YtgeamhmenmomhaaDoorW.PrintLast Go.Proofs.YtgeamhmenmomhaaDoorW.PrintMore Go.Proofs.YtgeamhmenmomhaaDoor.PT Go.Proofs.YtgeamhmenmomhaaDoor.L Go.Proofs.YtgeamhmenmomhaaDoor.SM
open Go.Proofs.YtgeamhmenmomhaaDoor.U (EnvAt look1 IP putsP impl_look)

def OneSays (z : Option RD) (w : World) (e : Ending) (w' : World) : Prop := ∃ (y : IV) (A3 : Option Addr) (c3 : Nat) (A4 : Option Addr) (c4 : Nat), e = .returned (.tuple #[cellsI y A3 c3 A4 c4, .bool z.isSome]) ∧ Below w.heap.size w w' ∧ ∀ d, z = some d → y = d.I ∧ MadeI y w' (cellsI y A3 c3 A4 c4)
set_option maxHeartbeats 4000000 in
set_option maxRecDepth 100000 in
theorem impl_ResolveOne {rd : RD} (hok : rd.ok) (l : List IP) (hl : l.length ≤ 1048576) (hvs : ∀ k v, SM.look (putsP l) k = some v → v.size ≤ 1048576) (keep : Bool) {v : Value} {w : World} (hv : MadeI rd.I w v) (A0 : Option Addr) (c0 : Nat) (hr0 : Kd.C k69 w A0 l.length l) (hc0 : l.length ≤ c0) :
    Calls Tryd.prog 11 #[v, .slice A0 l.length c0, .bool keep] w (OneSays (rd.res (envM (putsP l)) keep) w) := by
  obtain ⟨A3, c3, A4, c4, rfl, h3, g3, h4, g4⟩ := hv
  obtain ⟨W0, hW0⟩ : ∃ W0 : World, W0 = (w.alloc (Obj.cells #[.int .i64 rd.I.f0, .int .i64 rd.I.f1, .string rd.I.f2, .slice A3 rd.I.f3.length c3, .slice A4 rd.I.f4.length c4] 36)).alloc (Obj.cells #[.int .i64 0, .int .i64 0, .string ⟨#[]⟩, .slice none 0 0, .slice none 0 0] 36) := ⟨_, rfl⟩
  have hb0 : Below w.heap.size w W0 := by rw [hW0]; exact ((Below.refl _ _).alloc (Nat.le_refl _) _).alloc (by simp) _
  have hbx : W0.heap[w.heap.size]? = some (.cells #[.int .i64 rd.I.f0, .int .i64 rd.I.f1, .string rd.I.f2, .slice A3 rd.I.f3.length c3, .slice A4 rd.I.f4.length c4] 36 (0, 0)) := by rw [hW0]; exact heap_oldI (new_atI rfl)
  have HRE : Aside0 (W0.heap[w.heap.size + 1]? = some (.cells zV 36 (0, 0))) := ⟨by rw [hW0]; exact new_atI (by simp)⟩
  have HT := Lib.hid (to_any (RD.fine hok).canon (w := W0) (v := cellsI rd.I A3 c3 A4 c4) ⟨A3, c3, A4, c4, rfl, h3, Kd.C_below g3 hb0, h4, Kd.C_below g4 hb0⟩)
  have HB0 := Aside0.mk hb0
  have HS0 : Hid (W0.heap.size = w.heap.size + 2) := Lib.hid (by rw [hW0]; simp)
  have HW0 := Lib.hid hW0
  have HR0 := Aside0.mk hr0
  have HLK := Lib.hid (fun (W : World) (h : Kd.C k69 W A0 l.length l) => impl_look A0 c0 l W h hc0 (by omega))
  have HL := Lib.hid (fun (W : World) (p : Nat) (hE : EnvAt W p (putsP l)) (lo : Nat) (v : AV) (ha : AnyIs lo W rd.I v) => loader_Resolve p (putsP l) keep hvs hok W hE ha)
  obtain ⟨z, hz⟩ : ∃ z, z = rd.res (envM (putsP l)) keep := ⟨_, rfl⟩
  rw [← hz] at HL ⊢
  have m0 : W0.cell? ⟨w.heap.size, 0, none⟩ = some (.int .i64 rd.I.f0) := (blk_cell hbx 0).trans rfl
  have m1 : W0.cell? ⟨w.heap.size, 1, none⟩ = some (.int .i64 rd.I.f1) := (blk_cell hbx 1).trans rfl
  have m2 : W0.cell? ⟨w.heap.size, 2, none⟩ = some (.string rd.I.f2) := (blk_cell hbx 2).trans rfl
  have m3 : W0.cell? ⟨w.heap.size, 3, none⟩ = some (.slice A3 rd.I.f3.length c3) := (blk_cell hbx 3).trans rfl
  have m4 : W0.cell? ⟨w.heap.size, 4, none⟩ = some (.slice A4 rd.I.f4.length c4) := (blk_cell hbx 4).trans rfl
  clear hb0 hW0 hbx h3 g3 h4 g4 hok hl hvs hr0 hc0 hz
  go_enter Tryd.func11, Tryd.ntmps11
  go_upto_region 1 with fail
  rw [← HW0.out]
  go_wp2_with fail
  refine HT.out.mono ?_
  clear m0 m1 m2 m3 m4
  rintro e w1 ⟨va, rfl, ha, hb1⟩
  have HA := Aside0.mk ha
  have H1 := Aside0.mk hb1
  clear ha hb1
  generalize hu : va.enc = u
  have HU := Lib.hid hu
  clear hu
  go_wp2_with fail
  refine (HLK.out w1 (Kd.C_below (Kd.C_below HR0.out HB0.out) H1.out)).mono ?_
  rintro e w2 ⟨p, rfl, hE, hb2⟩
  have HE := Aside0.mk hE
  have H2 := Aside0.mk (below_then H1.out H1.out.size hb2)
  have HA2 := Aside0.mk (HA.out.below_ hb2)
  clear hE hb2
  go_wp2_with fail
  rw [← HU.out]
  refine (HL.out w2 p HE.out _ va HA2.out).mono ?_
  rintro e w3 ⟨vr, rfl, hb3, hf⟩
  have H3 := Aside0.mk (below_then H2.out H2.out.size hb3)
  have HF := Lib.hid hf
  clear hb3 hf
  have hre := blk_below HRE.out H3.out
  cases z with
  | none =>
    have n0 : w3.cell? ⟨w.heap.size + 1, 0, none⟩ = some (.int .i64 0) := (blk_cell hre 0).trans rfl
    have n1 : w3.cell? ⟨w.heap.size + 1, 1, none⟩ = some (.int .i64 0) := (blk_cell hre 1).trans rfl
    have n2 : w3.cell? ⟨w.heap.size + 1, 2, none⟩ = some (.string ⟨#[]⟩) := (blk_cell hre 2).trans rfl
    have n3 : w3.cell? ⟨w.heap.size + 1, 3, none⟩ = some (.slice none 0 0) := (blk_cell hre 3).trans rfl
    have n4 : w3.cell? ⟨w.heap.size + 1, 4, none⟩ = some (.slice none 0 0) := (blk_cell hre 4).trans rfl
    have f0 := blk_frozen hre 0
    have f1 := blk_frozen hre 1
    have f2 := blk_frozen hre 2
    have f3 := blk_frozen hre 3
    have f4 := blk_frozen hre 4
    clear hre
    generalize hu2 : vr.enc = u2
    dsimp only [Option.isSome]
    go_wp2
    refine bodyPost_ret (v := .tuple #[.agg zV, .bool false]) (by simp [results, Tryd.results11, go_sem, *]) rfl ?_
    exact ⟨⟨0, 0, be, [], []⟩, none, 0, none, 0, rfl, below5 (HB0.out.trans (H3.out.mono HB0.out.size)) _ (Nat.le_succ _) _ _ _ _ _, fun d hd => by cases hd⟩
  | some d =>
    have HFD := Lib.hid (HF.out d rfl)
    have HRE3 := Aside0.mk hre
    clear hre
    generalize hu2 : vr.enc = u2
    have HU2 := Lib.hid hu2
    clear hu2
    dsimp only [Option.isSome]
    go_wp2_with fail
    rw [← HU2.out]
    refine (FromC.use (impl_fromAny sortC HFD.out w3 (Below.refl _ _))).mono ?_
    rintro e w4 ⟨B3, d3, B4, d4, rfl, k3, k4, hb4⟩
    have hre := blk_below HRE3.out hb4
    have H4 := Aside0.mk (below_then H3.out H3.out.size hb4)
    have K3 : Aside0 (Kd.R Kd.string 9 w4 w3.heap.size (fun k => True ∧ w3.heap.size ≤ k ∧ k < w4.heap.size ∧ True) (.slice B3 d.I.f3.length d3) d.I.f3) := ⟨Kd.R_mono (Kd.R_bound k3) (fun k hk => ⟨trivial, hk.2.1, hk.2.2.1, trivial⟩)⟩
    have K4 : Aside0 (Kd.R kI 36 w4 w3.heap.size (fun k => True ∧ w3.heap.size ≤ k ∧ k < w4.heap.size ∧ True) (.slice B4 d.I.f4.length d4) d.I.f4) := ⟨Kd.R_mono (Kd.R_bound k4) (fun k hk => ⟨trivial, hk.2.1, hk.2.2.1, trivial⟩)⟩
    have HS3 : Hid (w.heap.size + 2 ≤ w3.heap.size) := Lib.hid (by have h1 := H3.out.size; have h2 := HS0.out; omega)
    have n0 : w4.cell? ⟨w.heap.size + 1, 0, none⟩ = some (.int .i64 0) := (blk_cell hre 0).trans rfl
    have n1 : w4.cell? ⟨w.heap.size + 1, 1, none⟩ = some (.int .i64 0) := (blk_cell hre 1).trans rfl
    have n2 : w4.cell? ⟨w.heap.size + 1, 2, none⟩ = some (.string ⟨#[]⟩) := (blk_cell hre 2).trans rfl
    have n3 : w4.cell? ⟨w.heap.size + 1, 3, none⟩ = some (.slice none 0 0) := (blk_cell hre 3).trans rfl
    have n4 : w4.cell? ⟨w.heap.size + 1, 4, none⟩ = some (.slice none 0 0) := (blk_cell hre 4).trans rfl
    have f0 := blk_frozen hre 0
    have f1 := blk_frozen hre 1
    have f2 := blk_frozen hre 2
    have f3 := blk_frozen hre 3
    have f4 := blk_frozen hre 4
    clear hre k3 k4 hb4
    generalize hzz : d.I = y at *
    unfold cellsI
    go_wp2
    refine bodyPost_ret (v := .tuple #[cellsI y B3 d3 B4 d4, .bool true]) (by unfold cellsI; simp [results, Tryd.results11, go_sem, *]) rfl ?_
    have hne : ∀ k, w3.heap.size ≤ k → k ≠ w.heap.size + 1 := fun k hk e => by have h1 := HS3.out; omega
    have q3 := Kd.R_reads' (R_far5 K3.out (w.heap.size + 1) (fun k hk => hne k hk.2.1) (.int .i64 y.f0) (.int .i64 y.f1) (.string y.f2) (.slice B3 y.f3.length d3) (.slice B4 y.f4.length d4))
    have q4 := Kd.R_reads' (R_far5 K4.out (w.heap.size + 1) (fun k hk => hne k hk.2.1) (.int .i64 y.f0) (.int .i64 y.f1) (.string y.f2) (.slice B3 y.f3.length d3) (.slice B4 y.f4.length d4))
    refine ⟨y, B3, d3, B4, d4, rfl, below5 (HB0.out.trans (H4.out.mono HB0.out.size)) _ (Nat.le_succ _) _ _ _ _ _, fun d' hd => ?_⟩
    injection hd with hd
    subst hd
    exact ⟨hzz.symm, B3, d3, B4, d4, rfl, q3.2.1, q3.2.2, q4.2.1, q4.2.2⟩
end Go.Proofs.YtgeamhmenmomhaaDoor.A
