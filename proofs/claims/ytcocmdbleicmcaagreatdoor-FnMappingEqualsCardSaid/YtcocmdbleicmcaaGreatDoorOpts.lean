/- The walk of impl.opts: what a map to pointers holds, told in rising order. -/
import Derived.Test.YtcocmdbleicmcaaGreatDoorTold
namespace Go.Proofs.YtcocmdbleicmcaaGreatDoor.M
set_option linter.unusedVariables false
set_option linter.unusedSimpArgs false
set_option linter.unusedSectionVars false
open Go.RowKit Go.Proofs.YtcocmdbleicmcaaGreatDoorW.PrintWords Go.Proofs.YtcocmdbleicmcaaGreatDoorW.PrintLast Go.Proofs.YtcocmdbleicmcaaGreatDoor.PX Go.Proofs.YtcocmdbleicmcaaGreatDoor.SM

abbrev PO := Option (Addr × ByteArray)
def encO : PO → Value
  | none => .pointer none
  | some p => .pointer (some p.1)
/-- What an entry tells. -/
def opO : ByteArray × PO → S76
  | (k, none) => ⟨k, ⟨#[]⟩, false⟩
  | (k, some p) => ⟨k, p.2, true⟩
theorem opO_key (p : ByteArray × PO) : (opO p).f0 = p.1 := by obtain ⟨k, _ | _⟩ := p <;> rfl
/-- The values that the entries point to. -/
def Held (w : World) (m : List (ByteArray × PO)) : Prop := ∀ k a s, (k, some (a, s)) ∈ m → w.cell? a = some (.string s)
theorem infoIO : (Tryz.prog.info? 76).map (fun i => (i.zero, i.size, i.bytes)) = some (some (.agg #[.string ⟨#[]⟩, .string ⟨#[]⟩, .bool false]), 3, 40) := by kernel_rfl
/-- The loop's relation: bb the box, r the iterator. -/
structure OptsAt (w : World) (b bb r : Nat) (m : List (ByteArray × PO)) (wr : World) (v : Value) (dl : List S76) (rm : List (ByteArray × PO)) : Prop where
  box : wr.heap[bb]? = some (.cells #[v] 30 (0, 0))
  row : Kd.R k76 76 wr (w.heap.size + 2) (fun _ => True) v dl
  rng : TRng wr b r encO m rm
  bel : Below w.heap.size w wr
  held : Held w m
  perm : ∃ ql, dl = ql.map opO ∧ (ql ++ rm).Perm m
theorem perm_delG {β : Type} : ∀ {rm : List (ByteArray × β)} {q : ByteArray × β}, (keys rm).Nodup → q ∈ rm → rm.Perm (q :: del rm q.1)
  | [], q, _, hq => by simp at hq
  | a :: l, q, hn, hq => by
    unfold keys at hn
    rw [List.map_cons, List.nodup_cons] at hn
    unfold del
    rw [List.filter_cons]
    by_cases e : a = q
    · subst e
      have : l.filter (fun x => decide (x.1 ≠ a.1)) = l := List.filter_eq_self.2 (fun b hb => by
        simp
        exact fun e => hn.1 (by rw [← e]; exact List.mem_map_of_mem hb))
      simp only [ne_eq, not_true_eq_false, decide_false, Bool.false_eq_true, if_false]
      rw [show List.filter (fun x => decide ¬x.fst = a.fst) l = l from this]
    · have hq' : q ∈ l := (List.mem_cons.1 hq).resolve_left (fun h => e h.symm)
      have hne : a.1 ≠ q.1 := fun e => hn.1 (by rw [e]; exact List.mem_map_of_mem hq')
      simp only [ne_eq, hne, not_false_eq_true, decide_true, if_true]
      exact (List.Perm.cons a (perm_delG hn.2 hq')).trans (List.Perm.swap q a _)
theorem perm_stepG {β : Type} {m rm dl' : List (ByteArray × β)} {q : ByteArray × β} (hn : (keys rm).Nodup) (hq : q ∈ rm) (h : (dl' ++ rm).Perm m) : (dl' ++ [q] ++ del rm q.1).Perm m := by
  rw [List.append_assoc]
  exact (List.Perm.append_left dl' (perm_delG hn hq).symm).trans h
def enc3 (x : S76) : List Value := [.string x.f0, .string x.f1, .bool x.f2]
instance : Inhabited S76 := ⟨z76⟩
def ltO (a b : S76) : Bool := Ord.lt a.f0 b.f0
theorem swoO : Go.Sort.SWO ltO := ⟨fun _ => Ord.lt_irrefl _, fun _ _ _ h k => Ord.lt_trans h k, fun x y z h k => by
  cases e : ltO x z
  · rfl
  · cases e2 : Ord.lt y.f0 x.f0
    · have h3 := Ord.lt_tri h e2
      have h4 : Ord.lt x.f0 z.f0 = true := e
      rw [h3] at h4
      exact absurd (h4.symm.trans k) (by decide)
    · have h4 : Ord.lt y.f0 z.f0 = true := Ord.lt_trans e2 e
      exact absurd (h4.symm.trans k) (by decide)⟩
set_option maxHeartbeats 2000000 in
theorem opts_less (Bs : Nat) (W : World) (blk c : Nat) (G : Array S76) (hs : W.cell? ⟨Bs, 0, none⟩ = some (.slice (some ⟨blk, 0, none⟩) G.size c)) (hc : ∀ j, j < G.size → ∀ c', c' < 3 → W.cell? ⟨blk, j * 3 + c', none⟩ = some ((enc3 G[j]!)[c']!)) (a b : Nat) (ha : a < G.size) (hb : b < G.size) :
    Calls Tryz.prog 91 #[.int .i64 a, .int .i64 b, .pointer (some ⟨Bs, 0, none⟩)] W fun e w' => e = .returned (.bool (ltO G[a]! G[b]!)) ∧ ∃ q, w' = W.drewN q := by
  have ca : W.cell? ⟨blk, a * 3, none⟩ = some (.string (G[a]!).f0) := hc a ha 0 (by decide)
  have cb : W.cell? ⟨blk, b * 3, none⟩ = some (.string (G[b]!).f0) := hc b hb 0 (by decide)
  obtain ⟨x, hx⟩ : ∃ x, x = G[a]! := ⟨_, rfl⟩
  obtain ⟨y, hy⟩ : ∃ y, y = G[b]! := ⟨_, rfl⟩
  rw [← hx] at ca ⊢
  rw [← hy] at cb ⊢
  clear hc hx hy
  go_enter Tryz.func91, Tryz.ntmps91
  go_wp2
  go_quiet (fail)
  go_wp2
  go_ret
  exact ⟨rfl, nq, rfl⟩
noncomputable def tiTo : TypeInfo := (Tryz.prog.info? 30).get (by kernel_rfl)
noncomputable def tiEo : TypeInfo := (Tryz.prog.info? 76).get (by kernel_rfl)
theorem tiKo (n : Nat) (h2 : 2 ≤ n) : Lib.swapperK n tiEo 25 = 9 := by
  have a : tiEo.hasPointers = true := by kernel_rfl
  have b : tiEo.bytes = 40 := by kernel_rfl
  have c : (n == 0) = false := by simp; omega
  have d : (n == 1) = false := by simp; omega
  simp [Lib.swapperK, a, b, c, d]
theorem ownO {w : World} {base : Nat} {v : Value} {l : List S76} {ok : Nat → Prop} (h : Kd.R k76 76 w base ok v l) : w.ownsRow base 76 3 v l.length (l.flatMap enc3) := by
  obtain ⟨_, inner, ho, hr⟩ := h
  have := Srt.flat_of_reps (enc := enc3) (k := 3) (fun x cs hx => k76_openM hx) (fun _ => rfl) (by decide) hr
  rw [← this]
  exact ho
theorem kdO {w : World} {base : Nat} {v : Value} {l : List S76} (h : w.ownsRow base 76 3 v l.length (l.flatMap enc3)) : Kd.R k76 76 w base (fun _ => True) v l :=
  ⟨fun _ _ => trivial, _, h, Srt.reps_of_flat (enc := enc3) (k := 3) (fun x => k76_mkM _ _ _ _) (fun _ => rfl) l⟩
/-- The call of sort.Slice in told. -/
theorem opts_sort (Bs : Nat) (W : World) (base : Nat) (v : Value) (l : List S76) (h : Kd.R k76 76 W base (fun _ => True) v l) (hbx : W.cell? ⟨Bs, 0, none⟩ = some v) (hne : v.ownBlock ≠ some Bs) (hlen : l.length < 4611686018427387904) :
    Calls Tryz.prog 85 #[.iface 30 v, .func (.func 91) #[] #[.pointer (some ⟨Bs, 0, none⟩)]] W fun en w' =>
      en = .returned (.tuple #[]) ∧ ∃ l' : List S76, l'.Perm l ∧ l'.Pairwise (fun a b => ltO b a = false) ∧ Kd.R k76 76 w' base (fun _ => True) v l' ∧ W.grownBy w' v.ownBlock := by
  have h1 := Srt.sort_own (P := Tryz.prog) (enc := enc3) (k := 3) Tryz.laysGg6 30 76 tiTo tiEo (by kernel_rfl) (by kernel_rfl) (by kernel_rfl) (by kernel_rfl) 25 (fun _ => by kernel_rfl) (fun _ => rfl) (by decide) (by kernel_rfl) (fun _ => by kernel_rfl) (fun x v hv => by simp [enc3] at hv; rcases hv with rfl | rfl | rfl <;> rfl) ltO swoO 91
    (Go.Proofs.enters_of Tryz.func91 (by kernel_rfl) rfl) 114 115 122 (by kernel_rfl) (by kernel_rfl) 9 tiKo (by kernel_rfl) false
    (fun args W => run_callFunc_extern Tryz.func122 (by kernel_rfl) (by kernel_rfl) (by kernel_rfl) (e := Extern.ReflectliteSwapper.swap false) (by kernel_rfl) args W) Bs (opts_less Bs) W base v l (ownO h) hbx hne hlen
  exact h1.mono fun en w' ⟨he, l', hp, hs, ho, hg⟩ => ⟨he, l', hp, hs, kdO ho, hg⟩
theorem asc_ofO {m : List (ByteArray × PO)} {l : List S76} (hn : (keys m).Nodup) (hp : l.Perm (m.map opO)) (hs : l.Pairwise (fun a b => ltO b a = false)) : Ord.Asc S76.f0 l := by
  have h1 : (l.map (fun x => x.f0)).Nodup := by
    refine (hp.map (fun x : S76 => x.f0)).nodup_iff.2 ?_
    rw [List.map_map]
    have : ((fun x : S76 => x.f0) ∘ opO) = (fun p : ByteArray × PO => p.1) := funext opO_key
    rw [this]; exact hn
  have h2 : l.Pairwise (fun a b => a.f0 ≠ b.f0) := List.pairwise_map.1 h1
  refine (hs.and h2).imp (fun {a b} h => ?_)
  cases e : Ord.lt a.f0 b.f0
  · exact absurd (Ord.lt_tri e h.1) h.2
  · rfl
set_option maxRecDepth 100000 in
set_option maxHeartbeats 2000000 in
theorem impl_opts (b : Nat) (m : List (ByteArray × PO)) (w : World) (hm : TMap w b encO m) (hheld : Held w m) (hl : m.length ≤ 1099511627776) :
    Calls Tryz.prog 60 #[.map (some b)] w fun e w' => ∃ v l, e = .returned v ∧ Kd.R k76 76 w' w.heap.size (fun _ => True) v l ∧ Ord.Asc S76.f0 l ∧ l.Perm (m.map opO) ∧ Below w.heap.size w w' := by
  have H1 := Aside0.mk hm
  have hbl := hm.lt
  have hnd := Lib.hid hm.nodup
  have HH := Lib.hid hheld
  clear hm hheld
  go_enter Tryz.func60, Tryz.ntmps60
  go_wp2_with (at_range; go_loud (refine wp_range rfl _ rfl Tryz.underlying79 rfl (H1.out.below ?b1) (w0 := w) (B := w.heap.size) ?b2 ?b3 ?_; (case b1 => repeat (first | exact Below.refl _ _ | apply below_alloc)); (case b2 => repeat (first | exact Below.refl _ _ | apply below_alloc)); (case b3 => simp); intro w1 r hr ht hb hg _; have HT := Aside0.mk ht; have HB1 := Aside0.mk hb; have HX1 := Aside0.mk ((hg.block w.heap.size (by simp) (by simp)).trans (heap_alloc_new w _)); have hr1 : r = w.heap.size + 1 := hr.trans (by first | rfl | simp); have HR := Lib.hid hr1; clear ht hb hg hr hr1))
  go_frame
  go_loopw [] (fun wr => ∃ (v : Value) (dl : List S76) (rm : List (ByteArray × PO)), Aside0 (OptsAt w b w.heap.size r m wr v dl rm)) (fun wr => wr.rangeLeft b r)
  case atStart => exact ⟨_, [], m, ⟨HX1.out, Kd.R_nil _ _ _ _ _, HT.out, HB1.out, HH.out, [], rfl, by simp⟩⟩
  case round =>
    obtain ⟨v, dl, rm, HA⟩ := hrel
    have hsz : w.heap.size + 2 ≤ wr.heap.size := by have := HA.out.rng.lt; rw [HR.out] at this; omega
    go_wp2_with (at_next; refine wp_next rfl _ rfl rfl ?n1 HA.out.rng HA.out.bel ?n2 ?_ ?_; (case n1 => have := HR.out; omega); (case n2 => have := HR.out; omega))
    · intro hrm
      subst hrm
      have hbx := blk_cell HA.out.box 0
      have hfr := blk_frozen HA.out.box 0
      replace hbx : wr.cell? ⟨w.heap.size, 0, none⟩ = some v := hbx
      have hne : v.ownBlock ≠ some w.heap.size := fun e => by have := Kd.R_base HA.out.row _ e; omega
      have hll : dl.length < 4611686018427387904 := by
        obtain ⟨ql, e, hpe⟩ := HA.out.perm
        have := hpe.length_eq
        rw [e, List.length_map]
        simp at this
        omega
      have hS := opts_sort w.heap.size wr _ v dl HA.out.row hbx hne hll
      have HS := Lib.hid hS
      have HNE := Lib.hid hne
      clear hS hne hll
      go_wp2_with (go_at_call 85; refine HS.out.mono ?_; rintro e w3 ⟨rfl, l', hp3, hs3, ho3, hg3⟩; have hb3 : w3.cell? ⟨w.heap.size, 0, none⟩ = some v := (World.cell?_of_block (hg3.block w.heap.size (by omega) (fun e => HNE.out e.symm))).trans hbx; have HP3 := Aside0.mk hp3; have HS3 := Aside0.mk hs3; have HO3 := Aside0.mk ho3; have HG3 := Aside0.mk hg3; clear hp3 hs3 ho3 hg3 hbx hfr)
      go_ret
      have hpm : l'.Perm (m.map opO) := HP3.out.trans (by obtain ⟨ql, e, hpe⟩ := HA.out.perm; rw [e]; rw [List.append_nil] at hpe; exact hpe.map opO)
      exact ⟨_, l', rfl, Kd.R_lower HO3.out (by omega), asc_ofO hnd.out hpm HS3.out, hpm, HA.out.bel.grown HG3.out HA.out.bel.size (fun k hk => by have := Kd.R_base HA.out.row k hk; omega)⟩
    · intro qk qv w2 hq ht2 hb2 hg2 hs2 hen
      have hsz2 : w.heap.size + 2 ≤ w2.heap.size := by omega
      have HBX := Aside0.mk ((hg2.block w.heap.size (by omega) (by have := HR.out; intro e; injection e with e; omega)).trans HA.out.box)
      have HRW := Aside0.mk (Kd.R_grown (Kd.R_bound HA.out.row) hg2 (fun k hk e => by
        obtain ⟨_, _, _, q, _, cells, hc⟩ := hk
        injection e with e
        subst e
        obtain ⟨es, clock, since, seen, c0, _, _, _, hr', _⟩ := HA.out.rng
        rw [hr'] at hc
        cases hc))
      have HT2 := Aside0.mk ht2
      have HB2 := Aside0.mk hb2
      have HL := Lib.hid (show (del rm qk).length < rm.length from Nat.lt_of_lt_of_eq (Nat.lt_succ_self _) (length_del (p := (qk, qv)) HA.out.rng.nodup hq))
      have HPM : Aside0 (∃ ql, dl ++ [opO (qk, qv)] = ql.map opO ∧ (ql ++ del rm qk).Perm m) := ⟨by
        obtain ⟨ql, e, hpe⟩ := HA.out.perm
        exact ⟨ql ++ [(qk, qv)], by rw [e]; simp, perm_stepG HA.out.rng.nodup hq hpe⟩⟩
      have hmem : (qk, qv) ∈ m := by
        obtain ⟨ql, e, hpe⟩ := HA.out.perm
        exact hpe.mem_iff.1 (List.mem_append_right _ hq)
      have hdl : dl.length < m.length := by
        obtain ⟨ql, e, hpe⟩ := HPM.out
        have h1 := hpe.length_eq
        have h2 := congrArg List.length e
        simp at h1 h2
        omega
      have hbx := blk_cell HBX.out 0
      replace hbx : w2.cell? ⟨w.heap.size, 0, none⟩ = some v := hbx
      clear hq ht2 hb2 hg2 hs2
      have hnb : v.ownBlock ≠ some w.heap.size := fun e => by have := Kd.R_base HA.out.row _ e; omega
      have hnr : v.ownBlock ≠ some r := fun e => by
        obtain ⟨cells, hc⟩ := Kd.R_typed HA.out.row _ e
        obtain ⟨es, clock, since, seen, c0, _, _, _, hr', _⟩ := HA.out.rng
        rw [hr'] at hc
        cases hc
      have hnB : v.ownBlock ≠ some b := fun e => by have := Kd.R_base HA.out.row _ e; omega
      have HNB := Lib.hid hnb
      have HNR := Lib.hid hnr
      have HNBB := Lib.hid hnB
      have HBS := Aside0.mk (Kd.R_base HA.out.row)
      clear hnb hnr hnB
      cases qv with
      | none =>
        have he : encO none = Value.pointer none := rfl
        replace HPM : Aside0 (∃ ql, dl ++ [(⟨qk, (⟨#[]⟩ : ByteArray), false⟩ : S76)] = ql.map opO ∧ (ql ++ del rm qk).Perm m) := HPM
        go_wp2_with (at_builtin; refine Kd.R_append k76 (w0 := w2) (w.heap.size + 2) rfl _ _ 30 76 (.agg #[.string ⟨#[]⟩, .string ⟨#[]⟩, .bool false]) 40 rfl Tryz.underlying30 infoIO rfl (by decide) (by decide) v dl ⟨qk, (⟨#[]⟩ : ByteArray), false⟩ [.string qk, .string (⟨#[]⟩ : ByteArray), .bool false] (fun _ => True) (fun _ => False) rfl rfl ?hp (fun _ h => h.elim) (fun _ _ => trivial) ?hO ?hB ?hS ?hL ?_; (case hp => exact k76_mkM _ _ _ _); (case hO => exact Kd.R_mono HRW.out (fun _ _ => trivial)); (case hB => exact Below.refl _ _); (case hS => exact hsz2); (case hL => omega); intro v1 w3 ho3 hb3 hg3 hat3; obtain ⟨Ao, co, eo⟩ := Kd.R_slice ho3; subst eo; rw [List.length_append, List.length_singleton] at ho3; have hbx3 : w3.cell? ⟨w.heap.size, 0, none⟩ = some v := (World.cell?_of_block (hg3.block w.heap.size (by omega) (fun e => HNB.out e.symm))).trans hbx; have HBX3 := Aside0.mk ((hg3.block w.heap.size (by omega) (fun e => HNB.out e.symm)).trans HBX.out); have hfr3 := blk_frozen HBX3.out 0; have HO3 := Aside0.mk ho3; have HG3 := Aside0.mk hg3; clear ho3 hb3 hg3 hat3)
        have HT3 := Aside0.mk (HT2.out.grown HG3.out (fun e => HNBB.out e.symm) (fun e => HNR.out e.symm))
        go_roundw
        case rel =>
          refine ⟨_, dl ++ [⟨qk, (⟨#[]⟩ : ByteArray), false⟩], del rm qk, ⟨⟨blk_put HBX3.out 0 _ rfl, ?_, SRng.set HT3.out _ _, ?_, ?_, ?_⟩⟩⟩
          · exact Kd.R_mono (Kd.R_far (p := ⟨w.heap.size, 0, none⟩) (Kd.R_bound HO3.out) (fun k hk => by have := hk.2.1; show k ≠ w.heap.size; omega) _) (fun _ _ => trivial)
          · exact (HB2.out.grown HG3.out HB2.out.size (fun k hk => by have := HBS.out k hk; omega)).setCell (Nat.le_refl _) _
          · exact HH.out
          · exact HPM.out
        case measure =>
          have h1 : TRng (w3.setCell ⟨w.heap.size, 0, none⟩ (.slice Ao (dl.length + 1) co)) b r encO m (del rm qk) := SRng.set HT3.out _ _
          rw [h1.left_eq, HA.out.rng.left_eq]
          exact HL.out
      | some p =>
        obtain ⟨a, s⟩ := p
        have he : encO (some (a, s)) = Value.pointer (some a) := rfl
        have hc0 := HH.out qk a s hmem
        have hcell : w2.cell? a = some (.string s) := (HB2.out.cell (World.block_lt_of_cell? w _ hc0)).trans hc0
        clear hc0
        replace HPM : Aside0 (∃ ql, dl ++ [(⟨qk, s, true⟩ : S76)] = ql.map opO ∧ (ql ++ del rm qk).Perm m) := HPM
        have hab : a.block < w.heap.size := World.block_lt_of_cell? w _ (HH.out qk a s hmem)
        clear hmem
        go_upto_region 6 with (fail)
        refine start_ (n := 9) (S := fun w' => w'.cell? ⟨w.heap.size, 0, none⟩ = some v ∧ w'.cell? a = some (.string s)) (ds := [8]) #[false, false, false, false, false, false, false, false, false] (by kernel_rfl) rfl rfl ⟨hbx, hcell⟩ (fun hHeld => ?_)
        refine pure_ (i := 1) (N := some 16) (v := ?_) (a' := ?_) #[false, true, false, false, false, false, false, false, false] rfl rfl (by kernel_rfl) (fun _ _ _ h => h) (Or.inl ⟨by rfl, ?_⟩) ?_ ?_
        rotate_left
        · intro w'
          go_simp
          with_reducible rfl
        rotate_left
        · simp only [Act.put, List.setIfInBounds_toArray, List.set_cons_zero, List.set_cons_succ, i64_w, i32_w]
          rfl
        refine pure_ (i := 2) (N := some 17) (v := ?_) (a' := ?_) #[false, true, true, false, false, false, false, false, false] rfl rfl (by kernel_rfl) (fun _ _ _ h => h) (Or.inl ⟨by rfl, ?_⟩) ?_ ?_
        rotate_left
        · intro w'
          go_simp
          with_reducible rfl
        rotate_left
        · simp only [Act.put, List.setIfInBounds_toArray, List.set_cons_zero, List.set_cons_succ, i64_w, i32_w]
          rfl
        refine pure_ (i := 3) (N := some 18) (v := ?_) (a' := ?_) #[false, true, true, true, false, false, false, false, false] rfl rfl (by kernel_rfl) (fun _ _ _ h => h) (Or.inl ⟨by rfl, ?_⟩) ?_ ?_
        rotate_left
        · intro w'
          go_simp
          with_reducible rfl
        rotate_left
        · simp only [Act.put, List.setIfInBounds_toArray, List.set_cons_zero, List.set_cons_succ, i64_w, i32_w]
          rfl
        refine take_ (i := 0) (N := some 15) (v := ?_) (a' := ?_) #[true, true, true, true, false, false, false, false, false] rfl rfl (by kernel_rfl) (fun _ _ _ h => h) (Or.inl ⟨by rfl, ?_⟩) hHeld ?_ ?_
        rotate_left
        · rintro w' ⟨s0, s1⟩
          go_simp
          with_reducible rfl
        rotate_left
        · simp only [Act.put, List.setIfInBounds_toArray, List.set_cons_zero, List.set_cons_succ, i64_w, i32_w]
          rfl
        refine take_ (i := 4) (N := some 19) (v := ?_) (a' := ?_) #[true, true, true, true, true, false, false, false, false] rfl rfl (by kernel_rfl) (fun _ _ _ h => h) (Or.inl ⟨by rfl, ?_⟩) hHeld ?_ ?_
        rotate_left
        · rintro w' ⟨s0, s1⟩
          go_simp
          with_reducible rfl
        rotate_left
        · simp only [Act.put, List.setIfInBounds_toArray, List.set_cons_zero, List.set_cons_succ, i64_w, i32_w]
          rfl
        refine pure_ (i := 5) (N := some 20) (v := ?_) (a' := ?_) #[true, true, true, true, true, true, false, false, false] rfl rfl (by kernel_rfl) (fun _ _ _ h => h) (Or.inl ⟨by rfl, ?_⟩) ?_ ?_
        rotate_left
        · intro w'
          go_simp
          with_reducible rfl
        rotate_left
        · simp only [Act.put, List.setIfInBounds_toArray, List.set_cons_zero, List.set_cons_succ, i64_w, i32_w]
          rfl
        refine one_ (i := 6) (N := some 21) #[true, true, true, true, true, true, true, false, false] rfl rfl (by kernel_rfl) (by decide) (fun K hK => ?_)
        refine Kd.R_lit_step k76 (w0 := w2) (w.heap.size + 2) 76 ?hg (N := 21) ?hd (xs := [⟨qk, s, true⟩]) (inner := [.string qk, .string s, .bool true]) (ok := fun _ => True) (okp := fun _ => True) ?hr ?hp (fun _ hk => hk) trivial ?hB ?hS (by simp) ?_; (case hd => rfl); (case hg => rfl); (case hr => first | (go_simp; done) | (go_simp; rfl)); (case hp => exact Reps.snoc (ps := []) (cs := []) (Reps.none _ _) (k76_mkM _ _ _ _) rfl); (case hB => repeat (first | (with_reducible first | exact Below.refl _ _ | apply below_alloc | apply pw_below_drewN | apply below_drew1) | exact Below.refl _ _)); (case hS => first | exact hsz2 | exact Nat.le_trans hsz2 (Nat.le_of_eq rfl))
        intro v21 w6 ho6 hb6 hg6 hn6
        have HRW6 := Aside0.mk (Kd.R_grown (by (with_reducible repeat (first | apply Kd.R_drewN | apply Kd.R_drew)); exact HRW.out) hg6 (fun _ _ h => by cases h))
        obtain ⟨A6, c6, rfl, hl6, hC6⟩ := Kd.R_reads ho6
        have HC6 := Aside0.mk hC6
        have HB6 := Aside0.mk hb6
        have hd0 : w6.cell? ⟨w.heap.size, 0, none⟩ = some v := (hb6.cell (show w.heap.size < w.heap.size + 2 by omega)).trans hbx
        have hd1 : w6.cell? a = some (.string s) := (hb6.cell (show a.block < w.heap.size + 2 by omega)).trans hcell
        clear ho6 hb6 hg6 hn6 hC6 hl6
        refine hK.out _ _ ⟨hd0, hd1⟩ (fun hHeld => ?_)
        clear hK K
        refine norm_ (a' := ?_) ?_ ?_
        rotate_left
        · show Act.put _ (some 21) _ = _
          simp only [Act.put, List.setIfInBounds_toArray, List.set_cons_zero, List.set_cons_succ, i64_w, i32_w]
          rfl
        refine one_ (i := 7) (N := some 22) #[true, true, true, true, true, true, true, true, false] rfl rfl (by kernel_rfl) (by decide) (fun K hK => ?_)
        refine Kd.R_append_rows_step k76 (Rr := fun x_ cs_ => k76.K w6 x_ cs_) (w0 := w2) (w.heap.size + 2) (by rfl) (.tmp 15) (.tmp 21) 30 76 (.agg #[.string ⟨#[]⟩, .string ⟨#[]⟩, .bool false]) 40 rfl Tryz.underlying30 infoIO rfl (by decide) (by decide) v dl [⟨qk, s, true⟩] A6 _ _ (fun _ => True) (fun _ => False) rfl rfl ?hO ?hR (fun x_ cs_ h_ => by rw [k76_open h_]; exact k76_mkM _ _ _ _) (fun _ h_ => h_.elim) (fun _ _ => trivial) ?hB ?hS ?hL ?_; (case hO => exact Kd.R_mono HRW6.out (fun _ _ => trivial)); (case hR => exact HC6.out); (case hB => exact HB6.out); (case hS => exact Nat.le_trans hsz2 HB6.out.size); (case hL => simp only [List.length_singleton]; omega)
        intro v1 w3 ho3 hb3 hg3 hat3
        obtain ⟨Ao, co, eo⟩ := Kd.R_slice ho3
        subst eo
        rw [List.length_append, List.length_singleton] at ho3
        have hbx3 : w3.cell? ⟨w.heap.size, 0, none⟩ = some v := (hb3.cell (show w.heap.size < w.heap.size + 2 by omega)).trans hbx
        have HBX3 := Aside0.mk ((hb3.block w.heap.size (by omega)).trans HBX.out)
        have hfr3 := blk_frozen HBX3.out 0
        have HO3 := Aside0.mk ho3
        have HB3 := Aside0.mk hb3
        clear ho3 hb3 hg3 hat3
        refine hK.out _ _ ⟨hbx3, ((HB3.out.cell (show a.block < w.heap.size + 2 by omega)).trans hcell)⟩ (fun hHeld => ?_)
        clear hK K
        refine norm_ (a' := ?_) ?_ ?_
        rotate_left
        · show Act.put _ (some 22) _ = _
          simp only [Act.put, List.setIfInBounds_toArray, List.set_cons_zero, List.set_cons_succ, i64_w, i32_w]
          rfl
        refine last_ (i := 8) (N := none) #[true, true, true, true, true, true, true, true, true] rfl rfl (by kernel_rfl) (by decide) (fun K hK => ?_)
        refine skip_ (w1 := ?_) (by rfl) rfl ?_ ?_
        rotate_left
        · go_simp
          rfl
        refine hK.out _ _ ?_
        clear hK K
        refine done_ (by kernel_rfl) ?_
        
        go_wp2
        have HT3 := Aside0.mk (SRng.move HT2.out (HB3.out.block b (by omega)) (HB3.out.block r (by have := HR.out; omega)))
        go_roundw
        case rel =>
          refine ⟨_, dl ++ [⟨qk, s, true⟩], del rm qk, ⟨⟨blk_put HBX3.out 0 _ rfl, ?_, SRng.set HT3.out _ _, ?_, ?_, ?_⟩⟩⟩
          · exact Kd.R_mono (Kd.R_far (p := ⟨w.heap.size, 0, none⟩) (Kd.R_bound HO3.out) (fun k hk => by have := hk.2.1; show k ≠ w.heap.size; omega) _) (fun _ _ => trivial)
          · exact (HB2.out.trans (HB3.out.mono (by omega))).setCell (Nat.le_refl _) _
          · exact HH.out
          · exact HPM.out
        case measure =>
          have h1 : TRng (w3.setCell ⟨w.heap.size, 0, none⟩ (.slice Ao (dl.length + 1) co)) b r encO m (del rm qk) := SRng.set HT3.out _ _
          rw [h1.left_eq, HA.out.rng.left_eq]
          exact HL.out
end Go.Proofs.YtcocmdbleicmcaaGreatDoor.M
