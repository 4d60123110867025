/- Walks: what a map of texts holds, told as pairs in rising order. -/
import Derived.Test.YtcocmdbleicmcaaGreatDoorMapA
import Derived.Test.YtcocmdbleicmcaaGreatDoorShelf
import Derived.Test.YtcocmdbleicmcaaGreatDoorSort
import Derived.Lib.SortBridge
namespace Go.Proofs.YtcocmdbleicmcaaGreatDoor.M
set_option linter.unusedVariables false
set_option linter.unusedSimpArgs false
set_option linter.unusedSectionVars false
open Go.RowKit Go.Proofs.YtcocmdbleicmcaaGreatDoorW.PrintWords Go.Proofs.YtcocmdbleicmcaaGreatDoorW.PrintLast Go.Proofs.YtcocmdbleicmcaaGreatDoor.PX Go.Proofs.YtcocmdbleicmcaaGreatDoor.SM

def tpI (x : S89) : ByteArray × ByteArray := (x.f0, x.f1)
theorem infoI : (Tryz.prog.info? 89).map (fun i => (i.zero, i.size, i.bytes)) = some (some (.agg #[.string ⟨#[]⟩, .string ⟨#[]⟩]), 2, 32) := by kernel_rfl
/-- The loop's relation: bb the box, r the iterator. -/
structure ToldAt (w : World) (b bb r : Nat) (m : List (ByteArray × ByteArray)) (wr : World) (v : Value) (dl : List S89) (rm : List (ByteArray × ByteArray)) : Prop where
  box : wr.heap[bb]? = some (.cells #[v] 36 (0, 0))
  row : Kd.R k89 89 wr (w.heap.size + 2) (fun _ => True) v dl
  rng : TRng wr b r Value.string m rm
  bel : Below w.heap.size w wr
  perm : (dl.map tpI ++ rm).Perm m
theorem perm_del : ∀ {rm : List (ByteArray × ByteArray)} {q : ByteArray × ByteArray}, (keys rm).Nodup → q ∈ rm → rm.Perm (q :: del rm q.1)
  | [], q, _, hq => by simp at hq
  | a :: l, q, hn, hq => by
    unfold keys at hn
    rw [List.map_cons, List.nodup_cons] at hn
    unfold del
    rw [List.filter_cons]
    by_cases e : a = q
    · subst e
      have : l.filter (fun x => decide (x.1 ≠ a.1)) = l := List.filter_eq_self.2 (fun b hb => by
        simp
        exact fun e => hn.1 (by rw [← e]; exact List.mem_map_of_mem hb))
      simp only [ne_eq, not_true_eq_false, decide_false, Bool.false_eq_true, if_false]
      rw [show List.filter (fun x => decide ¬x.fst = a.fst) l = l from this]
    · have hq' : q ∈ l := (List.mem_cons.1 hq).resolve_left (fun h => e h.symm)
      have hne : a.1 ≠ q.1 := fun e => hn.1 (by rw [e]; exact List.mem_map_of_mem hq')
      simp only [ne_eq, hne, not_false_eq_true, decide_true, if_true]
      exact (List.Perm.cons a (perm_del hn.2 hq')).trans (List.Perm.swap q a _)
theorem perm_step {m rm dl' : List (ByteArray × ByteArray)} {q : ByteArray × ByteArray} (hn : (keys rm).Nodup) (hq : q ∈ rm) (h : (dl' ++ rm).Perm m) : (dl' ++ [q] ++ del rm q.1).Perm m := by
  rw [List.append_assoc]
  exact (List.Perm.append_left dl' (perm_del hn hq).symm).trans h
def encI (x : S89) : List Value := [.string x.f0, .string x.f1]
instance : Inhabited S89 := ⟨z89⟩
def ltI (a b : S89) : Bool := Ord.lt a.f0 b.f0
theorem swoI : Go.Sort.SWO ltI := ⟨fun _ => Ord.lt_irrefl _, fun _ _ _ h k => Ord.lt_trans h k, fun x y z h k => by
  cases e : ltI x z
  · rfl
  · cases e2 : Ord.lt y.f0 x.f0
    · have h3 := Ord.lt_tri h e2
      have h4 : Ord.lt x.f0 z.f0 = true := e
      rw [h3] at h4
      exact absurd (h4.symm.trans k) (by decide)
    · have h4 : Ord.lt y.f0 z.f0 = true := Ord.lt_trans e2 e
      exact absurd (h4.symm.trans k) (by decide)⟩
set_option maxHeartbeats 2000000 in
theorem told_less (Bs : Nat) (W : World) (blk c : Nat) (G : Array S89) (hs : W.cell? ⟨Bs, 0, none⟩ = some (.slice (some ⟨blk, 0, none⟩) G.size c)) (hc : ∀ j, j < G.size → ∀ c', c' < 2 → W.cell? ⟨blk, j * 2 + c', none⟩ = some ((encI G[j]!)[c']!)) (a b : Nat) (ha : a < G.size) (hb : b < G.size) :
    Calls Tryz.prog 93 #[.int .i64 a, .int .i64 b, .pointer (some ⟨Bs, 0, none⟩)] W fun e w' => e = .returned (.bool (ltI G[a]! G[b]!)) ∧ ∃ q, w' = W.drewN q := by
  have ca : W.cell? ⟨blk, a * 2, none⟩ = some (.string (G[a]!).f0) := hc a ha 0 (by decide)
  have cb : W.cell? ⟨blk, b * 2, none⟩ = some (.string (G[b]!).f0) := hc b hb 0 (by decide)
  obtain ⟨x, hx⟩ : ∃ x, x = G[a]! := ⟨_, rfl⟩
  obtain ⟨y, hy⟩ : ∃ y, y = G[b]! := ⟨_, rfl⟩
  rw [← hx] at ca ⊢
  rw [← hy] at cb ⊢
  clear hc hx hy
  go_enter Tryz.func93, Tryz.ntmps93
  go_wp2
  go_quiet (fail)
  go_wp2
  go_ret
  exact ⟨rfl, nq, rfl⟩
noncomputable def tiT : TypeInfo := (Tryz.prog.info? 36).get (by kernel_rfl)
noncomputable def tiE : TypeInfo := (Tryz.prog.info? 89).get (by kernel_rfl)
theorem tiK (n : Nat) (h2 : 2 ≤ n) : Lib.swapperK n tiE 25 = 9 := by
  have a : tiE.hasPointers = true := by kernel_rfl
  have b : tiE.bytes = 32 := by kernel_rfl
  have c : (n == 0) = false := by simp; omega
  have d : (n == 1) = false := by simp; omega
  simp [Lib.swapperK, a, b, c, d]
theorem ownI {w : World} {base : Nat} {v : Value} {l : List S89} {ok : Nat → Prop} (h : Kd.R k89 89 w base ok v l) : w.ownsRow base 89 2 v l.length (l.flatMap encI) := by
  obtain ⟨_, inner, ho, hr⟩ := h
  have := Srt.flat_of_reps (enc := encI) (k := 2) (fun x cs hx => k89_openM hx) (fun _ => rfl) (by decide) hr
  rw [← this]
  exact ho
theorem kdI {w : World} {base : Nat} {v : Value} {l : List S89} (h : w.ownsRow base 89 2 v l.length (l.flatMap encI)) : Kd.R k89 89 w base (fun _ => True) v l :=
  ⟨fun _ _ => trivial, _, h, Srt.reps_of_flat (enc := encI) (k := 2) (fun x => k89_mkM _ _ _ _) (fun _ => rfl) l⟩
/-- The call of sort.Slice in told. -/
theorem told_sort (Bs : Nat) (W : World) (base : Nat) (v : Value) (l : List S89) (h : Kd.R k89 89 W base (fun _ => True) v l) (hbx : W.cell? ⟨Bs, 0, none⟩ = some v) (hne : v.ownBlock ≠ some Bs) (hlen : l.length < 4611686018427387904) :
    Calls Tryz.prog 85 #[.iface 36 v, .func (.func 93) #[] #[.pointer (some ⟨Bs, 0, none⟩)]] W fun en w' =>
      en = .returned (.tuple #[]) ∧ ∃ l' : List S89, l'.Perm l ∧ l'.Pairwise (fun a b => ltI b a = false) ∧ Kd.R k89 89 w' base (fun _ => True) v l' ∧ W.grownBy w' v.ownBlock := by
  have h1 := Srt.sort_own (P := Tryz.prog) (enc := encI) (k := 2) Tryz.laysGg6 36 89 tiT tiE (by kernel_rfl) (by kernel_rfl) (by kernel_rfl) (by kernel_rfl) 25 (fun _ => by kernel_rfl) (fun _ => rfl) (by decide) (by kernel_rfl) (fun _ => by kernel_rfl) (fun x v hv => by simp [encI] at hv; rcases hv with rfl | rfl <;> rfl) ltI swoI 93
    (Go.Proofs.enters_of Tryz.func93 (by kernel_rfl) rfl) 114 115 122 (by kernel_rfl) (by kernel_rfl) 9 tiK (by kernel_rfl) false
    (fun args W => run_callFunc_extern Tryz.func122 (by kernel_rfl) (by kernel_rfl) (by kernel_rfl) (e := Extern.ReflectliteSwapper.swap false) (by kernel_rfl) args W) Bs (told_less Bs) W base v l (ownI h) hbx hne hlen
  exact h1.mono fun en w' ⟨he, l', hp, hs, ho, hg⟩ => ⟨he, l', hp, hs, kdI ho, hg⟩
theorem asc_of {m : List (ByteArray × ByteArray)} {l : List S89} (hn : (keys m).Nodup) (hp : (l.map tpI).Perm m) (hs : l.Pairwise (fun a b => ltI b a = false)) : Ord.Asc S89.f0 l := by
  have h1 : (keys (l.map tpI)).Nodup := (hp.map (fun p : ByteArray × ByteArray => p.1)).nodup_iff.2 hn
  unfold keys at h1
  rw [List.map_map] at h1
  have h2 : l.Pairwise (fun a b => a.f0 ≠ b.f0) := by
    have := List.pairwise_map.1 h1
    exact this
  refine (hs.and h2).imp (fun {a b} h => ?_)
  cases e : Ord.lt a.f0 b.f0
  · exact absurd (Ord.lt_tri e h.1) h.2
  · rfl
set_option maxRecDepth 100000 in
set_option maxHeartbeats 2000000 in
theorem impl_told (b : Nat) (m : List (ByteArray × ByteArray)) (w : World) (hm : TMap w b Value.string m) (hl : m.length ≤ 1099511627776) :
    Calls Tryz.prog 65 #[.map (some b)] w fun e w' => ∃ v l, e = .returned v ∧ Kd.R k89 89 w' w.heap.size (fun _ => True) v l ∧ Ord.Asc S89.f0 l ∧ (l.map tpI).Perm m ∧ Below w.heap.size w w' := by
  have H1 := Aside0.mk hm
  have hbl := hm.lt
  have hnd := Lib.hid hm.nodup
  clear hm
  go_enter Tryz.func65, Tryz.ntmps65
  go_wp2_with (at_range; go_loud (refine wp_range rfl _ rfl Tryz.underlying85 rfl (H1.out.below ?b1) (w0 := w) (B := w.heap.size) ?b2 ?b3 ?_; (case b1 => repeat (first | exact Below.refl _ _ | apply below_alloc)); (case b2 => repeat (first | exact Below.refl _ _ | apply below_alloc)); (case b3 => simp); intro w1 r hr ht hb hg _; have HT := Aside0.mk ht; have HB1 := Aside0.mk hb; have HX1 := Aside0.mk ((hg.block w.heap.size (by simp) (by simp)).trans (heap_alloc_new w _)); have hr1 : r = w.heap.size + 1 := hr.trans (by first | rfl | simp); have HR := Lib.hid hr1; clear ht hb hg hr hr1))
  go_frame
  go_loopw [] (fun wr => ∃ (v : Value) (dl : List S89) (rm : List (ByteArray × ByteArray)), Aside0 (ToldAt w b w.heap.size r m wr v dl rm)) (fun wr => wr.rangeLeft b r)
  case atStart => exact ⟨_, [], m, ⟨HX1.out, Kd.R_nil _ _ _ _ _, HT.out, HB1.out, by simp⟩⟩
  case round =>
    obtain ⟨v, dl, rm, HA⟩ := hrel
    have hsz : w.heap.size + 2 ≤ wr.heap.size := by have := HA.out.rng.lt; rw [HR.out] at this; omega
    go_wp2_with (at_next; refine wp_next rfl _ rfl rfl ?n1 HA.out.rng HA.out.bel ?n2 ?_ ?_; (case n1 => have := HR.out; omega); (case n2 => have := HR.out; omega))
    · intro hrm
      subst hrm
      have hbx := blk_cell HA.out.box 0
      have hfr := blk_frozen HA.out.box 0
      replace hbx : wr.cell? ⟨w.heap.size, 0, none⟩ = some v := hbx
      have hne : v.ownBlock ≠ some w.heap.size := fun e => by have := Kd.R_base HA.out.row _ e; omega
      have hll : dl.length < 4611686018427387904 := by
        have := HA.out.perm.length_eq
        simp at this
        omega
      have hS := told_sort w.heap.size wr _ v dl HA.out.row hbx hne hll
      have HS := Lib.hid hS
      have HNE := Lib.hid hne
      clear hS hne hll
      go_wp2_with (go_at_call 85; refine HS.out.mono ?_; rintro e w3 ⟨rfl, l', hp3, hs3, ho3, hg3⟩; have hb3 : w3.cell? ⟨w.heap.size, 0, none⟩ = some v := (World.cell?_of_block (hg3.block w.heap.size (by omega) (fun e => HNE.out e.symm))).trans hbx; have HP3 := Aside0.mk hp3; have HS3 := Aside0.mk hs3; have HO3 := Aside0.mk ho3; have HG3 := Aside0.mk hg3; clear hp3 hs3 ho3 hg3 hbx hfr)
      go_ret
      have hpm : (l'.map tpI).Perm m := (HP3.out.map tpI).trans (by simpa using HA.out.perm)
      exact ⟨_, l', rfl, Kd.R_lower HO3.out (by omega), asc_of hnd.out hpm HS3.out, hpm, HA.out.bel.grown HG3.out HA.out.bel.size (fun k hk => by have := Kd.R_base HA.out.row k hk; omega)⟩
    · intro qk qv w2 hq ht2 hb2 hg2 hs2 hen
      have hsz2 : w.heap.size + 2 ≤ w2.heap.size := by omega
      have HBX := Aside0.mk ((hg2.block w.heap.size (by omega) (by have := HR.out; intro e; injection e with e; omega)).trans HA.out.box)
      have HRW := Aside0.mk (Kd.R_grown (Kd.R_bound HA.out.row) hg2 (fun k hk e => by
        obtain ⟨_, _, _, q, _, cells, hc⟩ := hk
        injection e with e
        subst e
        obtain ⟨es, clock, since, seen, c0, _, _, _, hr', _⟩ := HA.out.rng
        rw [hr'] at hc
        cases hc))
      have HT2 := Aside0.mk ht2
      have HB2 := Aside0.mk hb2
      have HL := Lib.hid (show (del rm qk).length < rm.length from Nat.lt_of_lt_of_eq (Nat.lt_succ_self _) (length_del (p := (qk, qv)) HA.out.rng.nodup hq))
      have HPM := Aside0.mk (perm_step HA.out.rng.nodup hq HA.out.perm)
      have hdl : dl.length < m.length := by
        have := HPM.out.length_eq
        simp at this
        omega
      have hbx := blk_cell HBX.out 0
      replace hbx : w2.cell? ⟨w.heap.size, 0, none⟩ = some v := hbx
      clear hq ht2 hb2 hg2 hs2
      have hnb : v.ownBlock ≠ some w.heap.size := fun e => by have := Kd.R_base HA.out.row _ e; omega
      have hnr : v.ownBlock ≠ some r := fun e => by
        obtain ⟨cells, hc⟩ := Kd.R_typed HA.out.row _ e
        obtain ⟨es, clock, since, seen, c0, _, _, _, hr', _⟩ := HA.out.rng
        rw [hr'] at hc
        cases hc
      have hnB : v.ownBlock ≠ some b := fun e => by have := Kd.R_base HA.out.row _ e; omega
      have HNB := Lib.hid hnb
      have HNR := Lib.hid hnr
      have HNBB := Lib.hid hnB
      have HBS := Aside0.mk (Kd.R_base HA.out.row)
      clear hnb hnr hnB
      go_wp2_with (at_builtin; refine Kd.R_append k89 (w0 := w2) (w.heap.size + 2) rfl _ _ 36 89 (.agg #[.string ⟨#[]⟩, .string ⟨#[]⟩]) 32 rfl Tryz.underlying36 infoI rfl (by decide) (by decide) v dl ⟨qk, qv⟩ [.string qk, .string qv] (fun _ => True) (fun _ => False) rfl rfl ?hp (fun _ h => h.elim) (fun _ _ => trivial) ?hO ?hB ?hS ?hL ?_; (case hp => exact k89_mkM _ _ _ _); (case hO => exact Kd.R_mono HRW.out (fun _ _ => trivial)); (case hB => exact Below.refl _ _); (case hS => exact hsz2); (case hL => omega); intro v1 w3 ho3 hb3 hg3 hat3; obtain ⟨Ao, co, eo⟩ := Kd.R_slice ho3; subst eo; rw [List.length_append, List.length_singleton] at ho3; have hbx3 : w3.cell? ⟨w.heap.size, 0, none⟩ = some v := (World.cell?_of_block (hg3.block w.heap.size (by omega) (fun e => HNB.out e.symm))).trans hbx; have HBX3 := Aside0.mk ((hg3.block w.heap.size (by omega) (fun e => HNB.out e.symm)).trans HBX.out); have hfr3 := blk_frozen HBX3.out 0; have HO3 := Aside0.mk ho3; have HG3 := Aside0.mk hg3; clear ho3 hb3 hg3 hat3)
      have HT3 := Aside0.mk (HT2.out.grown HG3.out (fun e => HNBB.out e.symm) (fun e => HNR.out e.symm))
      go_roundw
      case rel =>
        refine ⟨_, dl ++ [⟨qk, qv⟩], del rm qk, ⟨⟨blk_put HBX3.out 0 _ rfl, ?_, SRng.set HT3.out _ _, ?_, ?_⟩⟩⟩
        · exact Kd.R_mono (Kd.R_far (p := ⟨w.heap.size, 0, none⟩) (Kd.R_bound HO3.out) (fun k hk => by have := hk.2.1; show k ≠ w.heap.size; omega) _) (fun _ _ => trivial)
        · exact (HB2.out.grown HG3.out HB2.out.size (fun k hk => by have := HBS.out k hk; omega)).setCell (Nat.le_refl _) _
        · simpa [tpI] using HPM.out
      case measure =>
        have h1 : TRng (w3.setCell ⟨w.heap.size, 0, none⟩ (.slice Ao (dl.length + 1) co)) b r Value.string m (del rm qk) := SRng.set HT3.out _ _
        rw [h1.left_eq, HA.out.rng.left_eq]
        exact HL.out
end Go.Proofs.YtcocmdbleicmcaaGreatDoor.M
