/- Plain law of sets of texts, and the walks of utils.Set's functions. -/
import Derived.Test.YtcocmdbleicmcaaGreatDoorStrList
import Derived.Test.YtcocmdbleicmcaaGreatDoorDistinct
namespace Go.Proofs.YtcocmdbleicmcaaGreatDoor.M
set_option linter.unusedVariables false
set_option linter.unusedSimpArgs false
set_option linter.unusedSectionVars false
open Go.RowKit Go.Proofs.YtcocmdbleicmcaaGreatDoorW.PrintWords Go.Proofs.YtcocmdbleicmcaaGreatDoorW.PrintLast Go.Proofs.YtcocmdbleicmcaaGreatDoor.PX Go.Proofs.YtcocmdbleicmcaaGreatDoor.SM

def encU (_ : Unit) : Value := .agg #[]
def diffS (a b : List ByteArray) : List ByteArray := Ord.sortS (dist (a.filter (fun x => !Lib.containsS b x)))
def unionS (a b : List ByteArray) : List ByteArray := Ord.sortS (dist (a ++ b))
theorem contains_iff (l : List ByteArray) (x : ByteArray) : Lib.containsS l x = true ↔ x ∈ l := Lib.containsS_iff l x
theorem sort_dist_eq {l l' : List ByteArray} (hn : l.Nodup) (h : ∀ x, x ∈ l ↔ x ∈ l') : Ord.sortS l = Ord.sortS (dist l') :=
  Ord.sortS_of_perm ((List.perm_ext_iff_of_nodup hn (dist_nodup l')).2 (fun x => (h x).trans (dist_mem l' x).symm))
theorem diffS_mem (a b : List ByteArray) (x : ByteArray) : x ∈ diffS a b ↔ x ∈ a ∧ x ∉ b := by
  rw [diffS, (Ord.sortS_perm _).mem_iff, dist_mem, List.mem_filter, ← contains_iff b]
  simp
theorem unionS_mem (a b : List ByteArray) (x : ByteArray) : x ∈ unionS a b ↔ x ∈ a ∨ x ∈ b := by
  rw [unionS, (Ord.sortS_perm _).mem_iff, dist_mem, List.mem_append]
theorem sort_diff (a b : List ByteArray) : Ord.sortS (diffS a b) = diffS a b := Ord.sortS_of_perm (Ord.sortS_perm _)
theorem sort_union (a b : List ByteArray) : Ord.sortS (unionS a b) = unionS a b := Ord.sortS_of_perm (Ord.sortS_perm _)
theorem union_diff (a b : List ByteArray) : unionS a (diffS b a) = unionS a b := by
  refine Ord.sortS_of_perm ((List.perm_ext_iff_of_nodup (dist_nodup _) (dist_nodup _)).2 (fun x => ?_))
  rw [dist_mem, dist_mem, List.mem_append, List.mem_append, diffS_mem]
  by_cases h : x ∈ a <;> simp [h]
theorem diff_union (a b : List ByteArray) : diffS a (unionS a b) = [] := by
  refine List.eq_nil_iff_forall_not_mem.2 (fun x hx => ?_)
  have := (diffS_mem _ _ _).1 hx
  exact this.2 ((unionS_mem _ _ _).2 (.inl this.1))
theorem diffS_len (a b : List ByteArray) : (diffS a b).length ≤ a.length := by
  rw [diffS, Ord.sortS_length]; exact Nat.le_trans (dist_len _) (List.length_filter_le _ _)
theorem unionS_len (a b : List ByteArray) : (unionS a b).length ≤ a.length + b.length := by
  rw [unionS, Ord.sortS_length]; refine Nat.le_trans (dist_len _) ?_; rw [List.length_append]; exact Nat.le_refl _
theorem keys_put {β : Type} {m : List (ByteArray × β)} {k : ByteArray} {v : β} (x : ByteArray) : x ∈ keys (put m k v) ↔ x = k ∨ x ∈ keys m := by
  constructor
  · intro h
    obtain ⟨p, hp, rfl⟩ := List.mem_map.1 h
    rcases (mem_put p).1 hp with e | ⟨_, h⟩
    · rw [e]; exact .inl rfl
    · exact .inr (List.mem_map_of_mem h)
  · rintro (rfl | h)
    · exact List.mem_map.2 ⟨(x, v), (mem_put _).2 (.inl rfl), rfl⟩
    · obtain ⟨p, hp, rfl⟩ := List.mem_map.1 h
      by_cases e : p.1 = k
      · exact List.mem_map.2 ⟨(k, v), (mem_put _).2 (.inl rfl), e.symm⟩
      · exact List.mem_map.2 ⟨p, (mem_put _).2 (.inr ⟨e, hp⟩), rfl⟩
theorem has_iff {β : Type} (m : List (ByteArray × β)) (k : ByteArray) : has m k = true ↔ k ∈ keys m := by
  simp [has, keys]
theorem keys_len {β : Type} {m : List (ByteArray × β)} (hn : (keys m).Nodup) {l : List ByteArray} (h : ∀ x, x ∈ keys m → x ∈ l) : m.length ≤ l.length := by
  have := len_subK hn h
  simpa [keys] using this
theorem zeroU (w : World) : (zeroValue 124).run Tryz.prog w = .ok (.agg #[]) w := by kernel_rfl
set_option maxHeartbeats 4000000 in
theorem utils_Add (b : Nat) (m : List (ByteArray × Unit)) (s : ByteArray) (w w0 : World) (B : Nat) (h : TMap w b encU m) (hb0 : Below B w0 w) (hB : B ≤ b) :
    Calls Tryz.prog 96 #[.map (some b), .string s] w fun e w' => e = .returned (.tuple #[]) ∧ TMap w' b encU (put m s ()) ∧ Below B w0 w' := by
  have HM := Aside0.mk h
  have HB := Aside0.mk hb0
  clear h hb0
  go_enter Tryz.func96, Tryz.ntmps96
  go_wp2_with (at_mapUpdate; refine wp_put rfl _ _ _ rfl Tryz.underlying100 Tryz.underlying9 rfl HM.out s () rfl rfl HB.out hB ?_; intro w2 hm2 hb2 _ _; have HM2 := Aside0.mk hm2; have HB2 := Aside0.mk hb2; clear hm2 hb2)
  go_end0
  exact ⟨rfl, HM2.out, HB2.out⟩
set_option maxHeartbeats 4000000 in
set_option maxRecDepth 100000 in
theorem utils_NewSet (A0 : Option Addr) (c0 : Nat) (l0 : List ByteArray) (w : World) (hr0 : Kd.C Kd.string w A0 l0.length l0) (hl : l0.length ≤ 1099511627776) :
    Calls Tryz.prog 78 #[.slice A0 l0.length c0] w fun e w' => ∃ b m, e = .returned (.map (some b)) ∧ TMap w' b encU m ∧ (∀ x, x ∈ keys m ↔ x ∈ l0) ∧ w.heap.size ≤ b ∧ Below w.heap.size w w' := by
  have HR0 := Aside0.mk hr0
  clear hr0
  have hmm := @run_makeMap Tryz.prog
  have hmh := fun (W : World) (n : Int) => run_makeHint (P := Tryz.prog) Tryz.underlying100 .i64 n W
  have hmu := Tryz.underlying100
  rcases Nat.eq_zero_or_pos l0.length with hz | hpos
  · obtain rfl : l0 = [] := List.eq_nil_of_length_eq_zero hz
    go_enter Tryz.func78, Tryz.ntmps78
    go_wp2
    go_ret
    exact ⟨_, [], rfl, TMap.made _ _, fun x => by simp [keys], Nat.le_refl _, (Below.refl _ _).alloc (Nat.le_refl _) _⟩
  · have hbe : ((l0.length : Int) == 0) = false := beq_false_of_ne (by omega)
    go_enter Tryz.func78, Tryz.ntmps78
    go_wp2
    go_loopw [14] (fun v14 wr => ∃ i : Nat, i ≤ l0.length ∧ v14 = .int .i64 i ∧ Aside0 (∃ m, TMap wr w.heap.size encU m ∧ ∀ x, x ∈ keys m ↔ x ∈ l0.take i) ∧ Aside0 (Below w.heap.size w wr)) (fun v14 _ => l0.length - (intOf v14).toNat)
    case atStart => exact ⟨0, Nat.zero_le _, rfl, ⟨[], TMap.made _ _, fun x => by simp [keys]⟩, ⟨(Below.refl _ _).alloc (Nat.le_refl _) _⟩⟩
    case round =>
      obtain ⟨i, hi, rfl, HMM, HB⟩ := hrel
      by_cases hlt : i < l0.length
      · obtain ⟨ad0, rfl, hx0⟩ := Kd.at_string HR0.out (i : Int) (by omega) (by omega)
        replace hx0 := (HB.out.cell (World.block_lt_of_cell? w _ hx0)).trans hx0
        simp only [Int.toNat_natCast] at hx0
        obtain ⟨s, hs⟩ : ∃ s, s = l0[i] := ⟨_, rfl⟩
        have hs' : rdOf ByteArray.empty l0 (i : Int) = s := by rw [hs]; simp [rdOf, List.getD_eq_getElem?_getD, List.getElem?_eq_getElem hlt]
        rw [hs'] at hx0
        have HN := Lib.hid (show l0.take (i + 1) = l0.take i ++ [s] by rw [hs]; exact List.take_succ_eq_append_getElem hlt)
        clear hs hs'
        obtain ⟨m, hm, hk⟩ := HMM.out
        have HM := Aside0.mk hm
        have HK := Aside0.mk hk
        clear hm hk HMM
        go_wp2_with (go_at_call 96; refine (utils_Add w.heap.size m s _ w w.heap.size HM.out HB.out (Nat.le_refl _)).mono ?_; rintro e w1 ⟨rfl, hm1, hb1⟩; have HM1 := Aside0.mk hm1; have HB1 := Aside0.mk hb1; clear hm1 hb1)
        go_roundw
        case rel =>
          refine ⟨i + 1, by omega, by go_num, ⟨_, HM1.out, fun x => ?_⟩, HB1⟩
          rw [keys_put, HK.out, HN.out, List.mem_append, List.mem_singleton]
          exact Or.comm
        case measure => simp [intOf]; omega
      · go_wp2
        go_ret
        obtain rfl : i = l0.length := by omega
        rw [List.take_length] at HMM
        obtain ⟨m, hm, hk⟩ := HMM.out
        exact ⟨_, m, rfl, hm, hk, Nat.le_refl _, HB.out⟩
set_option maxHeartbeats 4000000 in
set_option maxRecDepth 100000 in
theorem utils_Elements (b1 : Nat) (m1 : List (ByteArray × Unit)) (w : World) (h1 : TMap w b1 encU m1) (hl : m1.length ≤ 4294967296) :
    Calls Tryz.prog 80 #[.map (some b1)] w fun e w' => ∃ v l, e = .returned v ∧ Kd.R Kd.string 9 w' w.heap.size (fun _ => True) v l ∧ l.Perm (keys m1) ∧ Below w.heap.size w w' := by
  have hlen := run_len (P := Tryz.prog) Tryz.underlying100 h1 3
  rw [show (mapE encU m1).length = m1.length from List.length_map _] at hlen
  have hmk := make_none_run (P := Tryz.prog) 22 9 Tryz.underlying22 infoS m1.length (by omega) w
  have HMK := Aside0.mk (make_none_own w 9 w.heap.size m1.length (Nat.le_refl _) (by omega))
  have H1 := Aside0.mk h1
  have hl1 := h1.lt
  have hnd := Lib.hid h1.nodup
  clear h1
  go_enter Tryz.func80, Tryz.ntmps80
  go_wp2_with (at_range; refine wp_range rfl _ rfl Tryz.underlying100 rfl (H1.out.below ?b1) (w0 := w) (B := w.heap.size) ?b2 ?b3 ?_; (case b1 => repeat (first | exact Below.refl _ _ | apply below_alloc)); (case b2 => repeat (first | exact Below.refl _ _ | apply below_alloc)); (case b3 => simp); intro w1 r hr ht hb hg _; have HT := Aside0.mk ht; have HB1 := Aside0.mk hb; have HO1 := Aside0.mk (Kd.R_grown HMK.out hg (fun _ _ e => by cases e)); have hr1 : r = w.heap.size + 1 := hr.trans (by first | rfl | simp); have HR := Lib.hid hr1; clear ht hb hg hr hr1)
  go_frame
  go_loopw [3] (fun v3 wr => ∃ (ql rm : List (ByteArray × Unit)), Aside0 (TRng wr b1 r encU m1 rm) ∧ Aside0 (Kd.R Kd.string 9 wr w.heap.size (fun _ => True) v3 (keys ql)) ∧ Aside0 (Below w.heap.size w wr) ∧ Aside0 ((ql ++ rm).Perm m1)) (fun _ wr => wr.rangeLeft b1 r)
  case atStart => exact ⟨[], m1, HT, HO1, HB1, ⟨List.Perm.refl _⟩⟩
  case round =>
    obtain ⟨ql, rm, HT, HO, HB, HP⟩ := hrel
    go_wp2_with (at_next; (refine wp_next rfl _ rfl rfl ?n1 HT.out HB.out ?n2 ?_ ?_; (case n1 => have := HR.out; omega); (case n2 => have := HR.out; omega)))
    · intro hrm
      have HE := Lib.hid hrm
      clear hrm
      go_wp2
      go_ret
      rw [HE.out, List.append_nil] at HP
      exact ⟨_, _, rfl, HO.out, HP.out.map (fun p : ByteArray × Unit => p.1), HB.out⟩
    · intro qk qv w2 hq ht2 hb2 hg2 hs2 hen
      have HT2 := Aside0.mk ht2
      have HB2 := Aside0.mk hb2
      have HL := Lib.hid (show (del rm qk).length < rm.length from Nat.lt_of_lt_of_eq (Nat.lt_succ_self _) (length_del (p := (qk, qv)) HT.out.nodup hq))
      have HRW := Aside0.mk (Kd.R_grown (Kd.R_bound HO.out) hg2 (fun k hk e => by
        obtain ⟨_, _, _, q, _, cells, hc⟩ := hk
        injection e with e
        subst e
        obtain ⟨es, clock, since, seen, c0, _, _, _, hr', _⟩ := HT.out
        rw [hr'] at hc
        cases hc))
      have HPN := Aside0.mk (perm_stepG HT.out.nodup hq HP.out)
      obtain ⟨dl, hdl⟩ : ∃ dl, dl = keys ql := ⟨_, rfl⟩
      have hdL : dl.length ≤ 4294967296 := by
        have h1 := HP.out.length_eq
        rw [hdl, keys, List.length_map]
        rw [List.length_append] at h1
        omega
      have HN := Lib.hid (show keys (ql ++ [(qk, qv)]) = dl ++ [qk] by rw [hdl, keys, List.map_append]; rfl)
      rw [← hdl] at HRW HO
      have hnr : u3.ownBlock ≠ some r := fun e => by
        obtain ⟨cells, hc⟩ := Kd.R_typed HO.out _ e
        obtain ⟨es, clock, since, seen, c0, _, _, _, hr', _⟩ := HT.out
        rw [hr'] at hc
        cases hc
      have hnB : u3.ownBlock ≠ some b1 := fun e => by have := Kd.R_base HO.out _ e; omega
      have HNR := Lib.hid hnr
      have HNB := Lib.hid hnB
      clear hq ht2 hb2 hg2 hs2 hdl hnr hnB
      go_wp2_with (at_builtin; refine Kd.R_append Kd.string (w0 := w) w.heap.size rfl _ _ 22 9 (.string ⟨#[]⟩) 16 rfl Tryz.underlying22 infoS rfl (by decide) (by decide) u3 dl qk [.string qk] (fun _ => True) (fun _ => False) rfl rfl ?hp (fun _ h => h.elim) (fun _ _ => trivial) ?hO ?hB ?hS ?hL ?_; (case hp => rfl); (case hO => exact Kd.R_mono HRW.out (fun _ _ => trivial)); (case hB => exact HB2.out); (case hS => exact HB2.out.size); (case hL => omega); intro v1 w3 ho3 hb3 hg3 hat3; have HO3 := Aside0.mk ho3; have HB3 := Aside0.mk hb3; have HT3 := Aside0.mk (HT2.out.grown hg3 (fun e => HNB.out e.symm) (fun e => HNR.out e.symm)); clear ho3 hb3 hg3 hat3)
      exact ⟨⟨ql ++ [(qk, qv)], del rm qk, HT3, ⟨by rw [HN.out]; exact HO3.out⟩, HB3, HPN⟩, by rw [HT3.out.left_eq, HT.out.left_eq]; exact HL.out⟩
end Go.Proofs.YtcocmdbleicmcaaGreatDoor.M
