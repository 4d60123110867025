/- The walk of impl.fromMap. -/
import Derived.Test.YtiamiagjkfioiaaGreatDoorFine
import Derived.Test.YtiamiagjkfioiaaGreatDoorToAny
import Derived.Sort.AtCall
import Derived.Laws.Rows
namespace Go.Proofs.YtiamiagjkfioiaaGreatDoor.A
set_option linter.unusedVariables false
set_option linter.unusedSimpArgs false
set_option linter.unusedSectionVars false
open Go.RowKit Go.Proofs.YtiamiagjkfioiaaGreatDoorW.PrintWords Go.Proofs.YtiamiagjkfioiaaGreatDoorW.PrintLast Go.Proofs.YtiamiagjkfioiaaGreatDoorW.PrintMore Go.Proofs.YtiamiagjkfioiaaGreatDoor.PT Go.Proofs.YtiamiagjkfioiaaGreatDoor.SM Go.Proofs.YtiamiagjkfioiaaGreatDoor.L

abbrev zV : Array Value := #[.int .i64 0, .int .i64 0, .string ⟨#[]⟩, .slice none 0 0, .slice none 0 0]
/-- a value told: its two rows are new, and apart -/
def Told (y : IV) (w : World) (e : Ending) (w' : World) : Prop := ∃ A3 c3 A4 c4, e = .returned (.tuple #[cellsI y A3 c3 A4 c4, .bool true]) ∧ Kd.R Kd.string 9 w' w.heap.size (fun _ => True) (.slice A3 y.f3.length c3) y.f3 ∧ Kd.R kI 34 w' w.heap.size (fun k => some k ≠ (Value.slice A3 y.f3.length c3).ownBlock) (.slice A4 y.f4.length c4) y.f4 ∧ Below w.heap.size w w'
def FromC (v : AV) (y : IV) (w : World) : Prop := Calls Tryz.prog 50 #[v.enc] w (Told y w)
theorem infoIS : (Tryz.prog.info? 9).map (fun i => (i.zero, i.size, i.bytes)) = some (some (.string ⟨#[]⟩), 1, 16) := by kernel_rfl
theorem infoIV : (Tryz.prog.info? 34).map (fun i => (i.zero, i.size, i.bytes)) = some (some (.agg zV), 5, 80) := by kernel_rfl
theorem perm_delB {β : Type} : ∀ {rm : List (ByteArray × β)} {q : ByteArray × β}, (keys rm).Nodup → q ∈ rm → (keys rm).Perm (q.1 :: keys (del rm q.1))
  | [], q, _, hq => by simp at hq
  | a :: l, q, hn, hq => by
    unfold keys at hn
    rw [List.map_cons, List.nodup_cons] at hn
    unfold del
    rw [List.filter_cons]
    rcases List.mem_cons.1 hq with e | hq'
    · subst e
      have : l.filter (fun x => decide (x.1 ≠ q.1)) = l := List.filter_eq_self.2 (fun b hb => by
        simp
        exact fun e => hn.1 (by rw [← e]; exact List.mem_map_of_mem hb))
      simp only [ne_eq, not_true_eq_false, decide_false, Bool.false_eq_true, if_false]
      rw [show List.filter (fun x => decide ¬x.fst = q.fst) l = l from this]
      exact List.Perm.refl _
    · have hne : a.1 ≠ q.1 := fun e => hn.1 (by rw [e]; exact List.mem_map_of_mem hq')
      simp only [ne_eq, hne, not_false_eq_true, decide_true, if_true]
      have ih := perm_delB (rm := l) (q := q) hn.2 hq'
      exact (List.Perm.cons a.1 ih).trans (List.Perm.swap q.1 a.1 _)
theorem perm_stepB {β : Type} {K : List ByteArray} {rm : List (ByteArray × β)} {dl : List ByteArray} {q : ByteArray × β} (hn : (keys rm).Nodup) (hq : q ∈ rm) (h : (dl ++ keys rm).Perm K) : ((dl ++ [q.1]) ++ keys (del rm q.1)).Perm K := by
  rw [List.append_assoc]
  exact (List.Perm.append_left dl (perm_delB hn hq).symm).trans h
structure From1 (w : World) (b r : Nat) (m : List (ByteArray × AV)) (wr : World) (A : Option Addr) (c : Nat) (dl : List ByteArray) (rm : List (ByteArray × AV)) : Prop where
  box : wr.heap[w.heap.size + 1]? = some (.cells #[.int .i64 5, .int .i64 0, .string ⟨#[]⟩, .slice A dl.length c, .slice none 0 0] 34 (0, 0))
  res : wr.heap[w.heap.size]? = some (.cells zV 34 (0, 0))
  row : Kd.R Kd.string 9 wr (w.heap.size + 3) (fun _ => True) (.slice A dl.length c) dl
  rng : TRng wr b r AV.enc m rm
  bel : Below w.heap.size w wr
  perm : (dl ++ keys rm).Perm (keys m)
structure From2 (w : World) (b : Nat) (ks : List ByteArray) (ys : List IV) (wr : World) (A : Option Addr) (c : Nat) (A4 : Option Addr) (c4 : Nat) (vs : List IV) : Prop where
  box : wr.heap[w.heap.size + 1]? = some (.cells #[.int .i64 5, .int .i64 0, .string ⟨#[]⟩, .slice A ks.length c, .slice A4 vs.length c4] 34 (0, 0))
  res : wr.heap[w.heap.size]? = some (.cells zV 34 (0, 0))
  row : Kd.R Kd.string 9 wr w.heap.size (fun k => k ≠ w.heap.size ∧ k ≠ w.heap.size + 1) (.slice A ks.length c) ks
  vals : Kd.R kI 34 wr w.heap.size (fun k => (k ≠ w.heap.size ∧ k ≠ w.heap.size + 1) ∧ some k ≠ (Value.slice A ks.length c).ownBlock) (.slice A4 vs.length c4) vs
  bel : Below w.heap.size w wr
theorem keys_lookB {β : Type} {m : List (ByteArray × β)} {k : ByteArray} (h : k ∈ keys m) : ∃ v, SM.look m k = some v := by
  cases e : SM.look m k with
  | some v => exact ⟨v, rfl⟩
  | none => exact absurd h (has_false.1 (look_none.1 e))
/-- what sort.Strings does to a row of one's own -/
def SortC : Prop := ∀ (v : Value) (l : List ByteArray) (base : Nat) (W : World), Kd.R Kd.string 9 W base (fun _ => True) v l → l.length ≤ 1099511627776 →
  Calls Tryz.prog 68 #[v] W fun en w' => en = .returned (.tuple #[]) ∧ Kd.R Kd.string 9 w' base (fun _ => True) v (Ord.sortS l) ∧ W.grownBy w' v.ownBlock
theorem SortC.use (h : SortC) (v : Value) (l : List ByteArray) (base : Nat) (W : World) (hr : Kd.R Kd.string 9 W base (fun _ => True) v l) (hl : l.length ≤ 1099511627776) : Calls Tryz.prog 68 #[v] W fun en w' => en = .returned (.tuple #[]) ∧ Kd.R Kd.string 9 w' base (fun _ => True) v (Ord.sortS l) ∧ W.grownBy w' v.ownBlock := h v l base W hr hl
theorem FromC.use {v : AV} {y : IV} {w : World} (h : FromC v y w) : Calls Tryz.prog 50 #[v.enc] w (Told y w) := h
theorem R_far5 {α : Type} {d : Kd α} {e : Nat} {w : World} {base : Nat} {ok : Nat → Prop} {v : Value} {xs : List α} (h : d.R e w base ok v xs) (g : Nat) (hok : ∀ k, ok k → k ≠ g) (u0 u1 u2 u3 u4 : Value) : d.R e (((((w.setCell ⟨g, 0, none⟩ u0).setCell ⟨g, 1, none⟩ u1).setCell ⟨g, 2, none⟩ u2).setCell ⟨g, 3, none⟩ u3).setCell ⟨g, 4, none⟩ u4) base ok v xs :=
  Kd.R_far (p := ⟨g, 4, none⟩) (Kd.R_far (p := ⟨g, 3, none⟩) (Kd.R_far (p := ⟨g, 2, none⟩) (Kd.R_far (p := ⟨g, 1, none⟩) (Kd.R_far (p := ⟨g, 0, none⟩) h hok _) hok _) hok _) hok _) hok _
theorem below5 {B : Nat} {w0 w : World} (h : Below B w0 w) (g : Nat) (hg : B ≤ g) (u0 u1 u2 u3 u4 : Value) : Below B w0 (((((w.setCell ⟨g, 0, none⟩ u0).setCell ⟨g, 1, none⟩ u1).setCell ⟨g, 2, none⟩ u2).setCell ⟨g, 3, none⟩ u3).setCell ⟨g, 4, none⟩ u4) :=
  ((((h.setCell hg _).setCell hg _).setCell hg _).setCell hg _).setCell hg _
theorem zeroA (w : World) : (zeroValue 20).run Tryz.prog w = .ok .nilIface w := by kernel_rfl
theorem msF {n i : Nat} (h : i < n) : n - (intOf (.int .i64 ((i + 1 : Nat) : Int))).toNat < n - (intOf (.int .i64 (i : Int))).toNat := by simp only [intOf, Int.toNat_natCast]; omega
theorem wrF {i n : Nat} (h : i < n) (hn : n ≤ 1099511627776) : wrap64 ((i : Int) + 1) = ((i + 1 : Nat) : Int) := by unfold wrap64; omega
theorem rdK {ks : List ByteArray} {i : Nat} (h : i < ks.length) : rdOf ByteArray.empty ks (i : Int) = ks[i] := by simp [rdOf, List.getD_eq_getElem?_getD, List.getElem?_eq_getElem h]
set_option maxHeartbeats 8000000 in
set_option maxRecDepth 100000 in
theorem impl_fromMap (hsort : SortC) (b : Nat) (m : List (ByteArray × AV)) (ks : List ByteArray) (ys : List IV) (w : World) (hm : TMap w b AV.enc m) (hb : m.length ≤ 1099511627776) (hk : ks = Ord.sortS (keys m)) (hl : ys.length = ks.length)
    (IH : ∀ (i : Nat) (h1 : i < ks.length) (h2 : i < ys.length) (v : AV), SM.look m (ks[i]'h1) = some v → ∀ W, Below w.heap.size w W → FromC v (ys[i]'h2) W) :
    Calls Tryz.prog 47 #[.map (some b)] w (Told ⟨5, 0, be, ks, ys⟩ w) := by
  have hbl := hm.lt
  have HM := Aside0.mk hm
  have hnd := Lib.hid hm.nodup
  have HK := Lib.hid hk
  have HIH := Lib.hid IH
  have HL := Lib.hid hl
  have HMB := Lib.hid hb
  have HKL : Hid (ks.length = m.length) := Lib.hid (by rw [hk, Ord.sortS_length]; simp [keys])
  clear hm hk IH hl hb
  obtain ⟨W0, hW0⟩ : ∃ W0 : World, W0 = (w.alloc (Obj.cells zV 34)).alloc (Obj.cells #[.int .i64 5, .int .i64 0, .string ⟨#[]⟩, .slice none 0 0, .slice none 0 0] 34) := ⟨_, rfl⟩
  have HSZ0 : Hid (W0.heap.size = w.heap.size + 2) := Lib.hid (by rw [hW0]; simp)
  have HRES0 : Aside0 (W0.heap[w.heap.size]? = some (.cells zV 34 (0, 0))) := ⟨by rw [hW0]; exact heap_oldI (new_atI rfl)⟩
  have HBOX0 : Aside0 (W0.heap[w.heap.size + 1]? = some (.cells #[.int .i64 5, .int .i64 0, .string ⟨#[]⟩, .slice none 0 0, .slice none 0 0] 34 (0, 0))) := ⟨by rw [hW0]; exact new_atI (by simp)⟩
  have HB0 : Aside0 (Below w.heap.size w W0) := ⟨by rw [hW0]; exact ((Below.refl _ _).alloc (Nat.le_refl _) _).alloc (by simp) _⟩
  have HW0 := Lib.hid hW0
  clear hW0
  go_enter Tryz.func47, Tryz.ntmps47
  go_upto_region 2 with fail
  rw [← HW0.out]
  go_wp2_with (at_range; go_loud (refine wp_range rfl _ rfl Tryz.underlying55 rfl (HM.out.below HB0.out) (w0 := w) (B := w.heap.size) HB0.out HB0.out.size ?_; intro w1 r hr ht hb hg _; have HT := Aside0.mk ht; have HB1 := Aside0.mk hb; have HX1 := Aside0.mk (blk_kept HBOX0.out hg (fun e => by cases e)); have HR1 := Aside0.mk (blk_kept HRES0.out hg (fun e => by cases e)); have hr1 : r = w.heap.size + 2 := hr.trans HSZ0.out; have HR := Lib.hid hr1; clear ht hb hg hr hr1))
  go_frame
  go_loopw [] (fun wr => ∃ (A : Option Addr) (c : Nat) (dl : List ByteArray) (rm : List (ByteArray × AV)), Aside0 (From1 w b r m wr A c dl rm)) (fun wr => wr.rangeLeft b r)
  case atStart => exact ⟨none, 0, [], m, ⟨HX1.out, HR1.out, Kd.R_nil _ _ _ _ _, HT.out, HB1.out, by simp⟩⟩
  case round =>
    obtain ⟨A, c, dl, rm, HA⟩ := hrel
    have hsz : w.heap.size + 3 ≤ wr.heap.size := by have := HA.out.rng.lt; rw [HR.out] at this; omega
    go_wp2_with (at_next; refine wp_next rfl _ rfl rfl ?n1 HA.out.rng HA.out.bel ?n2 ?_ ?_; (case n1 => have := HR.out; omega); (case n2 => have := HR.out; omega))
    · intro hrm
      subst hrm
      have hpm : dl.Perm (keys m) := by have := HA.out.perm; simpa [keys] using this
      have hlen : dl.length = ks.length := by rw [hpm.length_eq, HKL.out]; simp [keys]
      have hsk : Ord.sortS dl = ks := by rw [HK.out]; exact Ord.sortS_of_perm hpm
      have BX := Aside0.mk HA.out.box
      have RW := Aside0.mk HA.out.row
      rw [hlen] at BX RW
      have hbx := blk_cell BX.out 3
      replace hbx : wr.cell? ⟨w.heap.size + 1, 3, none⟩ = some (.slice A ks.length c) := hbx
      have HSK := Lib.hid hsk
      have HLB : Hid (dl.length ≤ 1099511627776) := Lib.hid (by rw [hlen, HKL.out]; exact HMB.out)
      have HNE : Hid ((Value.slice A ks.length c).ownBlock ≠ some (w.heap.size + 1)) := Lib.hid (fun e => by have := Kd.R_base RW.out _ e; omega)
      have HNR : Hid ((Value.slice A ks.length c).ownBlock ≠ some w.heap.size) := Lib.hid (fun e => by have := Kd.R_base RW.out _ e; omega)
      clear hpm hlen hsk
      go_wp2_with (go_at_call 68; refine (SortC.use hsort _ dl (w.heap.size + 3) wr RW.out HLB.out).mono ?_; rintro e w3 ⟨rfl, ho3, hg3⟩; rw [HSK.out] at ho3; have HO3 := Aside0.mk ho3; have HG3 := Aside0.mk hg3; have BX3 := Aside0.mk (blk_kept BX.out hg3 (fun e => HNE.out e.symm)); have RS3 := Aside0.mk (blk_kept HA.out.res hg3 (fun e => HNR.out e.symm)); have hb3 : w3.cell? ⟨w.heap.size + 1, 3, none⟩ = some (.slice A ks.length c) := (blk_cell BX3.out 3).trans rfl; clear ho3 hg3 hbx)
      have HB3 := Aside0.mk (HA.out.bel.grown HG3.out HA.out.bel.size (fun k hk => by have := Kd.R_base RW.out k hk; omega))
      have HROW : Aside0 (Kd.R Kd.string 9 w3 w.heap.size (fun k => k ≠ w.heap.size ∧ k ≠ w.heap.size + 1) (.slice A ks.length c) ks) := ⟨Kd.R_lower (Kd.R_mono (Kd.R_bound HO3.out) (fun k hk => ⟨by have := hk.2.1; omega, by have := hk.2.1; omega⟩)) (Nat.le_add_right _ 3)⟩
      go_loopw [29] (fun v29 wr => ∃ (i : Nat) (vs : List IV) (A4 : Option Addr) (c4 : Nat), i ≤ ks.length ∧ v29 = .int .i64 i ∧ Hid (vs = ys.take i) ∧ Aside0 (From2 w b ks ys wr A c A4 c4 vs)) (fun v29 _ => ks.length - (intOf v29).toNat)
      case atStart => exact ⟨0, [], none, 0, Nat.zero_le _, rfl, Lib.hid rfl, ⟨BX3.out, RS3.out, HROW.out, Kd.R_nil _ _ _ _ _, HB3.out⟩⟩
      case round =>
        obtain ⟨i, vs, A4, c4, hi, rfl, HVS, HF⟩ := hrel
        by_cases hlt : i < ks.length
        · have i0 : (0 : Int) ≤ (i : Int) := Int.natCast_nonneg _
          have i1 : (i : Int) < (ks.length : Int) := Int.ofNat_lt.2 hlt
          obtain ⟨adk, eA, hk0⟩ := Kd.at_string (Kd.R_reads' HF.out.row).2.2 (i : Int) i0 i1
          rw [rdK hlt, Int.toNat_natCast] at hk0
          have hiy : i < ys.length := by rw [HL.out]; exact hlt
          obtain ⟨s, hs⟩ : ∃ s, s = ks[i]'hlt := ⟨_, rfl⟩
          obtain ⟨y, hy⟩ : ∃ y, y = ys[i]'hiy := ⟨_, rfl⟩
          rw [← hs] at hk0
          have hsk2 : s ∈ keys m := by
            have h3 : ks.Perm (keys m) := by rw [HK.out]; exact Ord.sortS_perm _
            rw [hs]
            exact h3.mem_iff.1 (List.getElem_mem hlt)
          obtain ⟨v, hv⟩ := keys_lookB hsk2
          clear hsk2
          have HC : Hid (∀ W, Below w.heap.size w W → FromC v y W) := Lib.hid (by rw [hy]; exact HIH.out i hlt hiy v (by rw [← hs]; exact hv))
          have hvl : vs.length = i := by rw [HVS.out, List.length_take]; omega
          have HVL := Lib.hid hvl
          have HV1 : Hid (ys.take (i + 1) = vs ++ [y]) := Lib.hid (by rw [HVS.out, List.take_succ_eq_append_getElem hiy, hy])
          have HLV := Lib.hid (show SM.look m s = some v from hv)
          have wk := wrF hlt (by rw [HKL.out]; exact HMB.out)
          have HMW : Aside0 (TMap wr b AV.enc m) := ⟨HM.out.below HF.out.bel⟩
          have hze := zeroA wr
          subst eA
          clear hs hy hv hvl hiy
          have hszr : w.heap.size ≤ wr.heap.size := HF.out.bel.size
          go_upto_region 13 with (first
            | (at_lookup; refine wp_look rfl _ _ false rfl Tryz.underlying55 Tryz.underlying9 rfl HMW.out s rfl hze ?_; rw [HLV.out]; simp only [Option.map_some, Option.getD_some, Bool.false_eq_true, if_false])
            | (go_at_call 50; refine (FromC.use (HC.out wr HF.out.bel)).mono ?_; rintro e w4 ⟨B3, d3, B4, d4, rfl, hq3, hq4, hq⟩; obtain ⟨W5, hW5⟩ : ∃ W5 : World, W5 = w4.alloc (Obj.cells #[.int .i64 y.f0, .int .i64 y.f1, .string y.f2, .slice B3 y.f3.length d3, .slice B4 y.f4.length d4] 34) := ⟨_, rfl⟩; have Q3 := Aside0.mk hq3; have Q4 := Aside0.mk hq4; have QB := Aside0.mk hq; have HW5 := Lib.hid hW5; clear hq3 hq4 hq hW5))
          rw [← HW5.out]
          have HB5 : Aside0 (Below wr.heap.size wr W5) := ⟨by rw [HW5.out]; exact QB.out.alloc QB.out.size _⟩
          have BX5 := Aside0.mk (blk_below HF.out.box HB5.out)
          have RS5 := Aside0.mk (blk_below HF.out.res HB5.out)
          have hb5 : W5.cell? ⟨w.heap.size + 1, 4, none⟩ = some (.slice A4 vs.length c4) := (blk_cell BX5.out 4).trans rfl
          have h85 : W5.heap[w4.heap.size]? = some (.cells #[.int .i64 y.f0, .int .i64 y.f1, .string y.f2, .slice B3 y.f3.length d3, .slice B4 y.f4.length d4] 34 (0, 0)) := by rw [HW5.out]; exact new_atI rfl
          have g0 : W5.cell? ⟨w4.heap.size, 0, none⟩ = some (.int .i64 y.f0) := (blk_cell h85 0).trans rfl
          have g1 : W5.cell? ⟨w4.heap.size, 1, none⟩ = some (.int .i64 y.f1) := (blk_cell h85 1).trans rfl
          have g2 : W5.cell? ⟨w4.heap.size, 2, none⟩ = some (.string y.f2) := (blk_cell h85 2).trans rfl
          have g3 : W5.cell? ⟨w4.heap.size, 3, none⟩ = some (.slice B3 y.f3.length d3) := (blk_cell h85 3).trans rfl
          have g4 : W5.cell? ⟨w4.heap.size, 4, none⟩ = some (.slice B4 y.f4.length d4) := (blk_cell h85 4).trans rfl
          have ROW5 := Aside0.mk (Kd.R_below HF.out.row HB5.out)
          have VAL5 := Aside0.mk (Kd.R_below HF.out.vals HB5.out)
          have hbR : w.heap.size + 2 ≤ wr.heap.size := blk_lt HF.out.box
          have hfr : ∀ k, wr.heap.size ≤ k → ((k ≠ w.heap.size ∧ k ≠ w.heap.size + 1) ∧ some k ≠ (Value.slice (some adk) ks.length c).ownBlock) ∧ some k ≠ (Value.slice A4 vs.length c4).ownBlock := fun k hk => ⟨⟨⟨by omega, by omega⟩, fun e => by have := Kd.R_lt HF.out.row k e.symm; omega⟩, fun e => by have := Kd.R_lt HF.out.vals k e.symm; omega⟩
          have HFR := Lib.hid hfr
          have hs5 : wr.heap.size ≤ W5.heap.size := HB5.out.size
          have P3 : Aside0 (Kd.R Kd.string 9 W5 w.heap.size (fun k => ((k ≠ w.heap.size ∧ k ≠ w.heap.size + 1) ∧ some k ≠ (Value.slice (some adk) ks.length c).ownBlock) ∧ some k ≠ (Value.slice A4 vs.length c4).ownBlock) (.slice B3 y.f3.length d3) y.f3) := ⟨by rw [HW5.out]; exact Kd.R_alloc (Kd.R_lower (Kd.R_mono (Kd.R_bound Q3.out) (fun k hk => HFR.out k hk.2.1)) hszr) _⟩
          have P4 : Aside0 (Kd.R kI 34 W5 w.heap.size (fun k => ((k ≠ w.heap.size ∧ k ≠ w.heap.size + 1) ∧ some k ≠ (Value.slice (some adk) ks.length c).ownBlock) ∧ some k ≠ (Value.slice A4 vs.length c4).ownBlock) (.slice B4 y.f4.length d4) y.f4) := ⟨by rw [HW5.out]; exact Kd.R_alloc (Kd.R_lower (Kd.R_mono (Kd.R_bound Q4.out) (fun k hk => HFR.out k hk.2.1)) hszr) _⟩
          have HBW5 := Aside0.mk (below_then HF.out.bel HF.out.bel.size HB5.out)
          have hvb : (vs.length + 1) * 80 ≤ 140737488355328 := by have := HVL.out; have := HKL.out; have := HMB.out; omega
          have HVB := Lib.hid hvb
          clear hfr h85 hvb
          go_wp2_with (at_builtin; refine Kd.R_append kI (w0 := w) w.heap.size rfl _ _ 32 34 (.agg zV) 80 rfl Tryz.underlying32 infoIV rfl (show 0 < 5 by decide) (by decide) (.slice A4 vs.length c4) vs y [.int .i64 y.f0, .int .i64 y.f1, .string y.f2, .slice B3 y.f3.length d3, .slice B4 y.f4.length d4] (fun k => (k ≠ w.heap.size ∧ k ≠ w.heap.size + 1) ∧ some k ≠ (Value.slice (some adk) ks.length c).ownBlock) (fun k => ((k ≠ w.heap.size ∧ k ≠ w.heap.size + 1) ∧ some k ≠ (Value.slice (some adk) ks.length c).ownBlock) ∧ some k ≠ (Value.slice A4 vs.length c4).ownBlock) rfl rfl ?hp (fun _ h => h) ?hF ?hO ?hB ?hS ?hL ?_; (case hp => exact k34_mkM _ _ _ y P3.out P4.out); (case hF => exact fun k hk => (HFR.out k (Nat.le_trans hs5 hk)).1); (case hO => exact VAL5.out); (case hB => exact HBW5.out); (case hS => exact Nat.le_trans hszr hs5); (case hL => exact HVB.out); intro v6 w6 ho6 hb6 hg6 hat6; obtain ⟨A6, c6, eo⟩ := Kd.R_slice ho6; subst eo; rw [List.length_append, List.length_singleton] at ho6; have HO6 := Aside0.mk ho6; have HB6 := Aside0.mk hb6; have ROW6 := Aside0.mk (Kd.R_over' ROW5.out (Kd.R_typed VAL5.out) (by decide) hg6); have BX6 := Aside0.mk (blk_kept BX5.out hg6 (fun e => (VAL5.out.1 _ e.symm).1.2 rfl)); have RS6 := Aside0.mk (blk_kept RS5.out hg6 (fun e => (VAL5.out.1 _ e.symm).1.1 rfl)); have hb6 : w6.cell? ⟨w.heap.size + 1, 4, none⟩ = some (.slice A4 vs.length c4) := (blk_cell BX6.out 4).trans rfl; have hfr6 := blk_frozen BX6.out 4; clear ho6 hg6 hat6)
          go_roundw
          case rel =>
            have e1 : (vs ++ [y]).length = vs.length + 1 := by simp
            refine ⟨i + 1, vs ++ [y], A6, c6, hlt, by go_num, Lib.hid HV1.out.symm, ⟨?_, ?_, ?_, ?_, ?_⟩⟩
            · rw [e1]; exact blk_put BX6.out 4 _ rfl
            · exact (Below.heap_setCell _ _ _ _ (by show w.heap.size ≠ w.heap.size + 1; omega)).trans RS6.out
            · exact Kd.R_far (p := ⟨w.heap.size + 1, 4, none⟩) ROW6.out (fun k hk => hk.2) _
            · rw [e1]; exact Kd.R_far (p := ⟨w.heap.size + 1, 4, none⟩) HO6.out (fun k hk => hk.1.2) _
            · exact HB6.out.setCell (Nat.le_succ _) _
          case measure => first | exact msF hlt | (rw [wk]; exact msF hlt)
        · obtain rfl : i = ks.length := by omega
          have hvy : vs = ys := by rw [HVS.out, ← HL.out, List.take_length]
          have m0 : wr.cell? ⟨w.heap.size + 1, 0, none⟩ = some (.int .i64 5) := (blk_cell HF.out.box 0).trans rfl
          have m1 : wr.cell? ⟨w.heap.size + 1, 1, none⟩ = some (.int .i64 0) := (blk_cell HF.out.box 1).trans rfl
          have m2 : wr.cell? ⟨w.heap.size + 1, 2, none⟩ = some (.string ⟨#[]⟩) := (blk_cell HF.out.box 2).trans rfl
          have m3 : wr.cell? ⟨w.heap.size + 1, 3, none⟩ = some (.slice A ks.length c) := (blk_cell HF.out.box 3).trans rfl
          have m4 : wr.cell? ⟨w.heap.size + 1, 4, none⟩ = some (.slice A4 vs.length c4) := (blk_cell HF.out.box 4).trans rfl
          have n0 : wr.cell? ⟨w.heap.size, 0, none⟩ = some (.int .i64 0) := (blk_cell HF.out.res 0).trans rfl
          have n1 : wr.cell? ⟨w.heap.size, 1, none⟩ = some (.int .i64 0) := (blk_cell HF.out.res 1).trans rfl
          have n2 : wr.cell? ⟨w.heap.size, 2, none⟩ = some (.string ⟨#[]⟩) := (blk_cell HF.out.res 2).trans rfl
          have n3 : wr.cell? ⟨w.heap.size, 3, none⟩ = some (.slice none 0 0) := (blk_cell HF.out.res 3).trans rfl
          have n4 : wr.cell? ⟨w.heap.size, 4, none⟩ = some (.slice none 0 0) := (blk_cell HF.out.res 4).trans rfl
          have f0 := blk_frozen HF.out.res 0
          have f1 := blk_frozen HF.out.res 1
          have f2 := blk_frozen HF.out.res 2
          have f3 := blk_frozen HF.out.res 3
          have f4 := blk_frozen HF.out.res 4
          go_wp2
          refine bodyPost_ret (v := .tuple #[.agg #[.int .i64 5, .int .i64 0, .string ⟨#[]⟩, .slice A ks.length c, .slice A4 vs.length c4], .bool true]) (by simp [results, Tryz.results47, go_sem, *]) rfl ?_
          refine ⟨A, c, A4, c4, by rw [← hvy], ?_, ?_, below5 HF.out.bel _ (Nat.le_refl _) _ _ _ _ _⟩
          · exact Kd.R_mono (R_far5 HF.out.row w.heap.size (fun k hk => hk.1) _ _ _ _ _) (fun _ _ => trivial)
          · rw [← hvy]
            exact Kd.R_mono (R_far5 HF.out.vals w.heap.size (fun k hk => hk.1.1) _ _ _ _ _) (fun _ h => h.2)
    · intro qk qv w2 hq ht2 hb2 hg2 hs2 hen
      have hsz2 : w.heap.size + 3 ≤ w2.heap.size := by omega
      have HBX := Aside0.mk (blk_kept HA.out.box hg2 (fun e => by have := HR.out; injection e with e; omega))
      have HRS := Aside0.mk (blk_kept HA.out.res hg2 (fun e => by have := HR.out; injection e with e; omega))
      have HRW := Aside0.mk (Kd.R_grown (Kd.R_bound HA.out.row) hg2 (fun k hk e => by
        obtain ⟨_, _, _, q, _, cells, hc⟩ := hk
        injection e with e
        subst e
        obtain ⟨es, clock, since, seen, c0, _, _, _, hr', _⟩ := HA.out.rng
        rw [hr'] at hc
        cases hc))
      have HT2 := Aside0.mk ht2
      have HB2 := Aside0.mk hb2
      have HLL := Lib.hid (show (del rm qk).length < rm.length from Nat.lt_of_lt_of_eq (Nat.lt_succ_self _) (length_del (p := (qk, qv)) HA.out.rng.nodup hq))
      have HPM := Aside0.mk (perm_stepB HA.out.rng.nodup hq HA.out.perm)
      have hdl : dl.length < m.length := by
        have := HPM.out.length_eq
        simp [keys] at this
        omega
      have hdl2 : dl.length ≤ 1099511627776 := Nat.le_trans (Nat.le_of_lt hdl) HMB.out
      have HDL := Lib.hid hdl2
      have hbx := blk_cell HBX.out 3
      replace hbx : w2.cell? ⟨w.heap.size + 1, 3, none⟩ = some (.slice A dl.length c) := hbx
      have HNB : Hid ((Value.slice A dl.length c).ownBlock ≠ some (w.heap.size + 1)) := Lib.hid (fun e => by have := Kd.R_base HA.out.row _ e; omega)
      have HNS : Hid ((Value.slice A dl.length c).ownBlock ≠ some w.heap.size) := Lib.hid (fun e => by have := Kd.R_base HA.out.row _ e; omega)
      have HNR : Hid ((Value.slice A dl.length c).ownBlock ≠ some r) := Lib.hid (fun e => by
        obtain ⟨cells, hc⟩ := Kd.R_typed HA.out.row _ e
        obtain ⟨es, clock, since, seen, c0, _, _, _, hr', _⟩ := HA.out.rng
        rw [hr'] at hc
        cases hc)
      have HNBB : Hid ((Value.slice A dl.length c).ownBlock ≠ some b) := Lib.hid (fun e => by have := Kd.R_base HA.out.row _ e; omega)
      have HBS := Lib.hid (Kd.R_base HA.out.row)
      clear hq ht2 hb2 hg2 hs2 hdl hdl2
      go_wp2_with (at_builtin; refine Kd.R_append Kd.string (w0 := w2) (w.heap.size + 3) rfl _ _ 22 9 (.string ⟨#[]⟩) 16 rfl Tryz.underlying22 infoIS rfl (by decide) (by decide) (.slice A dl.length c) dl qk [.string qk] (fun _ => True) (fun k => True ∧ some k ≠ (Value.slice A dl.length c).ownBlock) rfl rfl ?hp (fun _ h => h) (fun _ _ => trivial) ?hO ?hB ?hS ?hL ?_; (case hp => rfl); (case hO => exact Kd.R_mono HRW.out (fun _ _ => trivial)); (case hB => exact Below.refl _ _); (case hS => exact hsz2); (case hL => have := HDL.out; omega); intro v1 w3 ho3 hb3 hg3 hat3; obtain ⟨Ao, co, eo⟩ := Kd.R_slice ho3; subst eo; rw [List.length_append, List.length_singleton] at ho3; have hbx3 : w3.cell? ⟨w.heap.size + 1, 3, none⟩ = some (.slice A dl.length c) := (blk_cell (blk_kept HBX.out hg3 (fun e => HNB.out e.symm)) 3).trans rfl; have HBX3 := Aside0.mk (blk_kept HBX.out hg3 (fun e => HNB.out e.symm)); have HRS3 := Aside0.mk (blk_kept HRS.out hg3 (fun e => HNS.out e.symm)); have hfr3 := blk_frozen HBX3.out 3; have HO3 := Aside0.mk ho3; have HG3 := Aside0.mk hg3; clear ho3 hb3 hg3 hat3)
      have HT3 := Aside0.mk (HT2.out.grown HG3.out (fun e => HNBB.out e.symm) (fun e => HNR.out e.symm))
      go_roundw
      case rel =>
        have e1 : (dl ++ [qk]).length = dl.length + 1 := by simp
        refine ⟨Ao, co, dl ++ [qk], del rm qk, ⟨⟨by rw [e1]; exact blk_put HBX3.out 3 _ rfl, ?_, ?_, SRng.set HT3.out _ _, ?_, HPM.out⟩⟩⟩
        · exact (Below.heap_setCell _ _ _ _ (by show w.heap.size ≠ w.heap.size + 1; omega)).trans HRS3.out
        · rw [e1]; exact Kd.R_mono (Kd.R_far (p := ⟨w.heap.size + 1, 3, none⟩) (Kd.R_bound HO3.out) (fun k hk => by have := hk.2.1; show k ≠ w.heap.size + 1; omega) _) (fun _ _ => trivial)
        · exact (HB2.out.grown HG3.out HB2.out.size (fun k hk => by have := HBS.out k hk; omega)).setCell (Nat.le_succ _) _
      case measure =>
        have h1 : TRng (w3.setCell ⟨w.heap.size + 1, 3, none⟩ (.slice Ao (dl.length + 1) co)) b r AV.enc m (del rm qk) := SRng.set HT3.out _ _
        rw [h1.left_eq, HA.out.rng.left_eq]
        exact HLL.out
end Go.Proofs.YtiamiagjkfioiaaGreatDoor.A
