/- The walk of spec.ShortVolume over its printed words. -/
import Derived.Test.YtklbghadhneejaaDoorVolY
import Derived.Laws.CopyOwn
namespace Go.Proofs.YtklbghadhneejaaDoor.V
set_option linter.unusedVariables false
set_option linter.unusedSimpArgs false
set_option linter.unusedSectionVars false
open Go.RowKit Go.Proofs.YtklbghadhneejaaDoorW.PrintWords Go.Proofs.YtklbghadhneejaaDoorW.PrintLast Go.Proofs.YtklbghadhneejaaDoor.PX

theorem load_sv (w : World) (bR : Nat) (a0 a1 a2 a3 a4 : ByteArray) (b5 b6 b7 : Bool) (hc : w.heap[bR]? = some (.cells #[.string a0, .string a1, .string a2, .string a3, .string a4, .bool b5, .bool b6, .bool b7] 25 (0, 0))) :
    (loadVar 25 ⟨bR, 0, none⟩).run Tryd.prog w = .ok (.agg #[.string a0, .string a1, .string a2, .string a3, .string a4, .bool b5, .bool b6, .bool b7]) w := run_loadVar_row w bR 25 25 #[.string a0, .string a1, .string a2, .string a3, .string a4, .bool b5, .bool b6, .bool b7] (0, 0) _ hc Tryd.underlying25 rfl (by kernel_rfl)
theorem results_sv (tmps : Array Value) (w : World) (bR : Nat) {a0 a1 a2 a3 a4 : ByteArray} {b5 b6 b7 r : Bool} (h2 : tmps.getD 2 undef = .pointer (some ⟨bR, 0, none⟩)) (h3 : tmps.getD 3 undef = .bool r) (hc : w.heap[bR]? = some (.cells #[.string a0, .string a1, .string a2, .string a3, .string a4, .bool b5, .bool b6, .bool b7] 25 (0, 0))) :
    (results Tryd.f6 tmps).run Tryd.prog w = .ok (.tuple #[.agg #[.string a0, .string a1, .string a2, .string a3, .string a4, .bool b5, .bool b6, .bool b7], .bool r]) w := by
  have hl := load_sv w bR a0 a1 a2 a3 a4 b5 b6 b7 hc
  rw [results_cell_tmp rfl, h2, h3]
  have ha : (asAddr (.pointer (some ⟨bR, 0, none⟩))).run Tryd.prog w = .ok ⟨bR, 0, none⟩ w := rfl
  rw [ha]
  simp only [Result.andThen, hl]
theorem infoV (a0 a1 a2 a3 a4 : ByteArray) (b5 b6 b7 : Bool) : (Tryd.prog.info? 25).map (·.size) = some (#[.string a0, .string a1, .string a2, .string a3, .string a4, .bool b5, .bool b6, .bool b7] : Array Value).size := by kernel_rfl
theorem oneV (a0 a1 a2 a3 a4 : ByteArray) (b5 b6 b7 : Bool) : (#[.string a0, .string a1, .string a2, .string a3, .string a4, .bool b5, .bool b6, .bool b7] : Array Value).all (·.oneCell') = true := by simp [Value.oneCell']
theorem Q_row {α : Type} {d : Kd α} {e base : Nat} {w : World} {ok : Nat → Prop} {v : Value} {xs : List α} (h : d.Q e w base ok v xs) {g t : Nat} {cells : Array Value} (hb : w.heap[g]? = some (.cells cells t (0, 0))) (ht : ∀ q, q ∈ e :: d.E → q ≠ t) (cs : Array Value) : d.Q e (w.setRow g cs) base ok v xs :=
  Kd.Q_mono (Kd.Q_step (Kd.Q_types h hb ht) (fun k ho _ => setRow_other w g k cs ho.2)) (fun _ h => h.1)
theorem R_row {α : Type} {d : Kd α} {e base : Nat} {w : World} {ok : Nat → Prop} {v : Value} {xs : List α} (h : d.R e w base ok v xs) {g t : Nat} {cells : Array Value} (hb : w.heap[g]? = some (.cells cells t (0, 0))) (ht : ∀ q, q ∈ e :: d.E → q ≠ t) (cs : Array Value) : d.R e (w.setRow g cs) base ok v xs :=
  Kd.R_mono (Kd.R_step (Kd.R_types h hb ht) (fun k ho _ => setRow_other w g k cs ho.2)) (fun _ h => h.1)
theorem row_other {w : World} {g k : Nat} {o : Obj} (h : w.heap[k]? = some o) (hn : k ≠ g) (cs : Array Value) : (w.setRow g cs).heap[k]? = some o := (setRow_other w g k cs hn).trans h
theorem notV : ∀ q, q ∈ 9 :: Kd.string.E → q ≠ 25 := by
  intro q hq
  have h : q = 9 := by simpa [Kd.string, Kd.scalar] using hq
  subst h
  decide
def spec_ShortVolume.Tb : Bool × List (List Nat × List Nat) := (true, [([], []), ([], []), ([], []), ([1, 2], [1, 2]), ([3], [3]), ([], []), ([0, 4, 5], [0, 4, 5]), ([6], [6]), ([7], [7]), ([7], [7]), ([7], [7]), ([8, 6, 0, 1, 2, 3, 4, 5, 6, 7, 8], [8]), ([9, 11, 0, 1, 2, 3, 4, 5, 6, 7, 8, 9, 11], [9]), ([10, 12, 0, 1, 2, 3, 4, 5, 6, 7, 8, 9, 10, 11, 12], [10])])
def spec_ShortVolume.Bb : List Nat := [0, 0, 0, 6, 14, 0, 63, 127, 255, 255, 255, 511, 3071, 8191]
theorem spec_ShortVolume.tab25 : rtab .any (opsOf Tryd.f6 25) = spec_ShortVolume.Tb := by kernel_rfl
theorem spec_ShortVolume.bits25 : waitsOk spec_ShortVolume.Tb.2 spec_ShortVolume.Bb = true := by kernel_rfl
set_option maxHeartbeats 16000000 in
set_option maxRecDepth 100000 in
theorem short_calls (k : Nat) (s : ByteArray) (r1 r2 r3 r4 r5 : ByteArray) (r6 r7 r8 r9 : Bool) (w : World) (h : spec_ShortVolume.f k s = some (r1, r2, r3, r4, r5, r6, r7, r8, r9)) :
    Calls Tryd.prog 6 #[.string s] w fun e w' => e = .returned (.tuple #[.agg #[.string r1, .string r2, .string r3, .string r4, .string r5, .bool r6, .bool r7, .bool r8], .bool r9]) ∧ Below w.heap.size w w' := by
  unfold spec_ShortVolume.f at h
  obtain ⟨ps, hp, h'⟩ := Option.bind_eq_some_iff.1 h
  have HP := Aside0.mk hp
  have HH := Aside0.mk h'
  clear hp h h'
  by_cases hl3 : (ps.length : Int) > 3
  · rw [if_pos hl3] at HH
    have hl3' : (3 : Int) < (ps.length : Int) := hl3
    go_enter Tryd.func6, Tryd.ntmps6
    go_upto_region 3 with (go_at_call 12; refine (spec_shortParts.calls k s 58 ps _ HP.out).mono ?_; rintro e w1 ⟨v1, rfl, ho, hb⟩; have HR := Aside0.mk ((hb.block w.heap.size (by simp)).trans (heap_alloc_new w _)); have HB := Aside0.mk (below_then ((Below.refl w.heap.size w).alloc (Nat.le_refl _) _) (by simp) hb); obtain ⟨A4, c4, rfl⟩ := Kd.R_slice ho; have HQ := Aside0.mk (Kd.Q_lower (Kd.Q_of_R ho) (show w.heap.size ≤ _ by simp)); clear ho hb)
    go_wp2_with (refine wpList_store_row rfl 25 _ _ rfl w.heap.size #[.string ⟨#[]⟩, .string ⟨#[]⟩, .string ⟨#[]⟩, .string ⟨#[]⟩, .string ⟨#[]⟩, .bool false, .bool false, .bool false] rfl rfl 25 _ HR.out (infoV _ _ _ _ _ _ _ _) rfl (oneV _ _ _ _ _ _ _ _) ?_)
    refine bodyPost_ret (results_sv _ _ _ rfl rfl (setRow_heap _ w.heap.size _ #[.string ⟨#[]⟩, .string ⟨#[]⟩, .string ⟨#[]⟩, .string ⟨#[]⟩, .string ⟨#[]⟩, .bool false, .bool false, .bool false] 25 (0, 0) HR.out)) rfl ⟨?_, below_setRow HB.out (Nat.le_refl _) _⟩
    have hz := HH.out
    simp only [Option.some.injEq, Prod.mk.injEq] at hz
    obtain ⟨rfl, rfl, rfl, rfl, rfl, rfl, rfl, rfl, rfl⟩ := hz
    rfl
  · rw [if_neg hl3] at HH
    have hl3' : ¬ (3 : Int) < (ps.length : Int) := hl3
    go_enter Tryd.func6, Tryd.ntmps6
    go_upto_if 22 with (first
      | (go_at_call 12; refine (spec_shortParts.calls k s 58 ps _ HP.out).mono ?_; rintro e w1 ⟨v1, rfl, ho, hb⟩; have HR := Aside0.mk ((hb.block w.heap.size (by simp)).trans (heap_alloc_new w _)); have HB := Aside0.mk (below_then ((Below.refl w.heap.size w).alloc (Nat.le_refl _) _) (by simp) hb); obtain ⟨A4, c4, rfl⟩ := Kd.R_slice ho; have HQ := Aside0.mk (Kd.Q_lower (Kd.Q_of_R ho) (show w.heap.size ≤ _ by simp)); clear ho hb)
      | (refine wpList_store_row rfl 25 _ _ rfl w1.heap.size #[.string ⟨#[118, 111, 108, 117, 109, 101]⟩, .string ⟨#[]⟩, .string ⟨#[]⟩, .string ⟨#[]⟩, .string ⟨#[]⟩, .bool false, .bool false, .bool false] rfl rfl 25 _ (heap_alloc_new w1 _) (infoV _ _ _ _ _ _ _ _) rfl (oneV _ _ _ _ _ _ _ _) ?_))
    have hlt1 : w.heap.size < w1.heap.size := (Array.getElem?_eq_some_iff.1 HR.out).1
    have H5 := Aside0.mk (setRow_heap (w1.alloc (.cells #[.string ⟨#[]⟩, .string ⟨#[]⟩, .string ⟨#[]⟩, .string ⟨#[]⟩, .string ⟨#[]⟩, .bool false, .bool false, .bool false] 25 (0, 0))) w1.heap.size _ #[.string ⟨#[118, 111, 108, 117, 109, 101]⟩, .string ⟨#[]⟩, .string ⟨#[]⟩, .string ⟨#[]⟩, .string ⟨#[]⟩, .bool false, .bool false, .bool false] 25 (0, 0) (heap_alloc_new w1 _))
    have HR2 := Aside0.mk (row_other (blk_alloc HR.out _) (Nat.ne_of_lt hlt1) #[.string ⟨#[118, 111, 108, 117, 109, 101]⟩, .string ⟨#[]⟩, .string ⟨#[]⟩, .string ⟨#[]⟩, .string ⟨#[]⟩, .bool false, .bool false, .bool false] : ((w1.alloc (.cells #[.string ⟨#[]⟩, .string ⟨#[]⟩, .string ⟨#[]⟩, .string ⟨#[]⟩, .string ⟨#[]⟩, .bool false, .bool false, .bool false] 25 (0, 0))).setRow w1.heap.size #[.string ⟨#[118, 111, 108, 117, 109, 101]⟩, .string ⟨#[]⟩, .string ⟨#[]⟩, .string ⟨#[]⟩, .string ⟨#[]⟩, .bool false, .bool false, .bool false]).heap[w.heap.size]? = some (.cells #[.string ⟨#[]⟩, .string ⟨#[]⟩, .string ⟨#[]⟩, .string ⟨#[]⟩, .string ⟨#[]⟩, .bool false, .bool false, .bool false] 25 (0, 0)))
    have HQ2 := Aside0.mk (Q_row (Kd.Q_alloc HQ.out (.cells #[.string ⟨#[]⟩, .string ⟨#[]⟩, .string ⟨#[]⟩, .string ⟨#[]⟩, .string ⟨#[]⟩, .bool false, .bool false, .bool false] 25 (0, 0))) (heap_alloc_new w1 _) notV #[.string ⟨#[118, 111, 108, 117, 109, 101]⟩, .string ⟨#[]⟩, .string ⟨#[]⟩, .string ⟨#[]⟩, .string ⟨#[]⟩, .bool false, .bool false, .bool false])
    have HB2 := Aside0.mk (below_setRow (HB.out.alloc (Nat.le_of_lt hlt1) (.cells #[.string ⟨#[]⟩, .string ⟨#[]⟩, .string ⟨#[]⟩, .string ⟨#[]⟩, .string ⟨#[]⟩, .bool false, .bool false, .bool false] 25 (0, 0))) (Nat.le_of_lt hlt1) #[.string ⟨#[118, 111, 108, 117, 109, 101]⟩, .string ⟨#[]⟩, .string ⟨#[]⟩, .string ⟨#[]⟩, .string ⟨#[]⟩, .bool false, .bool false, .bool false])
    clear HR HQ HB
    revert H5 HR2 HQ2 HB2 hlt1
    generalize (w1.alloc (.cells #[.string ⟨#[]⟩, .string ⟨#[]⟩, .string ⟨#[]⟩, .string ⟨#[]⟩, .string ⟨#[]⟩, .bool false, .bool false, .bool false] 25 (0, 0))).setRow w1.heap.size #[.string ⟨#[118, 111, 108, 117, 109, 101]⟩, .string ⟨#[]⟩, .string ⟨#[]⟩, .string ⟨#[]⟩, .string ⟨#[]⟩, .bool false, .bool false, .bool false] = w2
    generalize w1.heap.size = g5 at *
    intro hlt1 H5 HR HQ HB
    go_cut [4] (fun v4 wc => ∃ (kq : Nat) (l : List ByteArray) (x0 x1 : ByteArray) (x6 : Bool), Aside0 (spec_ShortVolume.j0 kq l x0 x1 ⟨#[]⟩ ⟨#[]⟩ ⟨#[]⟩ false x6 false = some (r1, r2, r3, r4, r5, r6, r7, r8, r9)) ∧ Aside0 (Kd.Q Kd.string 9 wc w.heap.size (fun _ => True) v4 l) ∧ Aside0 (wc.heap[w.heap.size]? = some (.cells #[.string ⟨#[]⟩, .string ⟨#[]⟩, .string ⟨#[]⟩, .string ⟨#[]⟩, .string ⟨#[]⟩, .bool false, .bool false, .bool false] 25 (0, 0))) ∧ Aside0 (wc.heap[g5]? = some (.cells #[.string x0, .string x1, .string ⟨#[]⟩, .string ⟨#[]⟩, .string ⟨#[]⟩, .bool false, .bool x6, .bool false] 25 (0, 0))) ∧ Aside0 (Below w.heap.size w wc))
    case first =>
      by_cases hl1 : (ps.length : Int) > 1
      · rw [if_pos hl1, if_pos (by omega)] at HH
        have hl1' : (1 : Int) < (ps.length : Int) := hl1
        obtain ⟨⟨t1, t2⟩, hp, h'⟩ := Option.bind_eq_some_iff.1 HH.out
        have HP2 := Aside0.mk hp
        have HH2 := Aside0.mk h'
        clear hp h' HH
        obtain ⟨-, -, hC⟩ := Kd.Q_reads' HQ.out
        obtain ⟨ad, e, hx⟩ := Kd.at_string hC 0 (by omega) (by omega)
        cases e
        simp only [Int.toNat_zero, Addr.add_zero'] at hx
        clear hC
        cases t2 with
        | false =>
          go_wp2_with (first
            | (go_at_call 13; refine (spec_shortPath.calls k (rdOf ByteArray.empty ps 0) t1 false _ HP2.out).mono ?_; rintro e w3 ⟨rfl, hd⟩; have HQ3 := Aside0.mk (Kd.Q_below HQ.out hd.below); have HR3 := Aside0.mk (blk_below HR.out hd.below); have H53 := Aside0.mk (blk_below H5.out hd.below); have HB3 := Aside0.mk (below_step HB.out hd.below); clear hd HQ HR H5 HB)
            | (refine wpList_store_row rfl 25 _ _ rfl w.heap.size #[.string ⟨#[]⟩, .string ⟨#[]⟩, .string ⟨#[]⟩, .string ⟨#[]⟩, .string ⟨#[]⟩, .bool false, .bool false, .bool false] rfl rfl 25 _ HR3.out (infoV _ _ _ _ _ _ _ _) rfl (oneV _ _ _ _ _ _ _ _) ?_))
          refine bodyPost_ret (results_sv _ _ _ rfl rfl (setRow_heap _ w.heap.size _ #[.string ⟨#[]⟩, .string ⟨#[]⟩, .string ⟨#[]⟩, .string ⟨#[]⟩, .string ⟨#[]⟩, .bool false, .bool false, .bool false] 25 (0, 0) HR3.out)) rfl ⟨?_, below_setRow HB3.out (Nat.le_refl _) _⟩
          have hz := HH2.out
          simp only [if_false, Bool.false_eq_true, Option.some.injEq, Prod.mk.injEq] at hz
          obtain ⟨rfl, rfl, rfl, rfl, rfl, rfl, rfl, rfl, rfl⟩ := hz
          rfl
        | true =>
          have hle1 : 1 ≤ (ps.length : Int) := by omega
          cases t1 with
          | false =>
            have HJ := HH2.out
            simp only [if_false, if_true, Bool.false_eq_true, if_pos hle1] at HJ
            clear HH2
            go_wp2_with (go_at_call 13; refine (spec_shortPath.calls k (rdOf ByteArray.empty ps 0) false true _ HP2.out).mono ?_; rintro e w3 ⟨rfl, hd⟩; have HQ3 := Aside0.mk (Kd.Q_below HQ.out hd.below); have HR3 := Aside0.mk (blk_below HR.out hd.below); have H53 := Aside0.mk (blk_below H5.out hd.below); have HB3 := Aside0.mk (below_step HB.out hd.below); have hx3 := (hd.below.cell (World.block_lt_of_cell? _ _ hx)).trans hx; have hc0 := (blk_cell H53.out 0).trans (show _ = some (Value.string ⟨#[118, 111, 108, 117, 109, 101]⟩) from rfl); have hc1 := (blk_cell H53.out 1).trans (show _ = some (Value.string ⟨#[]⟩) from rfl); have hc6 := (blk_cell H53.out 6).trans (show _ = some (Value.bool false) from rfl); have f1 : w3.frozen? ⟨g5, 1, none⟩ = false := blk_frozen H53.out 1; clear hd HQ HR H5 HB)
            all_goals (
              have hq := Kd.Q_drop (k := 1) (Kd.Q_set HQ3.out H53.out notV 1 (.string (rdOf ByteArray.empty ps 0))) (by omega)
              go_meet
              case rel =>
                refine ⟨k, ps.drop 1, ⟨#[118, 111, 108, 117, 109, 101]⟩, rdOf ByteArray.empty ps 0, false, ⟨HJ⟩, ⟨?_⟩, ⟨other_set (Nat.ne_of_lt hlt1) HR3.out⟩, ⟨blk_put H53.out 1 _ rfl⟩, ⟨below_set HB3.out (Nat.le_of_lt hlt1)⟩⟩
                first
                | exact hq
                | (rw [if_neg (by assumption)] at hq; exact hq)
                | (rw [if_pos (by assumption)] at hq; rename_i hc4; rw [hc4] at hq; exact hq)
                | (subst_vars; exact hq))
          | true =>
            have HJ := HH2.out
            simp only [if_false, if_true, Bool.false_eq_true, if_pos hle1] at HJ
            clear HH2
            go_wp2_with (go_at_call 13; refine (spec_shortPath.calls k (rdOf ByteArray.empty ps 0) true true _ HP2.out).mono ?_; rintro e w3 ⟨rfl, hd⟩; have HQ3 := Aside0.mk (Kd.Q_below HQ.out hd.below); have HR3 := Aside0.mk (blk_below HR.out hd.below); have H53 := Aside0.mk (blk_below H5.out hd.below); have HB3 := Aside0.mk (below_step HB.out hd.below); have hx3 := (hd.below.cell (World.block_lt_of_cell? _ _ hx)).trans hx; have hc0 := (blk_cell H53.out 0).trans (show _ = some (Value.string ⟨#[118, 111, 108, 117, 109, 101]⟩) from rfl); have hc1 := (blk_cell H53.out 1).trans (show _ = some (Value.string ⟨#[]⟩) from rfl); have hc6 := (blk_cell H53.out 6).trans (show _ = some (Value.bool false) from rfl); have f1 : w3.frozen? ⟨g5, 1, none⟩ = false := blk_frozen H53.out 1; have hc0y := (blk_cell (blk_put H53.out 1 (.string (rdOf ByteArray.empty ps 0)) rfl) 0).trans (show _ = some (Value.string ⟨#[118, 111, 108, 117, 109, 101]⟩) from rfl); have hc6y := (blk_cell (blk_put (blk_put H53.out 1 (.string (rdOf ByteArray.empty ps 0)) rfl) 0 (.string ⟨#[98, 105, 110, 100]⟩) rfl) 6).trans (show _ = some (Value.bool false) from rfl); have f0y := blk_frozen (blk_put H53.out 1 (.string (rdOf ByteArray.empty ps 0)) rfl) 0; have f6y := blk_frozen (blk_put (blk_put H53.out 1 (.string (rdOf ByteArray.empty ps 0)) rfl) 0 (.string ⟨#[98, 105, 110, 100]⟩) rfl) 6; clear hd HQ HR H5 HB)
            all_goals (
              have hq := Kd.Q_drop (k := 1) (Kd.Q_set (Kd.Q_set (Kd.Q_set HQ3.out H53.out notV 1 (.string (rdOf ByteArray.empty ps 0))) (blk_put H53.out 1 _ rfl) notV 0 (.string ⟨#[98, 105, 110, 100]⟩)) (blk_put (blk_put H53.out 1 _ rfl) 0 _ rfl) notV 6 (.bool true)) (by omega)
              go_meet
              case rel =>
                refine ⟨k, ps.drop 1, ⟨#[98, 105, 110, 100]⟩, rdOf ByteArray.empty ps 0, true, ⟨HJ⟩, ⟨?_⟩, ⟨other_set (Nat.ne_of_lt hlt1) (other_set (Nat.ne_of_lt hlt1) (other_set (Nat.ne_of_lt hlt1) HR3.out))⟩, ⟨blk_put (blk_put (blk_put H53.out 1 _ rfl) 0 _ rfl) 6 _ rfl⟩, ⟨below_set (below_set (below_set HB3.out (Nat.le_of_lt hlt1)) (Nat.le_of_lt hlt1)) (Nat.le_of_lt hlt1)⟩⟩
                first
                | exact hq
                | (rw [if_neg (by assumption)] at hq; exact hq)
                | (rw [if_pos (by assumption)] at hq; rename_i hc4; rw [hc4] at hq; exact hq)
                | (subst_vars; exact hq))
      · rw [if_neg hl1] at HH
        have hl1' : ¬ (1 : Int) < (ps.length : Int) := hl1
        go_wp2
        go_meet
        case rel => exact ⟨k, ps, ⟨#[118, 111, 108, 117, 109, 101]⟩, ⟨#[]⟩, false, HH, HQ, HR, H5, HB⟩
    case rest =>
      obtain ⟨kq, l, x0, x1, x6, HJ, HQ', HR', H5', HB'⟩ := hcut
      clear HH HP HQ HR H5 HB
      cases kq with
      | zero => exact absurd HJ.out (by simp [spec_ShortVolume.j0])
      | succ kq =>
        rw [spec_ShortVolume.j0] at HJ
        by_cases hl0 : 0 < (l.length : Int)
        · rw [if_pos hl0] at HJ
          obtain ⟨A4', c4', rfl, hcc⟩ := Kd.Q_slice HQ'.out
          obtain ⟨-, -, hC⟩ := Kd.Q_reads' HQ'.out
          obtain ⟨ad, e, hx⟩ := Kd.at_string hC 0 (by omega) (by omega)
          cases e
          simp only [Int.toNat_zero, Addr.add_zero'] at hx
          clear hC
          have hc2 := (blk_cell H5'.out 2).trans (show _ = some (Value.string ⟨#[]⟩) from rfl)
          have f2 := blk_frozen H5'.out 2
          go_upto_region 15 with (fail)
          have HQ := Aside0.mk (Kd.Q_set HQ'.out H5'.out notV 2 (.string (rdOf ByteArray.empty l 0)))
          have HR := Aside0.mk (other_set (i := 2) (u := .string (rdOf ByteArray.empty l 0)) (Nat.ne_of_lt hlt1) HR'.out)
          have H5 := Aside0.mk (blk_put H5'.out 2 (.string (rdOf ByteArray.empty l 0)) rfl)
          have HB := Aside0.mk (below_set (j := 2) (v := .string (rdOf ByteArray.empty l 0)) HB'.out (Nat.le_of_lt hlt1))
          clear hx hc2 f2 HQ' HR' H5' HB'
          revert HQ HR H5 HB
          generalize wc.setCell ⟨g5, 2, none⟩ (.string (rdOf ByteArray.empty l 0)) = w4
          intro HQ HR H5 HB
          have hc2 := (blk_cell H5.out 2).trans (show _ = some (Value.string (rdOf ByteArray.empty l 0)) from rfl)
          go_cut [61] (fun v61 wc => ∃ (b61 : Bool), v61 = .bool b61 ∧ Aside0 (spec_ShortVolume.j1 kq l b61 x0 x1 (rdOf ByteArray.empty l 0) ⟨#[]⟩ ⟨#[]⟩ false x6 false = some (r1, r2, r3, r4, r5, r6, r7, r8, r9)) ∧ Aside0 (Kd.Q Kd.string 9 wc w.heap.size (fun _ => True) (.slice (some ad) l.length c4') l) ∧ Aside0 (wc.heap[w.heap.size]? = some (.cells #[.string ⟨#[]⟩, .string ⟨#[]⟩, .string ⟨#[]⟩, .string ⟨#[]⟩, .string ⟨#[]⟩, .bool false, .bool false, .bool false] 25 (0, 0))) ∧ Aside0 (wc.heap[g5]? = some (.cells #[.string x0, .string x1, .string (rdOf ByteArray.empty l 0), .string ⟨#[]⟩, .string ⟨#[]⟩, .bool false, .bool x6, .bool false] 25 (0, 0))) ∧ Aside0 (Below w.heap.size w wc))
          case first =>
            by_cases hz3 : ((rdOf ByteArray.empty l 0).size : Int) < 3
            · rw [if_pos hz3] at HJ
              go_wp2_with (fail)
              go_meet
              case rel => exact ⟨true, rfl, HJ, HQ, HR, H5, HB⟩
            · rw [if_neg hz3, if_pos (by omega)] at HJ
              have c0 : decide (((rdOf ByteArray.empty l 0).size : Int) < 3) = false := decide_eq_false hz3
              have c1 : decide ((rdOf ByteArray.empty l 0).size < 3) = false := decide_eq_false (by omega)
              have q45 := eq_true (show 0 < (rdOf ByteArray.empty l 0).size by omega)
              have qi45 := eq_true (show 0 < ((rdOf ByteArray.empty l 0).size : Int) by omega)
              have hx45 : ∀ h : 0 < (rdOf ByteArray.empty l 0).size, (((rdOf ByteArray.empty l 0)[0]'h).toNat : Int) = bt (rdOf ByteArray.empty l 0) 0 := bt_at (rdOf ByteArray.empty l 0) 0
              clear hz3
              by_cases hbt : bt (rdOf ByteArray.empty l 0) 0 = 47
              · rw [if_pos hbt] at HJ
                obtain ⟨t137, hp, h'⟩ := Option.bind_eq_some_iff.1 HJ.out
                have HP := Aside0.mk hp
                have HH := Aside0.mk h'
                clear hp h' HJ
                have c2 : ((bt (rdOf ByteArray.empty l 0) 0) == 47) = true := beq_iff_eq.mpr hbt
                have c3 : ((bt (rdOf ByteArray.empty l 0) 0) != 47) = false := bne_eq_false_iff_eq.mpr hbt
                clear hbt
                go_wp2_with (go_at_call 14; refine (spec_shortWord.calls kq (rdOf ByteArray.empty l 0) true t137 _ HP.out).mono ?_; rintro e w5 ⟨rfl, hd⟩; have HQ5 := Aside0.mk (Kd.Q_below HQ.out hd.below); have HR5 := Aside0.mk (blk_below HR.out hd.below); have H55 := Aside0.mk (blk_below H5.out hd.below); have HB5 := Aside0.mk (below_step HB.out hd.below); clear hd HQ HR H5 HB)
                go_meet
                case rel => exact ⟨!t137, (by first | rfl | simp), HH, HQ5, HR5, H55, HB5⟩
              · rw [if_neg hbt] at HJ
                have c2 : ((bt (rdOf ByteArray.empty l 0) 0) == 47) = false := beq_eq_false_iff_ne.mpr hbt
                have c3 : ((bt (rdOf ByteArray.empty l 0) 0) != 47) = true := bne_iff_ne.mpr hbt
                clear hbt
                go_wp2_with (fail)
                go_meet
                case rel => exact ⟨true, (by first | rfl | simp), HJ, HQ, HR, H5, HB⟩
          case rest =>
            obtain ⟨b61, rfl, HJ', HQ, HR, H5, HB⟩ := hcut
            clear HJ
            have HJ := HJ'
            clear HJ'
            cases kq with
            | zero => exact absurd HJ.out (by simp [spec_ShortVolume.j1])
            | succ kq =>
              rw [spec_ShortVolume.j1] at HJ
              cases b61 with
              | true =>
                rw [if_pos rfl] at HJ
                go_wp2_with (refine wpList_store_row rfl 25 _ _ rfl w.heap.size #[.string ⟨#[]⟩, .string ⟨#[]⟩, .string ⟨#[]⟩, .string ⟨#[]⟩, .string ⟨#[]⟩, .bool false, .bool false, .bool false] rfl rfl 25 _ HR.out (infoV _ _ _ _ _ _ _ _) rfl (oneV _ _ _ _ _ _ _ _) ?_)
                refine bodyPost_ret (results_sv _ _ _ rfl rfl (setRow_heap _ w.heap.size _ #[.string ⟨#[]⟩, .string ⟨#[]⟩, .string ⟨#[]⟩, .string ⟨#[]⟩, .string ⟨#[]⟩, .bool false, .bool false, .bool false] 25 (0, 0) HR.out)) rfl ⟨?_, below_setRow HB.out (Nat.le_refl _) _⟩
                have hz := HJ.out
                simp only [Option.some.injEq, Prod.mk.injEq] at hz
                obtain ⟨rfl, rfl, rfl, rfl, rfl, rfl, rfl, rfl, rfl⟩ := hz
                rfl
              | false =>
                rw [if_neg (by decide)] at HJ
                by_cases hl1 : (l.length : Int) = 1
                · rw [if_pos hl1] at HJ
                  have hb0 : ((l.length : Int) == 1) = true := beq_iff_eq.mpr hl1
                  go_wp2_with (first
                    | (refine wpList_load_row rfl 25 _ rfl g5 rfl 25 #[.string x0, .string x1, .string (rdOf ByteArray.empty l 0), .string ⟨#[]⟩, .string ⟨#[]⟩, .bool false, .bool x6, .bool false] (0, 0) _ H5.out Tryd.underlying25 rfl (infoV _ _ _ _ _ _ _ _) ?_)
                    | (refine wpList_store_row rfl 25 _ _ rfl w.heap.size #[.string x0, .string x1, .string (rdOf ByteArray.empty l 0), .string ⟨#[]⟩, .string ⟨#[]⟩, .bool false, .bool x6, .bool false] rfl rfl 25 _ HR.out (infoV _ _ _ _ _ _ _ _) rfl (oneV _ _ _ _ _ _ _ _) ?_))
                  refine bodyPost_ret (results_sv _ _ _ rfl rfl (setRow_heap _ w.heap.size _ #[.string x0, .string x1, .string (rdOf ByteArray.empty l 0), .string ⟨#[]⟩, .string ⟨#[]⟩, .bool false, .bool x6, .bool false] 25 (0, 0) HR.out)) rfl ⟨?_, below_setRow HB.out (Nat.le_refl _) _⟩
                  have hz := HJ.out
                  simp only [Option.some.injEq, Prod.mk.injEq] at hz
                  obtain ⟨rfl, rfl, rfl, rfl, rfl, rfl, rfl, rfl, rfl⟩ := hz
                  rfl
                · rw [if_neg hl1] at HJ
                  have hb0 : ((l.length : Int) == 1) = false := beq_eq_false_iff_ne.mpr hl1
                  have hl2 : 1 < (l.length : Int) := by omega
                  rw [if_pos hl2] at HJ
                  obtain ⟨os, hp, h'⟩ := Option.bind_eq_some_iff.1 HJ.out
                  have HP := Aside0.mk hp
                  have HH := Aside0.mk h'
                  clear hp h' HJ
                  obtain ⟨-, -, hC⟩ := Kd.Q_reads' HQ.out
                  obtain ⟨ad1, e, hx1⟩ := Kd.at_string hC 1 (by omega) (by omega)
                  cases e
                  clear hC
                  simp only [show (1 : Int).toNat = 1 from rfl, Nat.reduceMul, Nat.reduceEqDiff, Go.Addr.add, ↓reduceIte] at hx1
                  have q2 := eq_true (show 1 < l.length by omega)
                  go_wp2_with (go_at_call 12; refine (spec_shortParts.calls kq (rdOf ByteArray.empty l 1) 44 os _ HP.out).mono ?_; rintro e w5 ⟨v5, rfl, ho, hb⟩; have HR5 := Aside0.mk (blk_below HR.out hb); have H55 := Aside0.mk (blk_below H5.out hb); have HB5 := Aside0.mk (below_step HB.out hb); have HO5 := Aside0.mk (Kd.R_lower ho (below_size HB.out)); clear hb ho HQ HR H5 HB)
                  go_loopg [8, 10] kq (fun kk v8 v10 w' => ∃ (l8 : List ByteArray) (i : Int) (y0 y1 y2 y3 y4 : ByteArray) (y5 y6 y7 : Bool), v10 = .int .i64 i ∧ Aside0 (spec_ShortVolume.l0 kk l8 os i y0 y1 y2 y3 y4 y5 y6 y7 = some (r1, r2, r3, r4, r5, r6, r7, r8, r9)) ∧ Aside0 (kk ≤ kq) ∧ Aside0 (Kd.R Kd.string 9 w' w.heap.size (fun k_ => some k_ ≠ (v5 : Value).ownBlock) v8 l8) ∧ Aside0 (Kd.R Kd.string 9 w' w.heap.size (fun k_ => some k_ ≠ (v8 : Value).ownBlock) v5 os) ∧ Aside0 (w'.heap[w.heap.size]? = some (.cells #[.string ⟨#[]⟩, .string ⟨#[]⟩, .string ⟨#[]⟩, .string ⟨#[]⟩, .string ⟨#[]⟩, .bool false, .bool false, .bool false] 25 (0, 0))) ∧ Aside0 (w'.heap[g5]? = some (.cells #[.string y0, .string y1, .string y2, .string y3, .string y4, .bool y5, .bool y6, .bool y7] 25 (0, 0))) ∧ Aside0 (Below w.heap.size w w'))
                  case atStart => exact ⟨[], 0, x0, x1, rdOf ByteArray.empty l 0, ⟨#[]⟩, ⟨#[]⟩, false, x6, false, rfl, HH, ⟨Nat.le_refl _⟩, ⟨Kd.R_nil _ _ _ _ _⟩, ⟨Kd.R_mono HO5.out (fun _ hk => (by simp [Value.ownBlock]))⟩, HR5, H55, HB5⟩
                  case round =>
                    clear HH HP HR5 H55 HB5 HO5 hx1
                    obtain ⟨l8, i, y0, y1, y2, y3, y4, y5, y6, y7, rfl, HA, HK3, HO_8, HO_9, BK121, BK125, HB⟩ := hrel
                    have GE121 := Aside0.mk (Nat.le_refl w.heap.size)
                    have GE125 := Aside0.mk (Nat.le_of_lt hlt1)
                    obtain ⟨Ao67, co67, eo67⟩ := Kd.R_slice HO_9.out
                    subst eo67
                    cases gk with
                    | zero => exact absurd HA.out (by simp [spec_ShortVolume.l0])
                    | succ kk =>
                      rw [spec_ShortVolume.l0] at HA
                      by_cases hi : i < (os.length : Int)
                      · rw [if_pos hi] at HA
                        have b0 : decide (i < (os.length : Int)) = true := decide_eq_true hi
                        by_cases hi0 : 0 ≤ i
                        · rw [if_pos hi0] at HA
                          obtain ⟨⟨t143, t144, t145, t146, t147, t148, t149, t150, t151, t152⟩, hp, h'⟩ := Option.bind_eq_some_iff.1 HA.out
                          have A64 := Aside0.mk hp
                          have HH := Aside0.mk h'
                          clear hp h' HA
                          have b1 : decide (0 ≤ i) = true := decide_eq_true hi0
                          try go_wp2
                          have n0_ := Aside0.mk (Kd.R_drew HO_8.out)
                          have n1_ := Aside0.mk (Kd.R_drew HO_9.out)
                          have n2_ := Aside0.mk (blk_drew BK121.out)
                          have n3_ := Aside0.mk (blk_drew BK125.out)
                          have n4_ := Aside0.mk (below_drew1 HB.out)
                          clear HO_8
                          clear HO_9
                          clear BK121
                          clear BK125
                          clear HB
                          have HO_8 := n0_
                          have HO_9 := n1_
                          have BK121 := n2_
                          have BK125 := n3_
                          have HB := n4_
                          clear n0_ n1_ n2_ n3_ n4_
                          have p142 : 0 ≤ (i : Int) := of_decide_eq_true (by first | (with_reducible assumption) | assumption)
                          have q142 : i < (os.length : Int) := of_decide_eq_true (by first | (with_reducible assumption) | assumption)
                          obtain ⟨ad142, e142, hx142_0⟩ := Kd.at_string (Kd.R_reads' HO_9.out).2.2 i p142 q142
                          cases e142
                          replace p142 := eq_true p142
                          replace q142 := eq_true q142
                          obtain ⟨Ao69, co69, eo69⟩ := Kd.R_slice HO_8.out
                          (first | subst eo69 | (injection eo69 with f1_ f2_ f3_; have f4_ := f1_.symm; have f5_ := f3_.symm; clear f1_ f2_ f3_; subst f4_; subst f5_))
                          refine start_ (n := 14) (S := fun w' => w'.cell? ⟨g5, 0, none⟩ = some (.string y0) ∧ w'.cell? ⟨g5, 1, none⟩ = some (.string y1) ∧ w'.cell? ⟨g5, 2, none⟩ = some (.string y2) ∧ w'.cell? ⟨g5, 3, none⟩ = some (.string y3) ∧ w'.cell? ⟨g5, 4, none⟩ = some (.string y4) ∧ w'.cell? ⟨g5, 5, none⟩ = some (.bool y5) ∧ w'.cell? ⟨g5, 6, none⟩ = some (.bool y6) ∧ w'.cell? ⟨g5, 7, none⟩ = some (.bool y7) ∧ w'.cell? (ad142.add (i).toNat) = some (.string (rdOf ByteArray.empty os i))) (ds := [11]) #[false, false, false, false, false, false, false, false, false, false, false, false, false, false] (by kernel_rfl) rfl rfl ⟨(blk_cell BK125.out 0).trans rfl, (blk_cell BK125.out 1).trans rfl, (blk_cell BK125.out 2).trans rfl, (blk_cell BK125.out 3).trans rfl, (blk_cell BK125.out 4).trans rfl, (blk_cell BK125.out 5).trans rfl, (blk_cell BK125.out 6).trans rfl, (blk_cell BK125.out 7).trans rfl, hx142_0⟩ (fun hHeld => ?_); refine with_tabW spec_ShortVolume.tab25 spec_ShortVolume.bits25 (fun HT_ HW_ => ?_)
                          generalize wr.drew = w68 at HO_8 HO_9 BK121 BK125 HB hx142_0 hHeld ⊢
                          refine pure_ (i := 1) (N := some 79) (v := ?_) (a' := ?_) #[false, true, false, false, false, false, false, false, false, false, false, false, false, false] rfl rfl (any_of HT_.out (by kernel_rfl)) (fun _ _ _ h => h) (Or.inl ⟨by rfl, ?_⟩) ?_ ?_
                          rotate_left
                          · intro w'
                            go_simp
                            with_reducible rfl
                          rotate_left
                          · simp only [Act.put, List.setIfInBounds_toArray, List.set_cons_zero, List.set_cons_succ, i64_w, i32_w]
                            rfl
                          refine pure_ (i := 2) (N := some 80) (v := ?_) (a' := ?_) #[false, true, true, false, false, false, false, false, false, false, false, false, false, false] rfl rfl (any_of HT_.out (by kernel_rfl)) (fun _ _ _ h => h) (Or.inl ⟨by rfl, ?_⟩) ?_ ?_
                          rotate_left
                          · intro w'
                            go_simp
                            with_reducible rfl
                          rotate_left
                          · simp only [Act.put, List.setIfInBounds_toArray, List.set_cons_zero, List.set_cons_succ, i64_w, i32_w]
                            rfl
                          refine pure_ (i := 3) (N := some 81) (v := ?_) (a' := ?_) #[false, true, true, true, false, false, false, false, false, false, false, false, false, false] rfl rfl (any_of HT_.out (by kernel_rfl)) (fun _ _ _ h => h) (Or.inl ⟨by rfl, ?_⟩) ?_ ?_
                          rotate_left
                          · intro w'
                            go_simp
                            with_reducible rfl
                          rotate_left
                          · simp only [Act.put, List.setIfInBounds_toArray, List.set_cons_zero, List.set_cons_succ, i64_w, i32_w]
                            rfl
                          refine pure_ (i := 5) (N := some 83) (v := ?_) (a' := ?_) #[false, true, true, true, false, true, false, false, false, false, false, false, false, false] rfl rfl (any_of HT_.out (by kernel_rfl)) (fun _ _ _ h => h) (Or.inl ⟨by rfl, ?_⟩) ?_ ?_
                          rotate_left
                          · intro w'
                            go_simp
                            with_reducible rfl
                          rotate_left
                          · simp only [Act.put, List.setIfInBounds_toArray, List.set_cons_zero, List.set_cons_succ, i64_w, i32_w]
                            rfl
                          refine take_ (i := 0) (N := some 78) (v := ?_) (a' := ?_) #[true, true, true, true, false, true, false, false, false, false, false, false, false, false] rfl rfl (take_ofW HT_.out HW_.out (by kernel_rfl)) (fun _ _ _ h => h) (Or.inl ⟨by rfl, ?_⟩) hHeld ?_ ?_
                          rotate_left
                          · rintro w' ⟨s0, s1, s2, s3, s4, s5, s6, s7, s8⟩
                            go_simp
                            with_reducible rfl
                          rotate_left
                          · simp only [Act.put, List.setIfInBounds_toArray, List.set_cons_zero, List.set_cons_succ, i64_w, i32_w]
                            rfl
                          refine take_ (i := 4) (N := some 82) (v := ?_) (a' := ?_) #[true, true, true, true, true, true, false, false, false, false, false, false, false, false] rfl rfl (take_ofW HT_.out HW_.out (by kernel_rfl)) (fun _ _ _ h => h) (Or.inl ⟨by rfl, ?_⟩) hHeld ?_ ?_
                          rotate_left
                          · rintro w' ⟨s0, s1, s2, s3, s4, s5, s6, s7, s8⟩
                            go_simp
                            with_reducible rfl
                          rotate_left
                          · simp only [Act.put, List.setIfInBounds_toArray, List.set_cons_zero, List.set_cons_succ, i64_w, i32_w]
                            rfl
                          refine one_ (i := 6) (N := some 84) #[true, true, true, true, true, true, true, false, false, false, false, false, false, false] rfl rfl (one_of HT_.out (by kernel_rfl)) (by decide) (fun K hK => ?_)
                          refine goes_ Tryd.func15 (by kernel_rfl) rfl #[.agg #[.string y0, .string y1, .string y2, .string y3, .string y4, .bool y5, .bool y6, .bool y7], .string (rdOf ByteArray.empty os i), .slice Ao69 l8.length co69] (by rfl) rfl rfl (by (try simp only [List.map_toArray, List.map_cons, List.map_nil]); first | done | rfl | (simp only [List.length_drop, List.length_take]; rfl)) ?_
                          with_reducible refine (spec_shortMode.calls kk y0 y1 y2 y3 y4 y5 y6 y7 (rdOf ByteArray.empty os i) _ _ l8 t143 t144 t145 t146 t147 t148 t149 t150 t151 t152 _ ?side1 ?side2 A64.out).mono ?_
                          (case side1 => repeat (first | exact (Kd.R_reads' HO_8.out).2.2 | (with_reducible refine Kd.C_alloc ?_ _) | (with_reducible refine Kd.C_drewN ?_ _) | (with_reducible refine Kd.C_drew ?_)))
                          (case side2 => exact (Kd.R_reads' HO_8.out).2.1)
                          rintro e w70 ⟨rfl, hb⟩
                          have HS8_ := (hb.cell (World.block_lt_of_cell? _ _ (hHeld.2.2.2.2.2.2.2.2))).trans (hHeld.2.2.2.2.2.2.2.2)
                          refine ⟨_, rfl, ?_⟩
                          have n0_ := Aside0.mk (Kd.R_below (by (with_reducible repeat (first | apply Kd.R_alloc | apply Kd.R_drewN | apply Kd.R_drew)); exact HO_8.out) hb)
                          have n1_ := Aside0.mk (Kd.R_below (by (with_reducible repeat (first | apply Kd.R_alloc | apply Kd.R_drewN | apply Kd.R_drew)); exact HO_9.out) hb)
                          have n2_ := Aside0.mk (blk_below (g := w.heap.size) (o := .cells #[.string ⟨#[]⟩, .string ⟨#[]⟩, .string ⟨#[]⟩, .string ⟨#[]⟩, .string ⟨#[]⟩, .bool false, .bool false, .bool false] 25 (0, 0)) (by (with_reducible repeat (first | refine blk_drewN ?_ _ | refine blk_drew ?_ | refine blk_alloc ?_ _)); exact BK121.out) hb)
                          have n3_ := Aside0.mk (blk_below (g := g5) (o := .cells #[.string y0, .string y1, .string y2, .string y3, .string y4, .bool y5, .bool y6, .bool y7] 25 (0, 0)) (by (with_reducible repeat (first | refine blk_drewN ?_ _ | refine blk_drew ?_ | refine blk_alloc ?_ _)); exact BK125.out) hb)
                          have n4_ := Aside0.mk (below_step (by repeat (first | (with_reducible first | exact HB.out | apply below_alloc | apply pw_below_drewN | apply below_drew1 | refine below_set ?_ GE121.out | refine below_set ?_ GE125.out) | exact HB.out)) hb)
                          clear HO_8
                          clear HO_9
                          clear BK121
                          clear BK125
                          clear HB
                          have HO_8 := n0_
                          have HO_9 := n1_
                          have BK121 := n2_
                          have BK125 := n3_
                          have HB := n4_
                          clear n0_ n1_ n2_ n3_ n4_
                          refine hK.out _ _ ⟨(blk_cell BK125.out 0).trans rfl, (blk_cell BK125.out 1).trans rfl, (blk_cell BK125.out 2).trans rfl, (blk_cell BK125.out 3).trans rfl, (blk_cell BK125.out 4).trans rfl, (blk_cell BK125.out 5).trans rfl, (blk_cell BK125.out 6).trans rfl, (blk_cell BK125.out 7).trans rfl, HS8_⟩ (fun hHeld => ?_)
                          clear hK K
                          refine norm_ (a' := ?_) ?_ ?_
                          rotate_left
                          · show Act.put _ (some 84) _ = _
                            simp only [Act.put, List.setIfInBounds_toArray, List.set_cons_zero, List.set_cons_succ, i64_w, i32_w]
                            rfl
                          refine pure_ (i := 7) (N := some 77) (v := ?_) (a' := ?_) #[true, true, true, true, true, true, true, true, false, false, false, false, false, false] rfl rfl (any_of HT_.out (by kernel_rfl)) (fun _ _ _ h => h) (Or.inl ⟨by rfl, ?_⟩) ?_ ?_
                          rotate_left
                          · intro w'
                            go_simp
                            with_reducible rfl
                          rotate_left
                          · simp only [Act.put, List.setIfInBounds_toArray, List.set_cons_zero, List.set_cons_succ, i64_w, i32_w]
                            rfl
                          refine pure_ (i := 8) (N := some 85) (v := ?_) (a' := ?_) #[true, true, true, true, true, true, true, true, true, false, false, false, false, false] rfl rfl (any_of HT_.out (by kernel_rfl)) (fun _ _ _ h => h) (Or.inl ⟨by rfl, ?_⟩) ?_ ?_
                          rotate_left
                          · intro w'
                            go_simp
                            with_reducible rfl
                          rotate_left
                          · simp only [Act.put, List.setIfInBounds_toArray, List.set_cons_zero, List.set_cons_succ, i64_w, i32_w]
                            rfl
                          refine pure_ (i := 9) (N := some 86) (v := ?_) (a' := ?_) #[true, true, true, true, true, true, true, true, true, true, false, false, false, false] rfl rfl (any_of HT_.out (by kernel_rfl)) (fun _ _ _ h => h) (Or.inl ⟨by rfl, ?_⟩) ?_ ?_
                          rotate_left
                          · intro w'
                            go_simp
                            with_reducible rfl
                          rotate_left
                          · simp only [Act.put, List.setIfInBounds_toArray, List.set_cons_zero, List.set_cons_succ, i64_w, i32_w]
                            rfl
                          refine pure_ (i := 10) (N := some 87) (v := ?_) (a' := ?_) #[true, true, true, true, true, true, true, true, true, true, true, false, false, false] rfl rfl (any_of HT_.out (by kernel_rfl)) (fun _ _ _ h => h) (Or.inl ⟨by rfl, ?_⟩) ?_ ?_
                          rotate_left
                          · intro w'
                            go_simp
                            with_reducible rfl
                          rotate_left
                          · simp only [Act.put, List.setIfInBounds_toArray, List.set_cons_zero, List.set_cons_succ, i64_w, i32_w]
                            rfl
                          refine last_ (i := 11) (N := none) #[true, true, true, true, true, true, true, true, true, true, true, true, false, false] rfl rfl (one_of HT_.out (by kernel_rfl)) (by decide) (fun K hK => ?_)
                          rw [if_pos (by rfl)]
                          refine wp_store_row 25 _ _ rfl g5 #[.string t143, .string t144, .string t145, .string t146, .string t147, .bool t148, .bool t149, .bool t150] rfl rfl 25 _ BK125.out (infoV _ _ _ _ _ _ _ _) rfl (oneV _ _ _ _ _ _ _ _) ?_
                          refine hK.out _ _ ?_
                          clear hK K
                          refine pure_ (i := 12) (N := some 11) (v := ?_) (a' := ?_) #[true, true, true, true, true, true, true, true, true, true, true, true, true, false] rfl rfl (any_of HT_.out (by kernel_rfl)) (fun _ _ _ h => h) (Or.inl ⟨by rfl, ?_⟩) ?_ ?_
                          rotate_left
                          · intro w'
                            go_simp
                            with_reducible rfl
                          rotate_left
                          · simp only [Act.put, List.setIfInBounds_toArray, List.set_cons_zero, List.set_cons_succ, i64_w, i32_w]
                            rfl
                          refine pure_ (i := 13) (N := some 12) (v := ?_) (a' := ?_) #[true, true, true, true, true, true, true, true, true, true, true, true, true, true] rfl rfl (any_of HT_.out (by kernel_rfl)) (fun _ _ _ h => h) (Or.inl ⟨by rfl, ?_⟩) ?_ ?_
                          rotate_left
                          · intro w'
                            go_simp
                            with_reducible rfl
                          rotate_left
                          · simp only [Act.put, List.setIfInBounds_toArray, List.set_cons_zero, List.set_cons_succ, i64_w, i32_w]
                            rfl
                          refine done_ (done_of HT_.out (by kernel_rfl)) ?_
                          have m0 := Aside0.mk (R_row HO_8.out BK125.out notV #[.string t143, .string t144, .string t145, .string t146, .string t147, .bool t148, .bool t149, .bool t150])
                          have m1 := Aside0.mk (R_row HO_9.out BK125.out notV #[.string t143, .string t144, .string t145, .string t146, .string t147, .bool t148, .bool t149, .bool t150])
                          have m2 := Aside0.mk (row_other BK121.out (Nat.ne_of_lt hlt1) #[.string t143, .string t144, .string t145, .string t146, .string t147, .bool t148, .bool t149, .bool t150])
                          have m3 := Aside0.mk (setRow_heap _ g5 _ #[.string t143, .string t144, .string t145, .string t146, .string t147, .bool t148, .bool t149, .bool t150] 25 (0, 0) BK125.out)
                          have m4 := Aside0.mk (below_setRow HB.out (Nat.le_of_lt hlt1) #[.string t143, .string t144, .string t145, .string t146, .string t147, .bool t148, .bool t149, .bool t150])
                          clear HO_8 HO_9 BK121 BK125 HB hHeld HT_ HW_
                          revert m0 m1 m2 m3 m4
                          generalize World.setRow _ g5 #[.string t143, .string t144, .string t145, .string t146, .string t147, .bool t148, .bool t149, .bool t150] = w6
                          intro HO_8 HO_9 BK121 BK125 HB
                          cases t152 with
                          | false =>
                            go_wp2_with (refine wpList_store_row rfl 25 _ _ rfl w.heap.size #[.string ⟨#[]⟩, .string ⟨#[]⟩, .string ⟨#[]⟩, .string ⟨#[]⟩, .string ⟨#[]⟩, .bool false, .bool false, .bool false] rfl rfl 25 _ BK121.out (infoV _ _ _ _ _ _ _ _) rfl (oneV _ _ _ _ _ _ _ _) ?_)
                            refine bodyPost_ret (results_sv _ _ _ rfl rfl (setRow_heap _ w.heap.size _ #[.string ⟨#[]⟩, .string ⟨#[]⟩, .string ⟨#[]⟩, .string ⟨#[]⟩, .string ⟨#[]⟩, .bool false, .bool false, .bool false] 25 (0, 0) BK121.out)) rfl ⟨?_, below_setRow HB.out (Nat.le_refl _) _⟩
                            have hz := HH.out
                            simp only [if_false, Bool.false_eq_true, Option.some.injEq, Prod.mk.injEq] at hz
                            obtain ⟨rfl, rfl, rfl, rfl, rfl, rfl, rfl, rfl, rfl⟩ := hz
                            rfl
                          | true =>
                            have HZ := HH.out
                            rw [if_pos rfl] at HZ
                            by_cases hl8 : l8.length < 8796093022208
                            · rw [if_pos hl8] at HZ
                              have HJ := Aside0.mk HZ
                              have HL8 := Aside0.mk hl8
                              clear HH HZ hl8
                              go_wp2_with (at_builtin; refine Kd.R_append Kd.string (w0 := w) w.heap.size rfl _ _ 22 9 (.string ⟨#[]⟩) 16 rfl Tryd.underlying22 infoS rfl (by decide) (by decide) _ l8 t151 [.string t151] (fun k_ => some k_ ≠ (Value.slice (some ad142) os.length co67).ownBlock) (fun _ => False) rfl rfl ?aP (fun _ hk => hk.elim) ?aF ?aO ?aB ?aS ?aL ?_; (case aP => rfl); (case aF => exact (fun k_ hk => Kd.fresh' (Kd.R_lt HO_9.out) k_ hk)); (case aO => exact HO_8.out); (case aB => exact HB.out); (case aS => exact HB.out.size); (case aL => have := HL8.out; omega); intro v154 w79 ho hb hg hat)
                              have n0_ := Aside0.mk (Kd.R_after (ok := (fun _ => True)) (Kd.R_mono HO_9.out (fun _ hk => ⟨trivial, hk⟩)) hg hat)
                              have n1_ := Aside0.mk (blk_grown BK121.out hg (Kd.R_ne HO_8.out BK121.out (by decide)))
                              have n2_ := Aside0.mk (blk_grown BK125.out hg (Kd.R_ne HO_8.out BK125.out (by decide)))
                              have n3_ := Aside0.mk hb
                              have n4_ := Aside0.mk ho
                              clear HO_9 BK121 BK125 HB HO_8
                              have HO_9 := Aside0.mk (Kd.R_mono n0_.out (fun _ hk => hk.2))
                              have BK121 := n1_
                              have BK125 := n2_
                              have HB := n3_
                              have HO155 := n4_
                              clear n0_ n1_ n2_ n3_ n4_
                              clear ho hb hg hat
                              go_roundg kk
                              case measure => have := HK3.out; omega
                              case rel => exact ⟨l8 ++ [t151], wrap64 (i + 1), t143, t144, t145, t146, t147, t148, t149, t150, (by first | rfl | (simp; done)), HJ, ⟨by have := HK3.out; omega⟩, HO155, HO_9, BK121, BK125, HB⟩
                            · rw [if_neg hl8] at HZ
                              exact absurd HZ (by simp)
                        · rw [if_neg hi0] at HA
                          exact absurd HA.out (by simp)
                      · rw [if_neg hi] at HA
                        have b0 : decide (i < (os.length : Int)) = false := decide_eq_false hi
                        go_wp2_with (first
                          | (refine wpList_load_row rfl 25 _ rfl g5 rfl 25 #[.string y0, .string y1, .string y2, .string y3, .string y4, .bool y5, .bool y6, .bool y7] (0, 0) _ BK125.out Tryd.underlying25 rfl (infoV _ _ _ _ _ _ _ _) ?_)
                          | (refine wpList_store_row rfl 25 _ _ rfl w.heap.size #[.string y0, .string y1, .string y2, .string y3, .string y4, .bool y5, .bool y6, .bool y7] rfl rfl 25 _ BK121.out (infoV _ _ _ _ _ _ _ _) rfl (oneV _ _ _ _ _ _ _ _) ?_))
                        refine bodyPost_ret (results_sv _ _ _ rfl rfl (setRow_heap _ w.heap.size _ #[.string y0, .string y1, .string y2, .string y3, .string y4, .bool y5, .bool y6, .bool y7] 25 (0, 0) BK121.out)) rfl ⟨?_, below_setRow HB.out (Nat.le_refl _) _⟩
                        have hz := HA.out
                        simp only [Option.some.injEq, Prod.mk.injEq] at hz
                        obtain ⟨rfl, rfl, rfl, rfl, rfl, rfl, rfl, rfl, rfl⟩ := hz
                        rfl
        · rw [if_neg hl0] at HJ
          exact absurd HJ.out (by simp)
end Go.Proofs.YtklbghadhneejaaDoor.V
