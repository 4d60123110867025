-- Written by a program over the translation (xprint.py). Lean checks it.
import Derived.Test.YtiamiagjkfioiaaGreatDoorPTx0
import Derived.Test.YtiamiagjkfioiaaGreatDoorPTx4
namespace Go.Proofs.YtiamiagjkfioiaaGreatDoor.PT
open Go.RowKit Go.Proofs.YtiamiagjkfioiaaGreatDoorW.PrintWords Go.Proofs.YtiamiagjkfioiaaGreatDoorW.PrintLast Go.Proofs.YtiamiagjkfioiaaGreatDoorW.PrintMore
attribute [local go_sem] max2_int min2_int max_two min_two max_three min_three max_four min_four   -- for this text's walks alone
set_option linter.unusedVariables false
set_option linter.unusedSimpArgs false

/-! ### spec_sayIn: function 55 -/
def spec_sayIn.l0 : Nat → ByteArray → List ByteArray → Int → Option (Bool)
  | 0, _, _, _ => none
  | k + 1, x0, x1, x5 => if x5 < (x1.length : Int) then (if 0 ≤ x5 then (if (rdOf ByteArray.empty x1 x5).toList = x0.toList then (some true) else (spec_sayIn.l0 k x0 x1 (wrap64 (x5 + 1)))) else (none)) else (some false)
def spec_sayIn.f (k : Nat) (a0 : ByteArray) (l1 : List ByteArray) : Option (Bool) := spec_sayIn.l0 k a0 l1 0
theorem spec_sayIn.mono_l : ∀ k, (∀ y0 y1 y2, LeO (spec_sayIn.l0 k y0 y1 y2) (spec_sayIn.l0 (k + 1) y0 y1 y2))
  | 0 => fun _ _ _ r h => by simp [spec_sayIn.l0] at h
  | k + 1 => by
    have ih0 := spec_sayIn.mono_l k
    · intro y0 y1 y2
      unfold spec_sayIn.l0
      repeat' first
      | (with_reducible exact ih0 _ _ _)
      | (with_reducible exact LeO.refl _)
      | (with_reducible exact LeO.none _)
      | (with_reducible refine LeO.ite ?_ ?_)
      | (with_reducible refine LeO.bind ?_ (fun _ => ?_))
      | exact ih0 _ _ _
      | exact LeO.none _
      | refine LeO.ite ?_ ?_
      | refine LeO.bind ?_ (fun _ => ?_)
theorem spec_sayIn.mono : ∀ a0 a1 k, LeO (spec_sayIn.f k a0 a1) (spec_sayIn.f (k + 1) a0 a1) := by
  intro a0 a1 k
  have ih0 := spec_sayIn.mono_l k
  unfold spec_sayIn.f
  repeat' first
      | (with_reducible exact ih0 _ _ _)
      | (with_reducible exact LeO.refl _)
      | (with_reducible exact LeO.none _)
      | (with_reducible refine LeO.ite ?_ ?_)
      | (with_reducible refine LeO.bind ?_ (fun _ => ?_))
      | exact ih0 _ _ _
      | exact LeO.none _
      | refine LeO.ite ?_ ?_
      | refine LeO.bind ?_ (fun _ => ?_)
set_option maxHeartbeats 8000000 in
set_option maxRecDepth 100000 in
theorem spec_sayIn.calls (k : Nat) (a0 : ByteArray) (A1 : Option Addr) (c1 : Nat) (l1 : List ByteArray) (r : Bool) (w : World) (hr1 : Kd.C Kd.string w A1 l1.length l1) (hc1 : l1.length ≤ c1) (h : spec_sayIn.f k a0 l1 = some r) :
    Calls Tryz.prog 55 #[.string a0, .slice A1 l1.length c1] w fun e w' => e = .returned (.bool r) ∧ Drawn0 w w' := by
  have HR1 := Aside0.mk hr1
  have HC1 := Aside0.mk hc1
  clear hr1 hc1
  have H : (spec_sayIn.l0 k a0 l1 0) = some r := h
  clear h
  have H' := Aside0.mk H
  clear H
  go_enter Tryz.func55, Tryz.ntmps55
  go_wp2
  go_loopg [5] k (fun kq v5 w' => ∃ (x5_1 : Int), v5 = .int .i64 x5_1 ∧ Aside0 (spec_sayIn.l0 kq a0 l1 x5_1 = some r) ∧ Aside0 (kq ≤ k) ∧ Drawn0 w w')
  case atStart => exact ⟨(0), (by first | rfl | (simp; done) | (simp [*]; done)), H', ⟨Nat.le_refl _⟩, by repeat (first | exact Drawn0.refl _ | apply Drawn0.step)⟩
  case round =>
    clear H'
    try clear c1
    try clear p2
    obtain ⟨x5_1, rfl, HA, HK1, ⟨m1, rfl⟩⟩ := hrel
    cases gk with
    | zero => exact absurd HA.out (by simp [spec_sayIn.l0])
    | succ k1 =>
      have H := HA.out
      clear HA
      simp only [spec_sayIn.l0] at H
      by_cases c3 : x5_1 < (l1.length : Int)
      · rw [if_pos c3] at H
        have c3b0 : decide (x5_1 < (l1.length : Int)) = true := decide_eq_true c3
        clear c3
        by_cases c4 : 0 ≤ x5_1
        · rw [if_pos c4] at H
          have c4b0 : decide (0 ≤ x5_1) = true := decide_eq_true c4
          clear c4
          by_cases c5 : (rdOf ByteArray.empty l1 x5_1).toList = a0.toList
          · rw [if_pos c5] at H
            have c5b0 : ((rdOf ByteArray.empty l1 x5_1).toList == a0.toList) = true := beq_iff_eq.mpr c5
            have c5b1 : ((rdOf ByteArray.empty l1 x5_1).toList != a0.toList) = false := bne_eq_false_iff_eq.mpr c5
            clear c5
            obtain rfl := Option.some.inj H
            have p157 : 0 ≤ (x5_1 : Int) := of_decide_eq_true (by first | (with_reducible assumption) | assumption)
            have q157 : x5_1 < (l1.length : Int) := of_decide_eq_true (by first | (with_reducible assumption) | assumption)
            obtain ⟨ad157, e157, hx157_0⟩ := Kd.at_string HR1.out x5_1 p157 q157
            cases e157
            replace p157 := eq_true p157
            replace q157 := eq_true q157
            go_wp2
            go_ret
            exact ⟨by first | rfl | (simp; done) | (simp [*]; done), by repeat (first | exact Drawn0.refl _ | apply Drawn0.step)⟩
          · rw [if_neg c5] at H
            have c5b0 : ((rdOf ByteArray.empty l1 x5_1).toList == a0.toList) = false := beq_eq_false_iff_ne.mpr c5
            have c5b1 : ((rdOf ByteArray.empty l1 x5_1).toList != a0.toList) = true := bne_iff_ne.mpr c5
            have H' := Aside0.mk H
            clear H
            have p157 : 0 ≤ (x5_1 : Int) := of_decide_eq_true (by first | (with_reducible assumption) | assumption)
            have q157 : x5_1 < (l1.length : Int) := of_decide_eq_true (by first | (with_reducible assumption) | assumption)
            obtain ⟨ad157, e157, hx157_0⟩ := Kd.at_string HR1.out x5_1 p157 q157
            cases e157
            replace p157 := eq_true p157
            replace q157 := eq_true q157
            go_wp2
            go_roundg k1
            case measure => have := HK1.out; omega
            case rel => exact ⟨(wrap64 (x5_1 + 1)), (by first | rfl | (simp; done) | (simp [*]; done)), H', ⟨by have := HK1.out; omega⟩, by repeat (first | exact Drawn0.refl _ | apply Drawn0.step)⟩
        · rw [if_neg c4] at H
          exact absurd H (by simp)
      · rw [if_neg c3] at H
        have c3b0 : decide (x5_1 < (l1.length : Int)) = false := decide_eq_false c3
        clear c3
        obtain rfl := Option.some.inj H
        go_wp2
        go_ret
        exact ⟨by first | rfl | (simp; done) | (simp [*]; done), by repeat (first | exact Drawn0.refl _ | apply Drawn0.step)⟩

/-! ### spec_sayNamed: function 59 -/
def spec_sayNamed.f (k : Nat) (a0 : ByteArray) : Option (Bool) := (spec_sayIn.f k a0 (([(⟨#[101, 110, 118, 105, 114, 111, 110, 109, 101, 110, 116]⟩ : ByteArray), (⟨#[108, 97, 98, 101, 108, 115]⟩ : ByteArray), (⟨#[97, 110, 110, 111, 116, 97, 116, 105, 111, 110, 115]⟩ : ByteArray), (⟨#[115, 121, 115, 99, 116, 108, 115]⟩ : ByteArray)] : List ByteArray))).bind fun t161 => (some t161)
theorem spec_sayNamed.mono : ∀ a0 k, LeO (spec_sayNamed.f k a0) (spec_sayNamed.f (k + 1) a0) := by
  intro a0 k
  unfold spec_sayNamed.f
  repeat' first
      | (with_reducible exact spec_sayIn.mono _ _ _)
      | (with_reducible exact LeO.refl _)
      | (with_reducible exact LeO.none _)
      | (with_reducible refine LeO.ite ?_ ?_)
      | (with_reducible refine LeO.bind ?_ (fun _ => ?_))
      | exact spec_sayIn.mono _ _ _
      | exact LeO.none _
      | refine LeO.ite ?_ ?_
      | refine LeO.bind ?_ (fun _ => ?_)
set_option maxHeartbeats 8000000 in
set_option maxRecDepth 100000 in
theorem spec_sayNamed.calls (k : Nat) (a0 : ByteArray) (r : Bool) (w : World) (h : spec_sayNamed.f k a0 = some r) :
    Calls Tryz.prog 59 #[.string a0] w fun e w' => e = .returned (.bool r) ∧ Below w.heap.size w w' := by
  have HB := Aside0.mk (Below.refl w.heap.size w)
  have H : ((spec_sayIn.f k a0 (([(⟨#[101, 110, 118, 105, 114, 111, 110, 109, 101, 110, 116]⟩ : ByteArray), (⟨#[108, 97, 98, 101, 108, 115]⟩ : ByteArray), (⟨#[97, 110, 110, 111, 116, 97, 116, 105, 111, 110, 115]⟩ : ByteArray), (⟨#[115, 121, 115, 99, 116, 108, 115]⟩ : ByteArray)] : List ByteArray))).bind fun t161 => (some t161)) = some r := h
  clear h
  obtain ⟨y158, hy158⟩ : ∃ y_ : List ByteArray, y_ = (([(⟨#[101, 110, 118, 105, 114, 111, 110, 109, 101, 110, 116]⟩ : ByteArray), (⟨#[108, 97, 98, 101, 108, 115]⟩ : ByteArray), (⟨#[97, 110, 110, 111, 116, 97, 116, 105, 111, 110, 115]⟩ : ByteArray), (⟨#[115, 121, 115, 99, 116, 108, 115]⟩ : ByteArray)] : List ByteArray)) := ⟨_, rfl⟩
  replace H : ((spec_sayIn.f k a0 y158).bind fun t161 => (some t161)) = some r := by first | (rw [hy158]; with_reducible exact H) | (have H2_ := (Option.bind_some _ _).symm.trans H; rw [hy158]; with_reducible exact H2_) | (have H2_ := (Option.bind_some _ _).symm.trans H; with_reducible exact H2_) | with_reducible exact H | (rw [hy158]; exact H) | exact H
  have Ny158 := Aside0.mk hy158
  clear hy158
  replace H := Option.bind_eq_some_iff.mp H
  obtain ⟨t161, A20, H⟩ := H
  replace H : (some t161) = some r := H
  have A2 := Aside0.mk A20
  clear A20
  obtain rfl := Option.some.inj H
  go_enter Tryz.func59, Tryz.ntmps59
  go_wp2_with (first | ((with_reducible refine gate_dst (N := 4) rfl ?_); refine Kd.R_lit Kd.string _ 9 ?hg (N := 4) ?hd (xs := ([(⟨#[101, 110, 118, 105, 114, 111, 110, 109, 101, 110, 116]⟩ : ByteArray), (⟨#[108, 97, 98, 101, 108, 115]⟩ : ByteArray), (⟨#[97, 110, 110, 111, 116, 97, 116, 105, 111, 110, 115]⟩ : ByteArray), (⟨#[115, 121, 115, 99, 116, 108, 115]⟩ : ByteArray)] : List ByteArray)) (inner := [.string (⟨#[101, 110, 118, 105, 114, 111, 110, 109, 101, 110, 116]⟩ : ByteArray), .string (⟨#[108, 97, 98, 101, 108, 115]⟩ : ByteArray), .string (⟨#[97, 110, 110, 111, 116, 97, 116, 105, 111, 110, 115]⟩ : ByteArray), .string (⟨#[115, 121, 115, 99, 116, 108, 115]⟩ : ByteArray)]) (ok := fun _ => True) (okp := fun _ => True) ?hr ?hp (fun _ hk => hk) trivial (Below.refl _ _) (Nat.le_refl _) (by simp) ?_; (case hd => rfl); (case hg => rfl); (case hr => first | (go_simp; done) | (go_simp; rfl)); (case hp => exact (Reps.one (show Kd.M Kd.string _ _ _ (⟨#[101, 110, 118, 105, 114, 111, 110, 109, 101, 110, 116]⟩ : ByteArray) [.string (⟨#[101, 110, 118, 105, 114, 111, 110, 109, 101, 110, 116]⟩ : ByteArray)] from rfl) (Reps.one (show Kd.M Kd.string _ _ _ (⟨#[108, 97, 98, 101, 108, 115]⟩ : ByteArray) [.string (⟨#[108, 97, 98, 101, 108, 115]⟩ : ByteArray)] from rfl) (Reps.one (show Kd.M Kd.string _ _ _ (⟨#[97, 110, 110, 111, 116, 97, 116, 105, 111, 110, 115]⟩ : ByteArray) [.string (⟨#[97, 110, 110, 111, 116, 97, 116, 105, 111, 110, 115]⟩ : ByteArray)] from rfl) (Reps.one (show Kd.M Kd.string _ _ _ (⟨#[115, 121, 115, 99, 116, 108, 115]⟩ : ByteArray) [.string (⟨#[115, 121, 115, 99, 116, 108, 115]⟩ : ByteArray)] from rfl) (Reps.none _ _)))))); intro v159 w3 ho4 hb hg_ hnew_; clear hg_ hnew_; (first | rw [← Ny158.out] at ho4 | (simp only [Int.reduceToNat] at ho4; rw [← Ny158.out] at ho4)); have n0_ := Aside0.mk (Kd.R_lower ho4 (below_size (by repeat (first | (with_reducible first | exact HB.out | apply below_alloc | apply pw_below_drewN | apply below_drew1) | exact HB.out)))); have n1_ := Aside0.mk (below_step (by repeat (first | (with_reducible first | exact HB.out | apply below_alloc | apply pw_below_drewN | apply below_drew1) | exact HB.out)) hb); clear HB; have HO160 := n0_; have HB := n1_; clear n0_ n1_; clear hb ho4; obtain ⟨Ao5, co5, eo5⟩ := Kd.R_slice HO160.out; subst eo5) | ((with_reducible refine gate_callee (f := 55) rfl ?_); refine goesL_ (some 5) rfl rfl Tryz.func55 (by kernel_rfl) rfl #[.string a0, .slice Ao5 y158.length co5] rfl (by (try simp only [List.map_toArray, List.map_cons, List.map_nil]); first | done | rfl | (simp only [List.length_drop, List.length_take]; rfl)) ?_; (with_reducible refine (spec_sayIn.calls k a0 _ _ y158 t161 _ ?side1 ?side2 A2.out).mono ?_); (case side1 => repeat (first | exact (Kd.R_reads' HO160.out).2.2 | (with_reducible refine Kd.C_alloc ?_ _) | (with_reducible refine Kd.C_drewN ?_ _) | (with_reducible refine Kd.C_drew ?_))); (case side2 => exact (Kd.R_reads' HO160.out).2.1); rintro e w' ⟨rfl, ⟨nd, rfl⟩⟩; refine ⟨_, rfl, ?_⟩))
  go_ret
  exact ⟨by first | rfl | (simp [errW_none, errW_some] <;> rfl) | (simp [*, errW_none, errW_some] <;> rfl), by repeat (first | (with_reducible first | exact HB.out | apply below_alloc | apply pw_below_drewN | apply below_drew1) | exact HB.out)⟩

/-! ### spec_mergeSplit: function 32 -/
def spec_mergeSplit.l0 : Nat → ByteArray → Int → Option (ByteArray × Int × Int × ByteArray × List ByteArray × (List (S26)))
  | 0, _, _ => none
  | k + 1, x0, x4 => if x4 < (x0.size : Int) then (if 0 ≤ x4 then (if (bt x0 x4) = 61 then (if x4 ≤ (x0.size : Int) then (if 0 ≤ (wrap64 (x4 + 1)) then (if (wrap64 (x4 + 1)) ≤ (x0.size : Int) then ((spec_T.f (x0.extract ((wrap64 (x4 + 1)) : Int).toNat x0.size)).bind fun bt163 => (some (x0.extract 0 (x4 : Int).toNat, bt163.1, bt163.2.1, bt163.2.2.1, bt163.2.2.2.1, bt163.2.2.2.2))) else (none)) else (none)) else (none)) else (spec_mergeSplit.l0 k x0 (wrap64 (x4 + 1)))) else (none)) else (some (x0, 0, 0, (⟨#[]⟩ : ByteArray), ([] : List ByteArray), ([] : List (S26))))
def spec_mergeSplit.f (k : Nat) (a0 : ByteArray) : Option (ByteArray × Int × Int × ByteArray × List ByteArray × (List (S26))) := spec_mergeSplit.l0 k a0 0
theorem spec_mergeSplit.mono_l : ∀ k, (∀ y0 y1, LeO (spec_mergeSplit.l0 k y0 y1) (spec_mergeSplit.l0 (k + 1) y0 y1))
  | 0 => fun _ _ r h => by simp [spec_mergeSplit.l0] at h
  | k + 1 => by
    have ih0 := spec_mergeSplit.mono_l k
    · intro y0 y1
      unfold spec_mergeSplit.l0
      repeat' first
      | (with_reducible exact ih0 _ _)
      | (with_reducible exact LeO.refl _)
      | (with_reducible exact LeO.none _)
      | (with_reducible refine LeO.ite ?_ ?_)
      | (with_reducible refine LeO.bind ?_ (fun _ => ?_))
      | exact ih0 _ _
      | exact LeO.none _
      | refine LeO.ite ?_ ?_
      | refine LeO.bind ?_ (fun _ => ?_)
theorem spec_mergeSplit.mono : ∀ a0 k, LeO (spec_mergeSplit.f k a0) (spec_mergeSplit.f (k + 1) a0) := by
  intro a0 k
  have ih0 := spec_mergeSplit.mono_l k
  unfold spec_mergeSplit.f
  repeat' first
      | (with_reducible exact ih0 _ _)
      | (with_reducible exact LeO.refl _)
      | (with_reducible exact LeO.none _)
      | (with_reducible refine LeO.ite ?_ ?_)
      | (with_reducible refine LeO.bind ?_ (fun _ => ?_))
      | exact ih0 _ _
      | exact LeO.none _
      | refine LeO.ite ?_ ?_
      | refine LeO.bind ?_ (fun _ => ?_)
def spec_mergeSplit.T5 : Bool × List (List Nat × List Nat) := (true, [([], []), ([], []), ([0, 1], [0, 1]), ([], []), ([], []), ([4], [4]), ([3, 5], [3, 5]), ([6], [6]), ([2, 7, 0, 1, 2], [2]), ([7, 8, 0, 1, 2, 3, 4, 5, 6, 7, 8], [7])])
def spec_mergeSplit.B5 : List Nat := [0, 0, 3, 0, 0, 16, 56, 120, 255, 511]
theorem spec_mergeSplit.tab5 : rtab .any (opsOf Tryz.f32 5) = spec_mergeSplit.T5 := by kernel_rfl
theorem spec_mergeSplit.bits5 : waitsOk spec_mergeSplit.T5.2 spec_mergeSplit.B5 = true := by kernel_rfl
set_option maxHeartbeats 8000000 in
set_option maxRecDepth 100000 in
theorem spec_mergeSplit.calls (k : Nat) (a0 : ByteArray) (r1 : ByteArray) (r2 : Int) (r3 : Int) (r4 : ByteArray) (r5 : List ByteArray) (r6 : List (S26)) (w : World) (h : spec_mergeSplit.f k a0 = some (r1, r2, r3, r4, r5, r6)) :
    Calls Tryz.prog 32 #[.string a0] w fun e w' => ∃ v4_ v5_ : Value, e = .returned (.tuple #[.string r1, .agg #[.int .i64 r2, .int .i64 r3, .string r4, v4_, v5_]]) ∧ Kd.R Kd.string 9 w' w.heap.size (fun _ => True) v4_ r5 ∧ Kd.R k26 26 w' w.heap.size (fun k_ => some k_ ≠ (v4_ : Value).ownBlock) v5_ r6 ∧ Below w.heap.size w w' := by
  have hu26 := Tryz.underlying26
  have HB := Aside0.mk (Below.refl w.heap.size w)
  have H : (spec_mergeSplit.l0 k a0 0) = some (r1, r2, r3, r4, r5, r6) := h
  clear h
  have H' := Aside0.mk H
  clear H
  go_enter Tryz.func32, Tryz.ntmps32
  go_wp2_with (first | ((with_reducible refine gate_dst (N := 3) rfl ?_); refine box_event ?hg (N := 3) ?hd (cs := #[.int .i64 0, .int .i64 0, .string (⟨#[]⟩ : ByteArray), .slice none 0 0, .slice none 0 0]) (t := 26) ?hr ?_; (case hd => rfl); (case hg => rfl); (case hr => first | (go_simp; done) | (go_simp; rfl)); intro gb162 hg w2 hbox hb; have n0_ := Aside0.mk (below_step (by repeat (first | (with_reducible first | exact HB.out | apply below_alloc | apply pw_below_drewN | apply below_drew1) | exact HB.out)) hb); have n1_ := Aside0.mk (hbox); have n2_ := Aside0.mk ((by rw [hg]; exact (below_size (by repeat (first | (with_reducible first | exact HB.out | apply below_alloc | apply pw_below_drewN | apply below_drew1) | exact HB.out))) : w.heap.size ≤ gb162)); have n3_ := Aside0.mk ((by rw [hg]; exact (below_size (by repeat (first | (with_reducible first | exact HB.out | apply below_alloc | apply pw_below_drewN | apply below_drew1) | exact HB.out))) : w.heap.size ≤ gb162)); clear HB; have HB := n0_; have BK162 := n1_; have GW162 := n2_; have GE162 := n3_; clear n0_ n1_ n2_ n3_; clear hb hbox hg))
  go_loopg [4] k (fun kq v4 w' => ∃ (x4_1 : Int) (x163000_1 : Int) (x163001_1 : Int) (x163002_1 : ByteArray), v4 = .int .i64 x4_1 ∧ Aside0 (spec_mergeSplit.l0 kq a0 x4_1 = some (r1, r2, r3, r4, r5, r6)) ∧ Aside0 (kq ≤ k) ∧ Aside0 (w'.heap[gb162]? = some (.cells #[.int .i64 x163000_1, .int .i64 x163001_1, .string x163002_1, (.slice none 0 0), (.slice none 0 0)] 26 (0, 0))) ∧ Aside0 (Below w.heap.size w w'))
  case atStart => exact ⟨(0), (0), (0), ((⟨#[]⟩ : ByteArray)), (by first | rfl | (simp; done) | (simp [*]; done)), H', ⟨Nat.le_refl _⟩, ⟨by (with_reducible repeat (first | refine blk_drewN ?_ _ | refine blk_drew ?_ | refine blk_alloc ?_ _)); exact BK162.out⟩, ⟨by repeat (first | (with_reducible first | exact HB.out | apply below_alloc | apply pw_below_drewN | apply below_drew1 | refine below_set ?_ GE162.out) | exact HB.out)⟩⟩
  case round =>
    clear H'
    try clear p2
    obtain ⟨x4_1, x163000_1, x163001_1, x163002_1, rfl, HA, HK1, BK162, HB⟩ := hrel
    cases gk with
    | zero => exact absurd HA.out (by simp [spec_mergeSplit.l0])
    | succ k1 =>
      have H := HA.out
      clear HA
      simp only [spec_mergeSplit.l0] at H
      by_cases c3 : x4_1 < (a0.size : Int)
      · rw [if_pos c3] at H
        have c3b0 : decide (x4_1 < (a0.size : Int)) = true := decide_eq_true c3
        clear c3
        by_cases c4 : 0 ≤ x4_1
        · rw [if_pos c4] at H
          have c4b0 : decide (0 ≤ x4_1) = true := decide_eq_true c4
          clear c4
          by_cases c6 : (bt a0 x4_1) = 61
          · rw [if_pos c6] at H
            have c6b0 : ((bt a0 x4_1) == 61) = true := beq_iff_eq.mpr c6
            have c6b1 : ((bt a0 x4_1) != 61) = false := bne_eq_false_iff_eq.mpr c6
            clear c6
            have c7b0 := eq_true (of_decide_eq_true (by first | (with_reducible assumption) | assumption) : 0 ≤ x4_1)
            by_cases c8 : x4_1 ≤ (a0.size : Int)
            · rw [if_pos c8] at H
              have c8b0 := eq_true c8
              have c8b1 : decide (x4_1 ≤ (a0.size : Int)) = true := decide_eq_true c8
              clear c8
              obtain ⟨ji9, hji9⟩ : ∃ j_ : Int, (wrap64 (x4_1 + 1)) = j_ := ⟨_, rfl⟩
              replace H : (if 0 ≤ (ji9) then (if (ji9) ≤ (a0.size : Int) then ((spec_T.f (a0.extract ((ji9) : Int).toNat a0.size)).bind fun bt163 => (some (a0.extract 0 (x4_1 : Int).toNat, bt163.1, bt163.2.1, bt163.2.2.1, bt163.2.2.2.1, bt163.2.2.2.2))) else (none)) else (none)) = some (r1, r2, r3, r4, r5, r6) := by first | (rw [hji9] at H; exact H) | (simp only [hji9] at H ⊢; exact H)
              have hji9w : (IntKind.i64.wrap (x4_1 + 1)) = ji9 := (i64_w _).trans hji9
              by_cases c10 : 0 ≤ (ji9)
              · rw [if_pos c10] at H
                have c10b0 := eq_true c10
                have c10b1 : decide (0 ≤ (ji9)) = true := decide_eq_true c10
                clear c10
                by_cases c11 : (ji9) ≤ (a0.size : Int)
                · rw [if_pos c11] at H
                  have c11b0 := eq_true c11
                  have c11b1 : decide ((ji9) ≤ (a0.size : Int)) = true := decide_eq_true c11
                  clear c11
                  replace H := Option.bind_eq_some_iff.mp H
                  obtain ⟨⟨t163, t164, t165, t166, t169⟩, A120, H⟩ := H
                  replace H : (some (a0.extract 0 (x4_1 : Int).toNat, t163, t164, t165, t166, t169)) = some (r1, r2, r3, r4, r5, r6) := H
                  have A12 := Aside0.mk A120
                  clear A120
                  simp only [Option.some.injEq, Prod.mk.injEq] at H
                  obtain ⟨rfl, rfl, rfl, rfl, rfl, rfl⟩ := H
                  have p5 : 0 ≤ (x4_1 : Int) := of_decide_eq_true (by first | (with_reducible assumption) | assumption)
                  have q5 : x4_1 < (a0.size : Int) := of_decide_eq_true (by first | (with_reducible assumption) | assumption)
                  have hx5 := bt_at a0 x4_1
                  replace p5 := eq_true p5
                  replace q5 := eq_true q5
                  try go_wp2
                  have n0_ := Aside0.mk (blk_drew BK162.out)
                  have n1_ := Aside0.mk (below_drew1 HB.out)
                  clear BK162
                  clear HB
                  have BK162 := n0_
                  have HB := n1_
                  clear n0_ n1_
                  refine start_ (n := 10) (S := fun w' => True) (ds := []) #[false, false, false, false, false, false, false, false, false, false] (by kernel_rfl) rfl rfl trivial (fun hHeld => ?_); refine with_tabW spec_mergeSplit.tab5 spec_mergeSplit.bits5 (fun HT_ HW_ => ?_)
                  generalize wr.drew = w13 at BK162 HB hHeld ⊢
                  refine pure_ (i := 0) (N := some 15) (v := ?_) (a' := ?_) #[true, false, false, false, false, false, false, false, false, false] rfl rfl (any_of HT_.out (by kernel_rfl)) (fun _ _ _ h => h) (Or.inl ⟨by rfl, ?_⟩) ?_ ?_
                  rotate_left
                  · intro w'
                    go_simp
                    with_reducible rfl
                  rotate_left
                  · simp only [Act.put, List.setIfInBounds_toArray, List.set_cons_zero, List.set_cons_succ, i64_w, i32_w]
                    rfl
                  refine pure_ (i := 1) (N := some 16) (v := ?_) (a' := ?_) #[true, true, false, false, false, false, false, false, false, false] rfl rfl (any_of HT_.out (by kernel_rfl)) (fun _ _ _ h => h) (Or.inl ⟨by rfl, ?_⟩) ?_ ?_
                  rotate_left
                  · intro w'
                    go_simp
                    with_reducible rfl
                  rotate_left
                  · simp only [Act.put, List.setIfInBounds_toArray, List.set_cons_zero, List.set_cons_succ, i64_w, i32_w]
                    rfl
                  refine pure_ (i := 2) (N := some 17) (v := ?_) (a' := ?_) #[true, true, true, false, false, false, false, false, false, false] rfl rfl (any_of HT_.out (by kernel_rfl)) (fun _ _ _ h => h) (Or.inl ⟨by rfl, ?_⟩) ?_ ?_
                  rotate_left
                  · intro w'
                    go_simp
                    with_reducible rfl
                  rotate_left
                  · simp only [Act.put, List.setIfInBounds_toArray, List.set_cons_zero, List.set_cons_succ, i64_w, i32_w]
                    rfl
                  refine pure_ (i := 3) (N := some 18) (v := ?_) (a' := ?_) #[true, true, true, true, false, false, false, false, false, false] rfl rfl (any_of HT_.out (by kernel_rfl)) (fun _ _ _ h => h) (Or.inl ⟨by rfl, ?_⟩) ?_ ?_
                  rotate_left
                  · intro w'
                    go_simp
                    with_reducible rfl
                  rotate_left
                  · simp only [Act.put, List.setIfInBounds_toArray, List.set_cons_zero, List.set_cons_succ, i64_w, i32_w]
                    rfl
                  refine pure_ (i := 4) (N := some 19) (v := ?_) (a' := ?_) #[true, true, true, true, true, false, false, false, false, false] rfl rfl (any_of HT_.out (by kernel_rfl)) (fun _ _ _ h => h) (Or.inl ⟨by rfl, ?_⟩) ?_ ?_
                  rotate_left
                  · intro w'
                    go_simp
                    with_reducible rfl
                  rotate_left
                  · simp only [Act.put, List.setIfInBounds_toArray, List.set_cons_zero, List.set_cons_succ, i64_w, i32_w]
                    rfl
                  refine pure_ (i := 5) (N := some 20) (v := ?_) (a' := ?_) #[true, true, true, true, true, true, false, false, false, false] rfl rfl (any_of HT_.out (by kernel_rfl)) (fun _ _ _ h => h) (Or.inl ⟨by rfl, ?_⟩) ?_ ?_
                  rotate_left
                  · intro w'
                    go_simp
                    with_reducible rfl
                  rotate_left
                  · simp only [Act.put, List.setIfInBounds_toArray, List.set_cons_zero, List.set_cons_succ, i64_w, i32_w]
                    rfl
                  refine pure_ (i := 6) (N := some 21) (v := ?_) (a' := ?_) #[true, true, true, true, true, true, true, false, false, false] rfl rfl (any_of HT_.out (by kernel_rfl)) (fun _ _ _ h => h) (Or.inl ⟨by rfl, ?_⟩) ?_ ?_
                  rotate_left
                  · intro w'
                    go_simp
                    with_reducible rfl
                  rotate_left
                  · simp only [Act.put, List.setIfInBounds_toArray, List.set_cons_zero, List.set_cons_succ, i64_w, i32_w]
                    rfl
                  refine one_ (i := 7) (N := some 22) #[true, true, true, true, true, true, true, true, false, false] rfl rfl (one_of HT_.out (by kernel_rfl)) (by decide) (fun K hK => ?_)
                  refine goes_ Tryz.func26 (by kernel_rfl) rfl #[.string (a0.extract ((ji9) : Int).toNat a0.size)] (by rfl) rfl rfl (by (try simp only [List.map_toArray, List.map_cons, List.map_nil]); first | done | (simp only [hji9]; rfl) | rfl | (simp only [List.length_drop, List.length_take]; rfl)) ?_
                  with_reducible refine (spec_T.calls (a0.extract ((ji9) : Int).toNat a0.size) t163 t164 t165 t166 t169 _ A12.out).mono ?_
                  rintro e w14 ⟨v167, v170, rfl, ho0, ho1, hb⟩
                  refine ⟨_, rfl, ?_⟩
                  have n0_ := Aside0.mk (Kd.R_lower ho0 (below_size (by repeat (first | (with_reducible first | exact HB.out | apply below_alloc | apply pw_below_drewN | apply below_drew1 | refine below_set ?_ GE162.out) | exact HB.out))))
                  have n1_ := Aside0.mk (Kd.R_lower (Kd.R_newB ho1 (g := gb162) (o := .cells #[.int .i64 x163000_1, .int .i64 x163001_1, .string x163002_1, .slice none 0 0, .slice none 0 0] 26 (0, 0)) (by (with_reducible repeat (first | refine blk_drewN ?_ _ | refine blk_drew ?_ | refine blk_alloc ?_ _)); exact BK162.out)) (below_size (by repeat (first | (with_reducible first | exact HB.out | apply below_alloc | apply pw_below_drewN | apply below_drew1 | refine below_set ?_ GE162.out) | exact HB.out))))
                  have n2_ := Aside0.mk (blk_below (g := gb162) (o := .cells #[.int .i64 x163000_1, .int .i64 x163001_1, .string x163002_1, .slice none 0 0, .slice none 0 0] 26 (0, 0)) (by (with_reducible repeat (first | refine blk_drewN ?_ _ | refine blk_drew ?_ | refine blk_alloc ?_ _)); exact BK162.out) hb)
                  have n3_ := Aside0.mk (below_step (by repeat (first | (with_reducible first | exact HB.out | apply below_alloc | apply pw_below_drewN | apply below_drew1 | refine below_set ?_ GE162.out) | exact HB.out)) hb)
                  clear BK162
                  clear HB
                  have HO168 := n0_
                  have HO171 := n1_
                  have BK162 := n2_
                  have HB := n3_
                  clear n0_ n1_ n2_ n3_
                  (try clear hb)
                  (try clear hb2)
                  (try clear hk)
                  (try clear hi)
                  (try clear ho0)
                  (try clear ho1)
                  obtain ⟨Ao18, co18, eo18⟩ := Kd.R_slice HO168.out
                  (first | subst eo18 | (injection eo18 with f1_ f2_ f3_; have f4_ := f1_.symm; have f5_ := f3_.symm; clear f1_ f2_ f3_; subst f4_; subst f5_))
                  obtain ⟨Ao20, co20, eo20⟩ := Kd.R_slice HO171.out
                  (first | subst eo20 | (injection eo20 with f1_ f2_ f3_; have f4_ := f1_.symm; have f5_ := f3_.symm; clear f1_ f2_ f3_; subst f4_; subst f5_))
                  refine hK.out _ _ trivial (fun hHeld => ?_)
                  clear hK K
                  refine norm_ (a' := ?_) ?_ ?_
                  rotate_left
                  · show Act.put _ (some 22) _ = _
                    simp only [Act.put, List.setIfInBounds_toArray, List.set_cons_zero, List.set_cons_succ, i64_w, i32_w]
                    rfl
                  refine pure_ (i := 8) (N := some 2) (v := ?_) (a' := ?_) #[true, true, true, true, true, true, true, true, true, false] rfl rfl (any_of HT_.out (by kernel_rfl)) (fun _ _ _ h => h) (Or.inl ⟨by rfl, ?_⟩) ?_ ?_
                  rotate_left
                  · intro w'
                    go_simp
                    with_reducible rfl
                  rotate_left
                  · simp only [Act.put, List.setIfInBounds_toArray, List.set_cons_zero, List.set_cons_succ, i64_w, i32_w]
                    rfl
                  refine one_ (i := 9) (N := none) #[true, true, true, true, true, true, true, true, true, true] rfl rfl (one_of HT_.out (by kernel_rfl)) (by decide) (fun K hK => ?_)
                  have hs15 : w14.cell? ⟨gb162, 0, none⟩ = some (.int .i64 x163000_1) := (blk_cell BK162.out 0).trans rfl
                  have hfs15 := blk_frozen BK162.out 0
                  have hs16 : w14.cell? ⟨gb162, 1, none⟩ = some (.int .i64 x163001_1) := (blk_cell BK162.out 1).trans rfl
                  have hfs16 := blk_frozen BK162.out 1
                  have hs17 : w14.cell? ⟨gb162, 2, none⟩ = some (.string x163002_1) := (blk_cell BK162.out 2).trans rfl
                  have hfs17 := blk_frozen BK162.out 2
                  have hs19 : w14.cell? ⟨gb162, 3, none⟩ = some (.slice none 0 0) := (blk_cell BK162.out 3).trans rfl
                  have hfs19 := blk_frozen BK162.out 3
                  have hs21 : w14.cell? ⟨gb162, 4, none⟩ = some (.slice none 0 0) := (blk_cell BK162.out 4).trans rfl
                  have hfs21 := blk_frozen BK162.out 4
                  refine skip_ (w1 := ?_) (by rfl) rfl ?_ ?_
                  rotate_left
                  · go_simp
                    rfl
                  refine hK.out _ _ trivial (fun hHeld => ?_)
                  clear hK K
                  refine done_ (done_of HT_.out (by kernel_rfl)) ?_
                  try go_wp2
                  refine bodyPost_ret (results_tc rfl _ _ gb162 26 #[.int .i64 t163, .int .i64 t164, .string t165, .slice Ao18 t166.length co18, .slice Ao20 t169.length co20] (0, 0) _ rfl (by (with_reducible repeat (first | refine blk_drewN ?_ _ | refine blk_drew ?_ | refine blk_alloc ?_ _)); refine blk_put (cs := #[.int .i64 t163, .int .i64 t164, .string t165, .slice Ao18 t166.length co18, .slice none 0 0]) ?_ 4 _ rfl; (with_reducible repeat (first | refine blk_drewN ?_ _ | refine blk_drew ?_ | refine blk_alloc ?_ _)); refine blk_put (cs := #[.int .i64 t163, .int .i64 t164, .string t165, .slice none 0 0, .slice none 0 0]) ?_ 3 _ rfl; (with_reducible repeat (first | refine blk_drewN ?_ _ | refine blk_drew ?_ | refine blk_alloc ?_ _)); refine blk_put (cs := #[.int .i64 t163, .int .i64 t164, .string x163002_1, .slice none 0 0, .slice none 0 0]) ?_ 2 _ rfl; (with_reducible repeat (first | refine blk_drewN ?_ _ | refine blk_drew ?_ | refine blk_alloc ?_ _)); refine blk_put (cs := #[.int .i64 t163, .int .i64 x163001_1, .string x163002_1, .slice none 0 0, .slice none 0 0]) ?_ 1 _ rfl; (with_reducible repeat (first | refine blk_drewN ?_ _ | refine blk_drew ?_ | refine blk_alloc ?_ _)); refine blk_put (cs := #[.int .i64 x163000_1, .int .i64 x163001_1, .string x163002_1, .slice none 0 0, .slice none 0 0]) ?_ 0 _ rfl; (with_reducible repeat (first | refine blk_drewN ?_ _ | refine blk_drew ?_ | refine blk_alloc ?_ _)); exact BK162.out) Tryz.underlying26 rfl (by kernel_rfl)) rfl ?_
                  exact ⟨_, _, by first | rfl | (simp [errW_none, errW_some] <;> rfl) | (simp only [← hji9]; first | rfl | (simp [errW_none, errW_some] <;> rfl)) | (simp [*, errW_none, errW_some] <;> rfl), by (with_reducible repeat (first | apply Kd.R_alloc | apply Kd.R_drewN | apply Kd.R_drew)); exact Kd.R_mono (Kd.R_far (p := ⟨gb162, 4, none⟩) (Kd.R_far (p := ⟨gb162, 3, none⟩) (Kd.R_far (p := ⟨gb162, 2, none⟩) (Kd.R_far (p := ⟨gb162, 1, none⟩) (Kd.R_far (p := ⟨gb162, 0, none⟩) (Kd.R_types HO168.out BK162.out (by decide)) (fun _ hk => hk.2) (.int .i64 t163)) (fun _ hk => hk.2) (.int .i64 t164)) (fun _ hk => hk.2) (.string t165)) (fun _ hk => hk.2) (.slice Ao18 t166.length co18)) (fun _ hk => hk.2) (.slice Ao20 t169.length co20)) (fun _ hk => trivial), by (with_reducible repeat (first | apply Kd.R_alloc | apply Kd.R_drewN | apply Kd.R_drew)); exact Kd.R_mono (Kd.R_far (p := ⟨gb162, 4, none⟩) (Kd.R_far (p := ⟨gb162, 3, none⟩) (Kd.R_far (p := ⟨gb162, 2, none⟩) (Kd.R_far (p := ⟨gb162, 1, none⟩) (Kd.R_far (p := ⟨gb162, 0, none⟩) (Kd.R_mono HO171.out (fun k_ hk => (⟨hk, hk.2⟩ : _ ∧ k_ ≠ gb162))) (fun _ hk => hk.2) (.int .i64 t163)) (fun _ hk => hk.2) (.int .i64 t164)) (fun _ hk => hk.2) (.string t165)) (fun _ hk => hk.2) (.slice Ao18 t166.length co18)) (fun _ hk => hk.2) (.slice Ao20 t169.length co20)) (fun _ hk => hk.1.1), by repeat (first | (with_reducible first | exact HB.out | apply below_alloc | apply pw_below_drewN | apply below_drew1 | refine below_set ?_ GE162.out) | exact HB.out)⟩
                · rw [if_neg c11] at H
                  exact absurd H (by simp)
              · rw [if_neg c10] at H
                exact absurd H (by simp)
            · rw [if_neg c8] at H
              exact absurd H (by simp)
          · rw [if_neg c6] at H
            have c6b0 : ((bt a0 x4_1) == 61) = false := beq_eq_false_iff_ne.mpr c6
            have c6b1 : ((bt a0 x4_1) != 61) = true := bne_iff_ne.mpr c6
            have H' := Aside0.mk H
            clear H
            have p5 : 0 ≤ (x4_1 : Int) := of_decide_eq_true (by first | (with_reducible assumption) | assumption)
            have q5 : x4_1 < (a0.size : Int) := of_decide_eq_true (by first | (with_reducible assumption) | assumption)
            have hx5 := bt_at a0 x4_1
            replace p5 := eq_true p5
            replace q5 := eq_true q5
            go_wp2
            go_roundg k1
            case measure => have := HK1.out; omega
            case rel => exact ⟨(wrap64 (x4_1 + 1)), (x163000_1), (x163001_1), (x163002_1), (by first | rfl | (simp; done) | (simp [*]; done)), H', ⟨by have := HK1.out; omega⟩, ⟨by (with_reducible repeat (first | refine blk_drewN ?_ _ | refine blk_drew ?_ | refine blk_alloc ?_ _)); exact BK162.out⟩, ⟨by repeat (first | (with_reducible first | exact HB.out | apply below_alloc | apply pw_below_drewN | apply below_drew1 | refine below_set ?_ GE162.out) | exact HB.out)⟩⟩
        · rw [if_neg c4] at H
          exact absurd H (by simp)
      · rw [if_neg c3] at H
        have c3b0 : decide (x4_1 < (a0.size : Int)) = false := decide_eq_false c3
        clear c3
        simp only [Option.some.injEq, Prod.mk.injEq] at H
        obtain ⟨rfl, rfl, rfl, rfl, rfl, rfl⟩ := H
        have hcz22_0 : wr.cell? ⟨gb162, 0, none⟩ = some (.int .i64 x163000_1) := (blk_cell BK162.out 0).trans rfl
        have hcz22_1 : wr.cell? ⟨gb162, 1, none⟩ = some (.int .i64 x163001_1) := (blk_cell BK162.out 1).trans rfl
        have hcz22_2 : wr.cell? ⟨gb162, 2, none⟩ = some (.string x163002_1) := (blk_cell BK162.out 2).trans rfl
        have hcz22_3 : wr.cell? ⟨gb162, 3, none⟩ = some (.slice none 0 0) := (blk_cell BK162.out 3).trans rfl
        have hcz22_4 : wr.cell? ⟨gb162, 4, none⟩ = some (.slice none 0 0) := (blk_cell BK162.out 4).trans rfl
        have hfz22_0 := blk_frozen BK162.out 0
        have hfz22_1 := blk_frozen BK162.out 1
        have hfz22_2 := blk_frozen BK162.out 2
        have hfz22_3 := blk_frozen BK162.out 3
        have hfz22_4 := blk_frozen BK162.out 4
        go_wp2
        refine bodyPost_ret (results_tc rfl _ _ gb162 26 #[.int .i64 0, .int .i64 0, .string (⟨#[]⟩ : ByteArray), .slice none 0 0, .slice none 0 0] (0, 0) _ rfl (by (with_reducible repeat (first | refine blk_drewN ?_ _ | refine blk_drew ?_ | refine blk_alloc ?_ _)); refine blk_put (cs := #[.int .i64 0, .int .i64 0, .string (⟨#[]⟩ : ByteArray), .slice none 0 0, .slice none 0 0]) ?_ 4 _ rfl; (with_reducible repeat (first | refine blk_drewN ?_ _ | refine blk_drew ?_ | refine blk_alloc ?_ _)); refine blk_put (cs := #[.int .i64 0, .int .i64 0, .string (⟨#[]⟩ : ByteArray), .slice none 0 0, .slice none 0 0]) ?_ 3 _ rfl; (with_reducible repeat (first | refine blk_drewN ?_ _ | refine blk_drew ?_ | refine blk_alloc ?_ _)); refine blk_put (cs := #[.int .i64 0, .int .i64 0, .string x163002_1, .slice none 0 0, .slice none 0 0]) ?_ 2 _ rfl; (with_reducible repeat (first | refine blk_drewN ?_ _ | refine blk_drew ?_ | refine blk_alloc ?_ _)); refine blk_put (cs := #[.int .i64 0, .int .i64 x163001_1, .string x163002_1, .slice none 0 0, .slice none 0 0]) ?_ 1 _ rfl; (with_reducible repeat (first | refine blk_drewN ?_ _ | refine blk_drew ?_ | refine blk_alloc ?_ _)); refine blk_put (cs := #[.int .i64 x163000_1, .int .i64 x163001_1, .string x163002_1, .slice none 0 0, .slice none 0 0]) ?_ 0 _ rfl; (with_reducible repeat (first | refine blk_drewN ?_ _ | refine blk_drew ?_ | refine blk_alloc ?_ _)); exact BK162.out) Tryz.underlying26 rfl (by kernel_rfl)) rfl ?_
        exact ⟨_, _, by first | rfl | (simp [errW_none, errW_some] <;> rfl) | (simp [*, errW_none, errW_some] <;> rfl), by first | exact Kd.R_nil _ _ _ _ _ | exact Kd.N_nil _ _ _ _ _ | exact Kd.V_nil _ _ _ _ _ | exact Kd.Q_nil _ _ _ _ _ | exact Kd.S_nil _ _ _ _ _, by first | exact Kd.R_nil _ _ _ _ _ | exact Kd.N_nil _ _ _ _ _ | exact Kd.V_nil _ _ _ _ _ | exact Kd.Q_nil _ _ _ _ _ | exact Kd.S_nil _ _ _ _ _, by repeat (first | (with_reducible first | exact HB.out | apply below_alloc | apply pw_below_drewN | apply below_drew1 | refine below_set ?_ GE162.out) | exact HB.out)⟩

end Go.Proofs.YtiamiagjkfioiaaGreatDoor.PT
