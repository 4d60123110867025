/- Walks: the operator that a text's match goes by: the sort of the six by where each stands. -/
import Derived.Test.YtlncdacoefoldaaGreatDoorSubB
import Derived.Test.YtlncdacoefoldaaGreatDoorSubQ
import Derived.Test.YtlncdacoefoldaaGreatDoorShelf
import Derived.Test.YtlncdacoefoldaaGreatDoorSort2
import Derived.Lib.SortBridge
import Derived.Deep.RegionWith
namespace Go.Proofs.YtlncdacoefoldaaGreatDoor.U
set_option linter.unusedVariables false
set_option linter.unusedSimpArgs false
set_option linter.unusedSectionVars false
open Go.RowKit Go.Proofs.YtlncdacoefoldaaGreatDoorW.PrintWords Go.Proofs.YtlncdacoefoldaaGreatDoorW.PrintLast Go.Proofs.YtlncdacoefoldaaGreatDoor.PX Go.Proofs.YtlncdacoefoldaaGreatDoor.L

/-- a sign with its operator -/
def encS (x : ByteArray × Nat) : List Value := [.string x.1, .func (.func x.2) #[] #[]]
def pl (s t : ByteArray) : Option Nat := idx s.data.toList t.data.toList
def ltS (t : ByteArray) (a b : ByteArray × Nat) : Bool := match pl a.1 t, pl b.1 t with
  | none, _ => false
  | some _, none => true
  | some i, some j => decide (i < j)
theorem swoS (t : ByteArray) : Go.Sort.SWO (ltS t) := by
  refine ⟨fun x => ?_, fun x y z h k => ?_, fun x y z h k => ?_⟩
  · unfold ltS; cases pl x.1 t <;> simp
  · unfold ltS at *
    cases hx : pl x.1 t <;> cases hy : pl y.1 t <;> cases hz : pl z.1 t <;> simp_all
    omega
  · unfold ltS at *
    cases hx : pl x.1 t <;> cases hy : pl y.1 t <;> cases hz : pl z.1 t <;> simp_all
    omega
/-- the place as the program tells it -/
def plI (s t : ByteArray) : Int := fbI 0 (pl s t)
theorem ltS_eq (t : ByteArray) (a b : ByteArray × Nat) : ltS t a b = (if plI a.1 t < 0 then false else if plI b.1 t < 0 then true else decide (plI a.1 t < plI b.1 t)) := by
  unfold ltS plI
  cases hx : pl a.1 t with
  | none => simp [fbI]
  | some i =>
    cases hy : pl b.1 t with
    | none =>
      have : ¬ ((i : Int) < 0) := by omega
      simp [fbI, this]
    | some j =>
      have h1 : ¬ (fbI 0 (some i) < 0) := by show ¬ (((0 + i : Nat) : Int) < 0); omega
      have h2 : ¬ (fbI 0 (some j) < 0) := by show ¬ (((0 + j : Nat) : Int) < 0); omega
      rw [if_neg h1, if_neg h2]
      show decide (i < j) = decide (((0 + i : Nat) : Int) < ((0 + j : Nat) : Int))
      congr 1
      simp
/-- the six, as the program lists them -/
def sixV : List (ByteArray × Nat) := [(⟨#[58, 63]⟩, 123), (⟨#[63]⟩, 124), (⟨#[58, 45]⟩, 125), (⟨#[45]⟩, 126), (⟨#[58, 43]⟩, 127), (⟨#[43]⟩, 128)]
theorem sixV_size : ∀ x ∈ sixV, 1 ≤ x.1.size ∧ x.1.size ≤ 2 := by
  intro x hx
  simp only [sixV, List.mem_cons, List.not_mem_nil, or_false] at hx
  rcases hx with rfl | rfl | rfl | rfl | rfl | rfl <;> decide
def sx (i : Fin 6) : ByteArray × Nat := sixV.get i
def encF (i : Fin 6) : List Value := encS (sx i)
theorem sx_size (i : Fin 6) : 1 ≤ (sx i).1.size ∧ (sx i).1.size ≤ 2 := sixV_size _ (List.get_mem _ _)
def ltF (t : ByteArray) (a b : Fin 6) : Bool := ltS t (sx a) (sx b)
theorem swoF (t : ByteArray) : Go.Sort.SWO (ltF t) := ⟨fun x => (swoS t).1 (sx x), fun x y z h k => (swoS t).2 (sx x) (sx y) (sx z) h k, fun x y z h k => (swoS t).3 (sx x) (sx y) (sx z) h k⟩
set_option maxHeartbeats 2000000 in
theorem sub_less (tb : ByteArray) (hts : tb.size < 2305843009213693952) (Bs Bt : Nat) (W : World) (blk c : Nat) (G : Array (Fin 6)) (hs : W.cell? ⟨Bs, 0, none⟩ = some (.slice (some ⟨blk, 0, none⟩) G.size c)) (ht : W.cell? ⟨Bt, 0, none⟩ = some (.string tb)) (hc : ∀ j, j < G.size → ∀ c', c' < 2 → W.cell? ⟨blk, j * 2 + c', none⟩ = some ((encF G[j]!)[c']!)) (a b : Nat) (ha : a < G.size) (hb : b < G.size) :
    Calls Tryz.prog 129 #[.int .i64 a, .int .i64 b, .pointer (some ⟨Bt, 0, none⟩), .pointer (some ⟨Bs, 0, none⟩)] W fun e w' => e = .returned (.bool (ltF tb G[a]! G[b]!)) ∧ ∃ q, w' = W.drewN q := by
  have ca : W.cell? ⟨blk, a * 2, none⟩ = some (.string (sx G[a]!).1) := hc a ha 0 (by decide)
  have cb : W.cell? ⟨blk, b * 2, none⟩ = some (.string (sx G[b]!).1) := hc b hb 0 (by decide)
  have ga := sx_size G[a]!
  have gb := sx_size G[b]!
  unfold ltF
  rw [ltS_eq]
  obtain ⟨x, hx⟩ : ∃ x, x = (sx G[a]!).1 := ⟨_, rfl⟩
  obtain ⟨y, hy⟩ : ∃ y, y = (sx G[b]!).1 := ⟨_, rfl⟩
  rw [← hx] at ca ga ⊢
  rw [← hy] at cb gb ⊢
  have IA := Lib.hid (index_l tb x (tb.size + 1) hts ga.1 (by omega) (Nat.le_refl _))
  have IB := Lib.hid (index_l tb y (tb.size + 1) hts gb.1 (by omega) (Nat.le_refl _))
  rw [show fbI 0 (idx x.data.toList tb.data.toList) = plI x tb from rfl] at IA
  rw [show fbI 0 (idx y.data.toList tb.data.toList) = plI y tb from rfl] at IB
  clear hc hx hy ga gb hts
  obtain ⟨i, hi⟩ : ∃ i, i = plI x tb := ⟨_, rfl⟩
  obtain ⟨j, hj⟩ : ∃ j, j = plI y tb := ⟨_, rfl⟩
  rw [← hi] at IA ⊢
  rw [← hj] at IB ⊢
  clear hi hj
  by_cases hi : i < 0
  · rw [if_pos hi]
    go_enter Tryz.func129, Tryz.ntmps129
    go_wp2_with fail
    go_quiet ((go_at_call 100; refine (template_zzIndex.calls _ _ _ _ _ IA.out).mono ?_; rintro e w' ⟨rfl, ⟨nd, rfl⟩⟩; first | exact ⟨rfl, _, World.drewN_drewN _ _ _⟩ | exact ⟨rfl, _, Eq.trans (World.drewN_drewN _ _ _) (congrArg (World.drewN _) (Nat.add_assoc _ _ _))⟩ | exact ⟨rfl, _, rfl⟩))
    go_wp2_with fail
    go_quiet ((go_at_call 100; refine (template_zzIndex.calls _ _ _ _ _ IB.out).mono ?_; rintro e w' ⟨rfl, ⟨nd, rfl⟩⟩; first | exact ⟨rfl, _, World.drewN_drewN _ _ _⟩ | exact ⟨rfl, _, Eq.trans (World.drewN_drewN _ _ _) (congrArg (World.drewN _) (Nat.add_assoc _ _ _))⟩ | exact ⟨rfl, _, rfl⟩))
    go_wp2
    go_ret
    exact ⟨rfl, _, rfl⟩
  · rw [if_neg hi]
    by_cases hj : j < 0
    · rw [if_pos hj]
      go_enter Tryz.func129, Tryz.ntmps129
      go_wp2_with fail
      go_quiet ((go_at_call 100; refine (template_zzIndex.calls _ _ _ _ _ IA.out).mono ?_; rintro e w' ⟨rfl, ⟨nd, rfl⟩⟩; first | exact ⟨rfl, _, World.drewN_drewN _ _ _⟩ | exact ⟨rfl, _, Eq.trans (World.drewN_drewN _ _ _) (congrArg (World.drewN _) (Nat.add_assoc _ _ _))⟩ | exact ⟨rfl, _, rfl⟩))
      go_wp2_with fail
      go_quiet ((go_at_call 100; refine (template_zzIndex.calls _ _ _ _ _ IB.out).mono ?_; rintro e w' ⟨rfl, ⟨nd, rfl⟩⟩; first | exact ⟨rfl, _, World.drewN_drewN _ _ _⟩ | exact ⟨rfl, _, Eq.trans (World.drewN_drewN _ _ _) (congrArg (World.drewN _) (Nat.add_assoc _ _ _))⟩ | exact ⟨rfl, _, rfl⟩))
      go_wp2
      go_ret
      exact ⟨rfl, _, rfl⟩
    · rw [if_neg hj]
      go_enter Tryz.func129, Tryz.ntmps129
      go_wp2_with fail
      go_quiet ((go_at_call 100; refine (template_zzIndex.calls _ _ _ _ _ IA.out).mono ?_; rintro e w' ⟨rfl, ⟨nd, rfl⟩⟩; first | exact ⟨rfl, _, World.drewN_drewN _ _ _⟩ | exact ⟨rfl, _, Eq.trans (World.drewN_drewN _ _ _) (congrArg (World.drewN _) (Nat.add_assoc _ _ _))⟩ | exact ⟨rfl, _, rfl⟩))
      go_wp2_with fail
      go_quiet ((go_at_call 100; refine (template_zzIndex.calls _ _ _ _ _ IB.out).mono ?_; rintro e w' ⟨rfl, ⟨nd, rfl⟩⟩; first | exact ⟨rfl, _, World.drewN_drewN _ _ _⟩ | exact ⟨rfl, _, Eq.trans (World.drewN_drewN _ _ _) (congrArg (World.drewN _) (Nat.add_assoc _ _ _))⟩ | exact ⟨rfl, _, rfl⟩))
      go_wp2
      go_ret
      exact ⟨rfl, _, rfl⟩
noncomputable def tiT : TypeInfo := (Tryz.prog.info? 200).get (by kernel_rfl)
noncomputable def tiE : TypeInfo := (Tryz.prog.info? 199).get (by kernel_rfl)
theorem tiK (n : Nat) (h2 : 2 ≤ n) : Lib.swapperK n tiE 25 = 9 := by
  have a : tiE.hasPointers = true := by kernel_rfl
  have b : tiE.bytes = 24 := by kernel_rfl
  have c : (n == 0) = false := by simp; omega
  have d : (n == 1) = false := by simp; omega
  simp [Lib.swapperK, a, b, c, d]
theorem sub_sort (tb : ByteArray) (hts : tb.size < 2305843009213693952) (Bs Bt : Nat) (W : World) (base : Nat) (v : Value) (hown : W.ownsRow base 199 2 v 6 ((List.finRange 6).flatMap encF)) (hbx : W.cell? ⟨Bs, 0, none⟩ = some v) (hne : v.ownBlock ≠ some Bs) (hbt : W.cell? ⟨Bt, 0, none⟩ = some (.string tb)) (hnt : v.ownBlock ≠ some Bt) :
    Calls Tryz.prog 45 #[.iface 200 v, .func (.func 129) #[] #[.pointer (some ⟨Bt, 0, none⟩), .pointer (some ⟨Bs, 0, none⟩)]] W fun en w' =>
      en = .returned (.tuple #[]) ∧ ∃ l' : List (Fin 6), l'.Perm (List.finRange 6) ∧ l'.Pairwise (fun a b => ltF tb b a = false) ∧ w'.ownsRow base 199 2 v l'.length (l'.flatMap encF) ∧ W.grownBy w' v.ownBlock := by
  have hl : (List.finRange 6).length = 6 := by decide
  exact Srt.sort_own2 (P := Tryz.prog) (enc := encF) (k := 2) Tryz.laysGg6 200 199 tiT tiE (by kernel_rfl) (by kernel_rfl) (by kernel_rfl) (by kernel_rfl) 25 (fun _ => by kernel_rfl) (fun _ => rfl) (by decide) (by kernel_rfl) (fun _ => by kernel_rfl) (fun x v hv => by simp [encF, encS] at hv; rcases hv with rfl | rfl <;> rfl) (ltF tb) (swoF tb) 129
    (Go.Proofs.enters_of Tryz.func129 (by kernel_rfl) rfl) 73 74 81 (by kernel_rfl) (by kernel_rfl) 9 tiK (by kernel_rfl) false
    (fun args W => run_callFunc_extern Tryz.func81 (by kernel_rfl) (by kernel_rfl) (by kernel_rfl) (e := Extern.ReflectliteSwapper.swap false) (by kernel_rfl) args W) Bs Bt (.string tb) (fun W blk c G a b d => sub_less tb hts Bs Bt W blk c G a b d) W base v (List.finRange 6) (by rw [hl]; exact hown) hbx hne hbt hnt (by rw [hl]; decide)
end Go.Proofs.YtlncdacoefoldaaGreatDoor.U
